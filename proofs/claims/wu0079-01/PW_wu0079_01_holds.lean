import PyProof.Rows.All
import Wide.All
import OpenK.AllK
import Wide.FinOn
import PyProof.FactsAll.tuple_1
import PyProof.FactsAll.tuple_2
import Lean
import PySem.Challenge.RW_wu0079_01
open PySem PySem.W PyProof.Rows
set_option Elab.async false
set_option compiler.extract_closed false
set_option rowWalk.seconds 0
namespace Mine

noncomputable def keepOf {α : Type} : List Bool → List α → List α
  | b :: bs, x :: xs => if b then x :: keepOf bs xs else keepOf bs xs
  | _, _ => []
/-- the row's program, less the statements that nothing of the law's reaches -/
noncomputable def view0 : Program := { PySem.Challenge.pw_wu0079_01 with main := { PySem.Challenge.pw_wu0079_01.main with body := keepOf [false, false, false, false, false, true, true, true, true, true, false, true, true, true, true, true, false, true, true, true, true, true, true, true, true, true] PySem.Challenge.pw_wu0079_01.main.body } }
-- the head at once: one check of the kernel's, in place of the pieces (whose twins make the compiled file too large)
-- the looks at the law, each by a check of its own, with the library's quick twins of the looks (the kit's o_law lays a twin of the whole program: 3.5 MB)
set_option maxRecDepth 100000 in
set_option maxHeartbeats 8000000 in
theorem law_said : OpenLaw.wellSaid PySem.Challenge.rw_wu0079_01 = true := by
  delta OpenLaw.wellSaid
  repeat' (with_reducible refine look_both ?_ ?_)
  · delta OpenRow.wellSaid OpenRow.partSaid looksOpen
    repeat' (with_reducible refine look_both ?_ ?_)
    all_goals ((repeat (first | rw [PySem.W.Fast.te8326940854005059898] | rw [PySem.W.Fast.te17119622794617984870] | rw [PySem.W.Fast.te8179353310426384613] | rw [PySem.W.Fast.te8377067652309620493] | rw [PySem.W.Fast.te18344453789297297638] | rw [PySem.W.Fast.te3471404346716756564] | rw [PySem.W.Fast.te10792542408131684335] | rw [PySem.W.Fast.te6984425678791042302] | rw [PySem.W.Fast.te16286561074155671207] | rw [PySem.W.Fast.te10501279942588096481] | rw [PySem.W.Fast.te12879404354523853263])); decide +kernel)
  all_goals ((repeat (first | rw [PySem.W.Fast.te8326940854005059898] | rw [PySem.W.Fast.te17119622794617984870] | rw [PySem.W.Fast.te8179353310426384613] | rw [PySem.W.Fast.te8377067652309620493] | rw [PySem.W.Fast.te18344453789297297638] | rw [PySem.W.Fast.te3471404346716756564] | rw [PySem.W.Fast.te10792542408131684335] | rw [PySem.W.Fast.te6984425678791042302] | rw [PySem.W.Fast.te16286561074155671207] | rw [PySem.W.Fast.te10501279942588096481] | rw [PySem.W.Fast.te12879404354523853263])); decide +kernel)
section
local macro_rules | `(tactic| o_law) => `(tactic| refine holds_law law_said fun said => ?_)
local macro_rules | `(tactic| o_head $H) => `(tactic| (
  refine holds_open (q := view0) (loose := [Str.ofString "bisect_right", Str.ofString "insort_left", Str.ofString "bisect_left"]) (Xt := fun s => xlAt view0 [] s && recOk _ s) (XP := XL view0 []) (Yf := Hook.obs $H) (Ya := Hook.val $H) (YP := Hook.says $H) (N := 3548) ?hl (Hook.of $H) (Hook.keeps $H) (fun s e => xl_of s (Bool.and_eq_true_iff.mp e).1) XL.keeps (by rfl) (by rfl) (by rfl) (fun s e => recFacts_of (Bool.and_eq_true_iff.mp e).2) (by rfl) (by first | assumption | decide +kernel) (by decide +kernel) ⟨rfl, rfl, rfl, rfl, rfl, by decide +kernel⟩ ?hw ?hc
  case hl => (intro w; delta openEnds fencedOpening topFrom; rw [PySem.W.Fast.te14082659384304107361, PySem.W.Fast.te10274390034422433532, PySem.W.Fast.te14289696077712309145, PySem.W.Fast.te1435165496053646825, PySem.W.Fast.te4187177175401517315]; rw [PySem.W.Fast.te14364793385576792824]; kernel_rfl)))
set_option maxRecDepth 100000 in
set_option maxHeartbeats 8000000 in
open_top hd for PySem.Challenge.rw_wu0079_01
end
local macro_rules | `(tactic| omega) => `(tactic| lia)

section

abbrev tupO (vs : List Value) (n : Nat) : Obj := { cls := .type "tuple", data := .seq vs.toArray n }
/-- a tuple of two ints, in the ledger -/
inductive Tup2 (news : List (Addr × Obj)) (v : Value) (p : Int × Int) : Prop
  | mk (a n t u) (f1 : v = .ref a) (f2 : (a, tupO [.int p.1 t, .int p.2 u] n) ∈ news)
theorem Tup2.mono {news news' : List (Addr × Obj)} {v : Value} {p : Int × Int} (h : Tup2 news v p) (hs : ∀ q ∈ news, q ∈ news') : Tup2 news' v p := by
  obtain ⟨a, n, t, u, e, hm⟩ := h; exact ⟨a, n, t, u, e, hs _ hm⟩
abbrev qnDict (P : Params) (tk : Tok) (v : Value) : Obj := dictOf [⟨PyData.keyHash P (Str.ofString "text"), .str (Str.ofString "text") tk, v⟩] 1
/-- a QName whose text is a tuple of two ints -/
inductive QN (P : Params) (news : List (Addr × Obj)) (v : Value) (p : Int × Int) : Prop
  | mk (x d tk tv) (f1 : v = .ref x) (f2 : (x, instObj 166 d) ∈ news) (f3 : (d, qnDict P tk tv) ∈ news) (f4 : Tup2 news tv p)
theorem QN.mono {P : Params} {news news' : List (Addr × Obj)} {v : Value} {p : Int × Int} (h : QN P news v p) (hs : ∀ q ∈ news, q ∈ news') : QN P news' v p := by
  obtain ⟨x, d, tk, tv, e, h1, h2, h3⟩ := h; exact ⟨x, d, tk, tv, e, hs _ h1, hs _ h2, h3.mono hs⟩

/-- entry of a call of a plain def -/
theorem enter {prog : Program} {w : World} {A : Around} {s : Shared} {h₀ : Heap} {L : Addr} {m : Str → Option Value} {news : List (Addr × Obj)} {K : Frag} {p : Program} {loose : List Str} {mean : ExcName → Option Value} {mg mb : Str → Option Value}
    {R : Result → Shared → Prop} {name qual : Str} {params : Arguments} {body : List Stmt} {scope : Scope} {dV kV doc pm cdv ct oc : Value} {an od : Option Addr} {osl : Array (Option Value)} {f : Addr} {args : Args} {binds : List (Str × Value)}
    (F : Fr h₀ L s.heap m) (N : News h₀ L s.heap news) (X : K.In h₀) (T : Top p loose mean mg mb h₀)
    (ho : K.lookup f = some ⟨oc, od, .func (fnOf name qual params body scope dV kV doc pm an cdv ct), osl⟩) (hcd : codeIn K cdv qual = true) (hroom : A.depth < recursionLimit)
    (hbind : BindsTo s (fnOf name qual params body scope dV kV doc pm an cdv ct) args binds) (hloc : ∀ y ∈ binds, scope.names.lookup y.1 = some .local)
    (h : ∀ g L' h₁, Fr g L' h₁ (fun y => binds.reverse.lookup y) → News g L' h₁ news → K.In g → Top p loose mean mg mb g →
      wpAny (model prog w) (A.deeper (envOf qual scope L' f cdv)) (execs body (envOf qual scope L' f cdv))
        (fun fl s' => LeaveK h₀ L m g R (match fl with | .ret v => v | _ => .none) s') (fun _ _ => False)
        { s with heap := h₁, toks := s.toks + binds.length })
    (hco : scope.isCoroutine = false := by rfl) (hgen : scope.isGenerator = false := by rfl) (hk : scope.kind = .function := by rfl)
    (hcell : ∀ x ∈ scope.names, x.2 ≠ .cell := by decide) : codeAny (model prog w) A (.call (.ref f) args) R s := by
  have hk₀ := X.keeps F.keep
  refine codeAny_call_def (fd := fnOf name qual params body scope dV kV doc pm an cdv ct) (body := body) (binds := binds) hroom (hk₀ _ _ ho) rfl (T.nolimit.keeps F.keep) (codeRec_of hk₀ hcd) rfl hbind hcell hloc (fun h₁ hns hk₁ => ?_) hco hgen hk
  have nm : ∀ b o, h₀.get? b = some o → b ∉ news.map (·.1) := fun b o e q => by
    obtain ⟨p, hp, rfl⟩ := List.mem_map.mp q
    rw [(N p hp).2.2] at e; cases e
  have st : h₀.StaysIn (hideAll s.heap (news.map (·.1))) := fun b o e => hideAll_get _ (F.keep b o e) (nm b o e)
  obtain ⟨oL, es, ep, hL, hLd, hLk, hLf⟩ := F.ns
  have nL : L ∉ news.map (·.1) := fun q => by
    obtain ⟨p, hp, e⟩ := List.mem_map.mp q
    exact (N p hp).2.1 e
  have hLg := hideAll_get (news.map (·.1)) hL nL
  have Xg := X.keeps st
  have Tg := T.keeps st
  refine wpAny_mono (h (hideAll s.heap (news.map (·.1))) s.heap.objs.size h₁ ⟨hns, fun b o e => hk₁ b o (of_hideAll _ e), Nat.le_of_eq (hideAll_size _ _)⟩
    (fun p hp => ⟨hk₁ _ _ (N p hp).1, Nat.ne_of_lt (Heap.lt_size (N p hp).1), hideAll_none _ (List.mem_map_of_mem hp)⟩) Xg Tg) (fun fl s' hl => ?_) fun _ _ y => y.elim
  obtain ⟨L', m', news', F', N', k⟩ := hl
  refine k ⟨⟨oL, es, ep, F'.keep L oL hLg, hLd, hLk, hLf⟩, fun b o e => F'.keep b o (st b o e), F.above⟩ fun p hp => ⟨(N' p hp).1, fun q => ?_, ?_⟩
  · have := (N' p hp).2.2; rw [q, hLg] at this; cases this
  · cases q : h₀.get? p.1 with
    | none => rfl
    | some o => have := (N' p hp).2.2; rw [st _ _ q] at this; cases this

section
variable {prog : Program} {w : World} {A : Around} {E : Value → Shared → Prop} {s : Shared} {h₀ : Heap} {L D : Addr} {news : List (Addr × Obj)} {vs : List Value} {n : Nat}
theorem len_news {Q : Value → Shared → Prop} (N : News h₀ L s.heap news) (hm : (D, listOf vs.toArray n) ∈ news) (hz : vs.length ≤ 1000) (h : ∀ t tk, Q (.int vs.length t) { s with toks := tk }) :
    wpAny (model prog w) A (call (.builtin "len") [.ref D]) Q E s := by
  have hl : s.heap.IsList D vs.toArray := N.isList hm
  have e : vs.toArray.size = vs.length := List.size_toArray
  exact PySem.Calls.call_len_list hl (by rw [e]; omega) (by rw [e]; exact h _ _)
theorem item_news {value slice : PySem.Expr} {k : Int} {u : Tok} {v : Value} {Q : Value → Shared → Prop} (N : News h₀ L s.heap news) (hm : (D, listOf vs.toArray n) ∈ news) (h0 : 0 ≤ k) (hhi : k < 2 ^ 63) (hx : vs[k.toNat]? = some v) (h : Q v s)
    (hs : subscripted slice false (.ref D) (.int k u) = operate [.ref D, .int k u] (getItem (.ref D) (.int k u)) := by with_unfolding_all rfl) :
    wpAny (model prog w) A (subscriptTail value slice (.ref D) (.int k u)) Q E s := by
  have hl : s.heap.IsList D vs.toArray := N.isList hm
  exact tail_any hl.typeIs slot_list_getitem.lookup (wpAny_getItem_list hl h0 hhi (by simpa using hx) h) hs
end
/-- a mark in the context: the walk is to stop at some step -/
noncomputable def Mark (_ : Nat) : Prop := True
theorem mark (n : Nat) : Mark n := trivial
theorem heldAt (n : Nat) {P : Prop} (_ : Mark n) (h : P) : P := h
/-- where the walk is to stop -/
noncomputable def Hold (P : Prop) : Prop := P
theorem held {P : Prop} (h : Hold P) : P := h
section
variable {prog : Program} {w : World} {A : Around} {E : Value → Shared → Prop} {s : Shared} {v : Value} {env : Env} {vs : List Value} {kw : List (Str × Value)} {a : Addr}
theorem heldStore (n : String) {Q : Unit → Shared → Prop} (h : Hold (wpAny (model prog w) A (storeName env (Str.ofString n) v) Q E s)) : wpAny (model prog w) A (storeName env (Str.ofString n) v) Q E s := h
theorem heldCall (f : Addr) {Q : Value → Shared → Prop} (h : Hold (wpAny (model prog w) A (call (.ref f) vs kw) Q E s)) : wpAny (model prog w) A (call (.ref f) vs kw) Q E s := h
theorem heldLen {Q : Value → Shared → Prop} (h : Hold (wpAny (model prog w) A (call (.builtin "len") [.ref a]) Q E s)) : wpAny (model prog w) A (call (.builtin "len") [.ref a]) Q E s := h
end
theorem whileStep2_next {h₀ h' : Heap} {L : Addr} {s : Shared} {J : Nat → (Str → Option Value) → List (Addr × Obj) → Prop} {Q : Flow → Shared → Prop} {n n' tk : Nat} {m₂ : Str → Option Value} {news₂ : List (Addr × Obj)}
    (F : Fr h₀ L h' m₂) (N : News h₀ L h' news₂) (hn : n' < n) (hJ : J n' m₂ news₂) : WhileStep2 h₀ L s J Q n .next { s with heap := h', toks := tk } := ⟨h', tk, m₂, news₂, n', rfl, F, N, hn, hJ⟩
theorem delL_app (v : Value) (bs : List Value) : ∀ as : List Value, ki_delL (as ++ v :: bs) as.length = some (as ++ bs)
  | [] => rfl
  | a :: as => by
    show (match ki_delL (as ++ v :: bs) as.length with | some q => some (a :: q) | none => none) = _
    rw [delL_app v bs as]; rfl
theorem del_news {prog : Program} {w : World} {A : Around} {E : Value → Shared → Prop} {s : Shared} {h₀ : Heap} {L H : Addr} {m : Str → Option Value} {led : List (Addr × Obj)} {as bs : List Value} {v : Value} {n : Nat} {i : Int} {u : Tok} {Q : Unit → Shared → Prop}
    (F : Fr h₀ L s.heap m) (N : News h₀ L s.heap ((H, listOf (as ++ v :: bs).toArray n) :: led)) (hled : ∀ p ∈ led, p.1 ≠ H) (hi : i = as.length) (hz : (as ++ v :: bs).length ≤ 1000)
    (h : ∀ h', Fr h₀ L h' m → News h₀ L h' ((H, listOf (as ++ bs).toArray (n + 1)) :: led) → Q () { s with heap := h' }) : wpAny (model prog w) A (delItem (.ref H) (.int i u)) Q E s := by
  have hl : as.length < (as ++ v :: bs).length := by simp
  refine ki_del F N ?_ (k := as.length) ?_ (by rw [List.toList_toArray]; exact delL_app v bs as) (Upd.head hled) ?_ h
  · unfold Builtin.List.listFitsIndex; rw [hi]; simp; omega
  · unfold seqIndex?
    rw [hi, List.size_toArray]
    have h1 : ¬ ((as.length : Int) < 0) := by omega
    simp only [h1, if_false]
    rw [if_pos (by simp only [Bool.and_eq_true, decide_eq_true_eq]; omega)]
    rw [Int.toNat_natCast]
  · rw [sizeLine_eq, List.toList_toArray]; omega
theorem intEq {a b : Int} {t : Tok} (h : a = b) : some (Value.int a t) = some (Value.int b t) := by rw [h]
theorem ground9 {h₀ h : Heap} {L : Addr} {m : Str → Option Value} {news : List (Addr × Obj)} {R : Result → Shared → Prop} (F : Fr h₀ L h m) (N : News h₀ L h news) :
    Fr h₀ L (hideAll h (news.map (·.1))) m ∧ h₀.StaysIn (hideAll h (news.map (·.1))) ∧ ∀ v s', LeaveK h₀ L m (hideAll h (news.map (·.1))) R v s' → R (.ok (.ret v)) s' := by
  have nm : ∀ b o, h₀.get? b = some o → b ∉ news.map (·.1) := fun b o e q => by
    obtain ⟨p, hp, rfl⟩ := List.mem_map.mp q
    rw [(N p hp).2.2] at e; cases e
  have st : h₀.StaysIn (hideAll h (news.map (·.1))) := fun b o e => hideAll_get _ (F.keep b o e) (nm b o e)
  obtain ⟨oL, es, ep, hL, hLd, hLk, hLf⟩ := F.ns
  have nL : L ∉ news.map (·.1) := fun q => by
    obtain ⟨p, hp, e⟩ := List.mem_map.mp q
    exact (N p hp).2.1 e
  have hLg := hideAll_get (news.map (·.1)) hL nL
  refine ⟨⟨⟨oL, es, ep, hLg, hLd, hLk, hLf⟩, st, F.above⟩, st, fun v s' hl => ?_⟩
  obtain ⟨L', m', news', F', N', k⟩ := hl
  refine k ⟨⟨oL, es, ep, F'.keep L oL hLg, hLd, hLk, hLf⟩, fun b o e => F'.keep b o (st b o e), F.above⟩ fun p hp => ⟨(N' p hp).1, fun q => ?_, ?_⟩
  · have := (N' p hp).2.2; rw [q, hLg] at this; cases this
  · cases q : h₀.get? p.1 with
    | none => rfl
    | some o => have := (N' p hp).2.2; rw [st _ _ q] at this; cases this
/-- entry of a call of a def with captured names -/
theorem enterC {prog : Program} {w : World} {A : Around} {s : Shared} {h₀ : Heap} {L : Addr} {m : Str → Option Value} {news : List (Addr × Obj)} {K : Frag} {p : Program} {loose : List Str} {mean : ExcName → Option Value} {mg mb : Str → Option Value}
    {R : Result → Shared → Prop} {name qual : Str} {params : Arguments} {body : List Stmt} {scope : Scope} {dV kV doc pm cdv ct oc : Value} {an od : Option Addr} {osl : Array (Option Value)} {f : Addr} {args : Args} {binds : List (Str × Value)}
    (F : Fr h₀ L s.heap m) (N : News h₀ L s.heap news) (X : K.In h₀) (T : Top p loose mean mg mb h₀)
    (ho : K.lookup f = some ⟨oc, od, .func (fnOf name qual params body scope dV kV doc pm an cdv ct), osl⟩) (hcd : codeIn K cdv qual = true) (hroom : A.depth < recursionLimit)
    (hbind : BindsTo s (fnOf name qual params body scope dV kV doc pm an cdv ct) args binds) (hkind : (binds.all fun y => scope.names.lookup y.1 == some .local || scope.names.lookup y.1 == some .cell) = true)
    (hnd : ((cellsFrom 0 scope.names []).map (·.1)).Nodup)
    (h : ∀ g L' h₁ tk cells, Fr g L' h₁ (bindL (envOfC qual scope L' f cdv).kindOf binds fun _ => none) → News g L' h₁ (cells ++ news) →
      CellsAre (bindC (envOfC qual scope L' f cdv).kindOf binds fun _ => none) (cellsFrom (L' + 1) scope.names []) cells → K.In g → Top p loose mean mg mb g → (∀ p ∈ news, p.1 < L') → h₀.StaysIn g →
      wpAny (model prog w) (A.deeper (envOfC qual scope L' f cdv)) (execs body (envOfC qual scope L' f cdv))
        (fun fl s' => LeaveK h₀ L m g R (match fl with | .ret v => v | _ => .none) s') (fun _ _ => False)
        { s with heap := h₁, toks := tk })
    (hco : scope.isCoroutine = false) (hgen : scope.isGenerator = false) (hk : scope.kind = .function) : codeAny (model prog w) A (.call (.ref f) args) R s := by
  obtain ⟨FG, st, lv⟩ := ground9 (R := R) F N
  have hk₀ := X.keeps F.keep
  have Xg := X.keeps st
  have Tg := T.keeps st
  refine codeAny_call_function hroom (hk₀ _ _ ho) rfl hco hgen rfl (codeRec_of hk₀ hcd) (hbind _ _ _ _ ?_)
  refine wpAny_newFunctionEnv_cells hk (kindsX hkind _) fun env' he s' x => ?_
  subst he
  refine ⟨(T.nolimit.keeps F.keep).keeps x.toInCall.keep, codeAny_func ?_⟩
  obtain ⟨h₁, tk, rfl, _⟩ := x.done
  have hk₁ := x.toInCall.keep
  obtain ⟨cells, NC, Y⟩ := Cl.news (h₀ := s.heap) (Nat.le_refl _) fun n c hm => ⟨x.cell n c (lookup_of_mem_nodup (cellsFrom_names scope.names 0 (s.heap.objs.size + 1) [] [] rfl ▸ hnd) hm), x.above n c hm⟩
  refine wpAny_mono (h _ s.heap.objs.size h₁ tk cells ⟨x.toInCall.ns, fun b o e => hk₁ b o (of_hideAll _ e), Nat.le_of_eq (hideAll_size _ _)⟩ (fun p hp => ?_) Y Xg Tg (fun p hp => Heap.lt_size (N p hp).1) st) (fun fl s' hl => lv _ _ hl) fun _ _ y => y.elim
  rcases List.mem_append.mp hp with hp | hp
  · refine ⟨(NC p hp).1, (NC p hp).2.1, ?_⟩
    cases q : (hideAll s.heap (news.map (·.1))).get? p.1 with
    | none => rfl
    | some o => have := of_hideAll _ q; rw [(NC p hp).2.2] at this; cases this
  · exact ⟨hk₁ _ _ (N p hp).1, Nat.ne_of_lt (Heap.lt_size (N p hp).1), hideAll_none _ (List.mem_map_of_mem hp)⟩
/-- entry of a call of a lambda that stands in the ledger -/
theorem enterL {prog : Program} {w : World} {A : Around} {s : Shared} {h₀ : Heap} {L : Addr} {m : Str → Option Value} {news : List (Addr × Obj)} {K : Frag} {p : Program} {loose : List Str} {mean : ExcName → Option Value} {mg mb : Str → Option Value}
    {R : Result → Shared → Prop} {name qual : Str} {params : Arguments} {body : PySem.Expr} {scope : Scope} {cl : List (Str × Addr)} {pm ctv : Value} {c' : Addr} {f : Addr} {args : Args} {binds : List (Str × Value)}
    (F : Fr h₀ L s.heap m) (N : News h₀ L s.heap news) (X : K.In h₀) (T : Top p loose mean mg mb h₀)
    (ho : (f, kla_obj name qual params body scope cl pm c' ctv) ∈ news) (hcd : s.heap.CodeRec (.ref c') qual) (hroom : A.depth < recursionLimit)
    (hbind : bindArgs (kla_fn name qual params body scope cl pm (.ref c') ctv) args = pure binds) (hloc : ∀ y ∈ binds, scope.names.lookup y.1 = some .local)
    (h : ∀ g L' h₁, Fr g L' h₁ (fun y => binds.reverse.lookup y) → News g L' h₁ news → K.In g → Top p loose mean mg mb g →
      wpAny (model prog w) (A.deeper (envX qual scope L' f (.ref c') cl)) (eval body (envX qual scope L' f (.ref c') cl))
        (fun v s' => LeaveK h₀ L m g R v s') (fun _ _ => False) { s with heap := h₁, toks := s.toks + binds.length })
    (hco : scope.isCoroutine = false) (hgen : scope.isGenerator = false) (hk : scope.kind = .function)
    (hcell : ∀ x ∈ scope.names, x.2 ≠ .cell) : codeAny (model prog w) A (.call (.ref f) args) R s := by
  obtain ⟨FG, st, lv⟩ := ground9 (R := R) F N
  have Xg := X.keeps st
  have Tg := T.keeps st
  refine kla_callFunE hroom (N _ ho).1 rfl hco hgen rfl hcd ?_
  rw [hbind]
  refine wpAny_pure (wpAny_newFunctionEnv hcell hloc (fun h₁ hns hsb => ⟨((T.nolimit).keeps F.keep).fresh _ hsb, ?_⟩) hk)
  show codeAny _ _ (.expr body (envX qual scope s.heap.objs.size f (.ref c') cl)) _ _
  have hk₁ : ∀ b o, s.heap.get? b = some o → h₁.get? b = some o := fun b o e => hsb.extBut b o (Nat.ne_of_lt (Heap.lt_size e)) (Heap.get?_push_of_some _ e)
  exact kla_codeExpr (wpAny_mono (h _ s.heap.objs.size h₁ ⟨hns, fun b o e => hk₁ b o (of_hideAll _ e), Nat.le_of_eq (hideAll_size _ _)⟩
    (fun p hp => ⟨hk₁ _ _ (N p hp).1, Nat.ne_of_lt (Heap.lt_size (N p hp).1), hideAll_none _ (List.mem_map_of_mem hp)⟩) Xg Tg) (fun v s' hl => lv _ _ hl) fun _ _ y => y.elim)
theorem news_pull {h₀ h : Heap} {L : Addr} (pre : List (Addr × Obj)) {t : Addr × Obj} {post : List (Addr × Obj)} (N : News h₀ L h (pre ++ t :: post)) : News h₀ L h (t :: (pre ++ post)) := fun q hq => N q (by
  simp only [List.mem_cons, List.mem_append] at hq ⊢
  rcases hq with h | h | h
  · exact .inr (.inl h)
  · exact .inl h
  · exact .inr (.inr h))
/-- room: short proofs in omega's place -/
theorem room0 {d k r : Nat} (h : d + k < r) : d < r := Nat.lt_of_le_of_lt (Nat.le_add_right _ _) h
theorem roomN {d k n r : Nat} (h : d + k < r) (e : Nat.ble n k = true) : d + n < r := Nat.lt_of_le_of_lt (Nat.add_le_add_left (Nat.le_of_ble_eq_true e) _) h
theorem roomD0 {d k r : Nat} (h : d + k < r) (e : Nat.ble 1 k = true) : d + 1 < r := roomN h e
theorem roomD {d k n r : Nat} (h : d + k < r) (e : Nat.ble (1 + n) k = true) : d + 1 + n < r := by rw [Nat.add_assoc]; exact roomN h e

end

section
/-- two lists, item by item -/
noncomputable def All2 {α β : Type} (R : α → β → Prop) (vs : List α) (ps : List β) : Prop :=
  vs.length = ps.length ∧ ∀ (i : Nat) (v : α) (p : β), vs[i]? = some v → ps[i]? = some p → R v p
namespace All2
variable {α β : Type} {R S : α → β → Prop} {vs ws : List α} {ps qs : List β}
theorem mono (h : All2 R vs ps) (hs : ∀ v p, R v p → S v p) : All2 S vs ps := ⟨h.1, fun i v p a b => hs _ _ (h.2 i v p a b)⟩
theorem nil : All2 R [] [] := ⟨rfl, fun i v p a _ => by simp at a⟩
theorem cons {v : α} {p : β} (h : R v p) (r : All2 R vs ps) : All2 R (v :: vs) (p :: ps) := by
  refine ⟨by simp [r.1], fun i v' p' a b => ?_⟩
  cases i with
  | zero => simp at a b; subst a; subst b; exact h
  | succ i => exact r.2 i v' p' (by simpa using a) (by simpa using b)
theorem append (h : All2 R vs ps) (k : All2 R ws qs) : All2 R (vs ++ ws) (ps ++ qs) := by
  refine ⟨by simp [h.1, k.1], fun i v p a b => ?_⟩
  by_cases hi : i < vs.length
  · rw [List.getElem?_append_left hi] at a
    rw [List.getElem?_append_left (h.1 ▸ hi)] at b
    exact h.2 i v p a b
  · have hi' : vs.length ≤ i := Nat.le_of_not_lt hi
    rw [List.getElem?_append_right hi'] at a
    rw [List.getElem?_append_right (h.1 ▸ hi')] at b
    exact k.2 _ v p a (h.1 ▸ b)
theorem take (h : All2 R vs ps) (n : Nat) : All2 R (vs.take n) (ps.take n) := by
  refine ⟨by simp [h.1], fun i v p a b => ?_⟩
  rw [List.getElem?_take] at a b
  split at a
  · rename_i q; rw [if_pos q] at b; exact h.2 i v p a b
  · cases a
theorem drop (h : All2 R vs ps) (n : Nat) : All2 R (vs.drop n) (ps.drop n) := by
  refine ⟨by simp [h.1], fun i v p a b => ?_⟩
  rw [List.getElem?_drop] at a b
  exact h.2 _ v p a b
theorem get (h : All2 R vs ps) {i : Nat} {p : β} (hi : ps[i]? = some p) : ∃ v, vs[i]? = some v ∧ R v p := by
  have hl : i < ps.length := (List.getElem?_eq_some_iff.mp hi).1
  have hv : i < vs.length := h.1 ▸ hl
  exact ⟨vs[i], List.getElem?_eq_getElem hv, h.2 i _ _ (List.getElem?_eq_getElem hv) hi⟩
theorem get' (h : All2 R vs ps) {i : Nat} {v : α} (hi : vs[i]? = some v) : ∃ p, ps[i]? = some p ∧ R v p := by
  have hl : i < vs.length := (List.getElem?_eq_some_iff.mp hi).1
  have hv : i < ps.length := h.1 ▸ hl
  exact ⟨ps[i], List.getElem?_eq_getElem hv, h.2 i _ _ hi (List.getElem?_eq_getElem hv)⟩
theorem split (h : All2 R vs (ps ++ qs)) : ∃ a b, vs = a ++ b ∧ All2 R a ps ∧ All2 R b qs := by
  refine ⟨vs.take ps.length, vs.drop ps.length, (List.take_append_drop _ _).symm, ?_, ?_⟩
  · simpa using h.take ps.length
  · simpa using h.drop ps.length
theorem uncons {p : β} (h : All2 R vs (p :: ps)) : ∃ v r, vs = v :: r ∧ R v p ∧ All2 R r ps := by
  cases vs with
  | nil => have := h.1; simp at this
  | cons v r =>
    refine ⟨v, r, rfl, h.2 0 v p rfl rfl, by simpa using h.1, fun i v' p' a b => h.2 (i + 1) v' p' (by simpa using a) (by simpa using b)⟩
end All2
theorem last2 {α : Type} {l : List α} (h : 2 ≤ l.length) : ∃ l' b a, l = l' ++ [b, a] := by
  match e : l.reverse with
  | [] => have := congrArg List.length e; simp at this; subst this; simp at h
  | [x] => have := congrArg List.length e; simp at this; omega
  | a :: b :: r =>
    refine ⟨r.reverse, b, a, ?_⟩
    have := congrArg List.reverse e
    simpa using this

end

section
noncomputable def bel (a b c : Int × Int) : Bool := decide ((b.2 - a.2) * (c.1 - a.1) < (c.2 - a.2) * (b.1 - a.1))
/-- what is left of the points to the left (nearest first), then to the right, of a new one -/
noncomputable def pruneL (p : Int × Int) : List (Int × Int) → List (Int × Int)
  | a :: b :: r => if bel b a p then a :: b :: r else pruneL p (b :: r)
  | l => l
noncomputable def pruneR (p : Int × Int) : List (Int × Int) → List (Int × Int)
  | a :: b :: r => if bel p a b then a :: b :: r else pruneR p (b :: r)
  | l => l
noncomputable def laidFin (pre suf : List (Int × Int)) (p : Int × Int) : List (Int × Int) := (pruneL p pre.reverse).reverse ++ p :: pruneR p suf
noncomputable def laidAt (pre suf : List (Int × Int)) (p : Int × Int) : List (Int × Int) :=
  match suf with
  | [] => laidFin pre [] p
  | b :: r => if b.1 = p.1 then (if b.2 ≤ p.2 then pre ++ b :: r else laidFin pre r p)
    else match pre.getLast? with
      | none => laidFin pre (b :: r) p
      | some a => if bel a p b then laidFin pre (b :: r) p else pre ++ b :: r
noncomputable def laid (hull : List (Int × Int)) (p : Int × Int) : List (Int × Int) := laidAt (hull.takeWhile fun q => q.1 < p.1) (hull.dropWhile fun q => q.1 < p.1) p

theorem while_of {α : Type} {q : α → Bool} : ∀ (l : List α) (c : Nat), (∀ i a, l[i]? = some a → i < c → q a = true) → (∀ i a, l[i]? = some a → c ≤ i → q a = false) → l.takeWhile q = l.take c ∧ l.dropWhile q = l.drop c
  | [], c, _, _ => by simp
  | a :: l, 0, _, h2 => by
    have := h2 0 a rfl (Nat.le_refl _)
    simp [this]
  | a :: l, c + 1, h1, h2 => by
    have e := h1 0 a rfl (Nat.succ_pos _)
    have ih := while_of l c (fun i b hb hi => h1 (i + 1) b (by simpa using hb) (Nat.succ_lt_succ hi)) (fun i b hb hi => h2 (i + 1) b (by simpa using hb) (Nat.succ_le_succ hi))
    simp [e, ih.1, ih.2]

theorem pruneL_short {p : Int × Int} : ∀ {l : List (Int × Int)}, l.length ≤ 1 → pruneL p l = l
  | [], _ => by simp [pruneL]
  | [a], _ => by simp [pruneL]
  | _ :: _ :: _, h => by simp at h
theorem pruneR_short {p : Int × Int} : ∀ {l : List (Int × Int)}, l.length ≤ 1 → pruneR p l = l
  | [], _ => by simp [pruneR]
  | [a], _ => by simp [pruneR]
  | _ :: _ :: _, h => by simp at h

end

section
local macro_rules | `(tactic| k_mem) => `(tactic| assumption)
local macro_rules | `(tactic| k_units) => `(tactic| first | exact room0 (by assumption) | exact roomN (by assumption) rfl | ((try simp only [Around.deeper_units, Around.in1_units]); omega))
local macro_rules | `(tactic| k_room) => `(tactic| first | exact room0 (by assumption) | exact roomN (by assumption) rfl | exact roomD0 (by assumption) rfl | exact roomD (by assumption) rfl | ((try simp only [depth_under_make, depth_under_kw, depth_in1, depth_deeper, depth_caller]); omega))
local macro_rules | `(tactic| k_enter) => `(tactic| (refine' enter (by k_asm) (by k_asm) (by k_asm) (by k_asm) (by k_is) (by k_is) (by k_room) (by first | exact BindsTo.of_eq rfl | exact binds_K (by k_in) rfl (by k_is) rfl rfl rfl | exact kp_binds (by k_in) (fun _ => rfl)) (by exact locs rfl) ?_ (by exact rfl) (by exact rfl) (by exact rfl) (by decide); k_whole; intro g' L' h' F' N' X' T'; (try dsimp only)))
local macro_rules | `(tactic| walk_at "my tup") => `(tactic| (k_here; k_dflt (refine' item_tupleT (News.isTup (by k_asm) (by k_mem)) (by decide) (by decide) (by rfl) (by rfl) ?_; k_whole)))
local macro_rules | `(tactic| walk_at "my news") => `(tactic| (k_here; k_dflt (refine' item_news (by k_asm) (by k_mem) ?a ?b (by assumption) ?_; (case a => omega); (case b => omega); k_whole)))
local macro_rules | `(tactic| walk_at "my enterC") => `(tactic| (refine' enterC (by k_asm) (by k_asm) (by k_asm) (by k_asm) (by k_is) (by k_is) (by k_room) (by exact BindsTo.of_eq rfl) (by exact rfl) (by decide +kernel) ?_ (by exact rfl) (by exact rfl) (by exact rfl); k_whole; intro g' L' h' tk' cells' F' N' Y' X' T' l1 st'; (try k_lt l1); k_cells Y'; (try simp only [List.cons_append, List.nil_append] at N'); (try dsimp only)))
local macro_rules | `(tactic| walk_at "call builtin:len") => `(tactic| (k_here; (with_reducible show wpAny _ _ (call (Value.builtin "len") [Value.ref _]) _ _ _); k_dflt (refine' len_news ?N ?m ?z ?_; (case N => k_asm); (case m => k_mem); (case z => omega)); intro t' tk'))
local macro_rules | `(tactic| walk_at "exec While Compare cons nil") => `(tactic| refine held ?_)
local macro_rules | `(tactic| walk_at "eval Name") => `(tactic| (k_here; (with_reducible show wpAny _ _ (eval _ (envOf _ _ _ _ _)) _ _ _); k_dflt (refine' ld ?k1 ?k2 ?_; (case k1 => k_asm); (case k2 => assumption); k_whole)))
variable {prog : Program} {w : World} {A : Around} {s : Shared} {h₀ : Heap} {L : Addr} {m : Str → Option Value} {news : List (Addr × Obj)} {p : Program} {loose : List Str} {mean : ExcName → Option Value} {mg mb : Str → Option Value}
local macro_rules | `(tactic| k_steps) => `(tactic| repeat' (first | walk1 | (dsimp only; walk1)))
local macro_rules | `(tactic| walk_at "subscriptTail Name Constant ref int") => `(tactic| walk_at "my tup")
local macro_rules | `(tactic| walk_at "subscriptTail Attribute Subscript Constant ref int") => `(tactic| walk_at "my tup")
local macro_rules | `(tactic| walk_at "exec While BoolOp cons nil") => `(tactic| refine held ?_)
local macro_rules | `(tactic| k_all) => `(tactic| assumption)

section
/-- the order of two tuples of ints -/
noncomputable def lexLt : List Int → List Int → Bool
  | [], [] => false
  | [], _ :: _ => true
  | _ :: _, [] => false
  | a :: as, b :: bs => if a = b then lexLt as bs else decide (a < b)
theorem lt_tree {prog : Program} {w : World} {A : Around} {E : Value → Shared → Prop} {s : Shared} {a b : Addr} {xs ys : Array Value} {ns ms : List Int} {P : PySem.Fin → Shared → Prop}
    (ha : IsTup s.heap a xs) (hb : IsTup s.heap b ys) (ia : IntsAre xs.toList ns) (ib : IntsAre ys.toList ms) (h : P (.done (.ret (.bool (lexLt ns ms)))) s) :
    wpAny (model prog w) A (Builtin.«tuple.__lt__» ⟨[.ref a, .ref b], []⟩) P E s := by
  obtain ⟨oa, hoa, ca, na, hda⟩ := ha
  obtain ⟨ob, hob, cb, nb, hdb⟩ := hb
  have hTb : s.TypeIs (.ref b) "tuple" := ⟨_, hob, cb⟩
  show wpAny _ _ (isInstance (.ref b) (.type "tuple") >>= _) _ _ s
  refine wpAny_bind (wpAny_isInstance hTb isSubtype_tuple_tuple ?_)
  simp only [Bool.not_true, Bool.false_eq_true, if_false]
  refine wpAny_bind (wpAny_tupleItemsOf hoa hda ?_)
  refine wpAny_bind (wpAny_tupleItemsOf hob hdb ?_)
  refine wpAny_bind ?_
  refine wpAny_forIn_list _
    (fun rest r s' => r.1 = none ∧ s' = s ∧ ∃ ns' ms' xs' ys', rest = List.zip xs' ys' ∧ IntsAre xs' ns' ∧ IntsAre ys' ms' ∧ lexLt ns' ms' = lexLt ns ms ∧ (decide (xs'.length < ys'.length)) = (decide (xs.size < ys.size)))
    _ ?_ ?_ _ _ ⟨rfl, rfl, ns, ms, xs.toList, ys.toList, rfl, ia, ib, rfl, by simp⟩
  · rintro ⟨u, v⟩ rest r s' ⟨hr, rfl, x', y', xs', ys', hz, hx', hy', hdec, hlen⟩
    cases hx' with
    | nil => simp at hz
    | @cons k1 t1 xs'' x'' hx'' =>
      cases hy' with
      | nil => simp at hz
      | @cons k2 t2 ys'' y'' hy'' =>
        simp only [List.zip_cons_cons, List.cons.injEq, Prod.mk.injEq] at hz
        obtain ⟨⟨rfl, rfl⟩, rfl⟩ := hz
        refine wpAny_bind (PySem.wpAny_eqBool_int ?_)
        by_cases hk : k1 = k2
        · subst hk
          rw [show (k1 == k1) = true from beq_self_eq_true k1]
          simp only [Bool.not_true, Bool.false_eq_true, if_false]
          refine wpAny_pure ⟨rfl, rfl, x'', y'', xs'', ys'', rfl, hx'', hy'', ?_, by simpa using hlen⟩
          rw [← hdec]; simp [lexLt]
        · rw [show (k1 == k2) = false from beq_eq_false_iff_ne.mpr hk]
          simp only [Bool.not_false, if_true]
          have hf : lexLt ns ms = decide (k1 < k2) := by rw [← hdec]; simp [lexLt, hk]
          rw [hf] at h
          refine wpAny_bind (wpAny_rule ?_)
          refine wpAny_bind (show wpAny _ _ (compareOp .Lt _ _) _ _ _ from lt_int ?_)
          exact wpAny_bind (wpAny_pure (wpAny_pure (wpAny_pure h)))
  · rintro ⟨r1, r2⟩ s' ⟨hr, rfl, x', y', xs', ys', hz, hx', hy', hdec, hlen⟩
    simp only at hr
    subst hr
    refine wpAny_pure ?_
    show P (.done (.ret (.bool (decide (xs.size < ys.size))))) s'
    rw [← hlen]
    rw [← hdec] at h
    cases hx' with
    | nil =>
      cases hy' with
      | nil => simpa [lexLt] using h
      | cons _ _ => simpa [lexLt] using h
    | cons _ _ =>
      cases hy' with
      | nil => simpa [lexLt] using h
      | cons _ _ => simp at hz
theorem gt_tree {prog : Program} {w : World} {A : Around} {E : Value → Shared → Prop} {s : Shared} {a b : Addr} {xs ys : Array Value} {ns ms : List Int} {P : PySem.Fin → Shared → Prop}
    (ha : IsTup s.heap a xs) (hb : IsTup s.heap b ys) (ia : IntsAre xs.toList ns) (ib : IntsAre ys.toList ms) (h : P (.done (.ret (.bool (lexLt ms ns)))) s) :
    wpAny (model prog w) A (Builtin.«tuple.__gt__» ⟨[.ref a, .ref b], []⟩) P E s := by
  obtain ⟨oa, hoa, ca, na, hda⟩ := ha
  obtain ⟨ob, hob, cb, nb, hdb⟩ := hb
  have hTb : s.TypeIs (.ref b) "tuple" := ⟨_, hob, cb⟩
  show wpAny _ _ (isInstance (.ref b) (.type "tuple") >>= _) _ _ s
  refine wpAny_bind (wpAny_isInstance hTb isSubtype_tuple_tuple ?_)
  simp only [Bool.not_true, Bool.false_eq_true, if_false]
  refine wpAny_bind (wpAny_tupleItemsOf hoa hda ?_)
  refine wpAny_bind (wpAny_tupleItemsOf hob hdb ?_)
  refine wpAny_bind ?_
  refine wpAny_forIn_list _
    (fun rest r s' => r.1 = none ∧ s' = s ∧ ∃ ns' ms' xs' ys', rest = List.zip xs' ys' ∧ IntsAre xs' ns' ∧ IntsAre ys' ms' ∧ lexLt ms' ns' = lexLt ms ns ∧ (decide (xs'.length > ys'.length)) = (decide (xs.size > ys.size)))
    _ ?_ ?_ _ _ ⟨rfl, rfl, ns, ms, xs.toList, ys.toList, rfl, ia, ib, rfl, by simp⟩
  · rintro ⟨u, v⟩ rest r s' ⟨hr, rfl, x', y', xs', ys', hz, hx', hy', hdec, hlen⟩
    cases hx' with
    | nil => simp at hz
    | @cons k1 t1 xs'' x'' hx'' =>
      cases hy' with
      | nil => simp at hz
      | @cons k2 t2 ys'' y'' hy'' =>
        simp only [List.zip_cons_cons, List.cons.injEq, Prod.mk.injEq] at hz
        obtain ⟨⟨rfl, rfl⟩, rfl⟩ := hz
        refine wpAny_bind (PySem.wpAny_eqBool_int ?_)
        by_cases hk : k1 = k2
        · subst hk
          rw [show (k1 == k1) = true from beq_self_eq_true k1]
          simp only [Bool.not_true, Bool.false_eq_true, if_false]
          refine wpAny_pure ⟨rfl, rfl, x'', y'', xs'', ys'', rfl, hx'', hy'', ?_, by simpa using hlen⟩
          rw [← hdec]; simp [lexLt]
        · rw [show (k1 == k2) = false from beq_eq_false_iff_ne.mpr hk]
          simp only [Bool.not_false, if_true]
          have hf : lexLt ms ns = decide (k2 < k1) := by rw [← hdec]; simp [lexLt, Ne.symm hk]
          rw [hf] at h
          refine wpAny_bind (wpAny_rule ?_)
          refine wpAny_bind (show wpAny _ _ (compareOp .Gt _ _) _ _ _ from gt_int ?_)
          exact wpAny_bind (wpAny_pure (wpAny_pure (wpAny_pure h)))
  · rintro ⟨r1, r2⟩ s' ⟨hr, rfl, x', y', xs', ys', hz, hx', hy', hdec, hlen⟩
    simp only at hr
    subst hr
    refine wpAny_pure ?_
    show P (.done (.ret (.bool (decide (xs.size > ys.size))))) s'
    rw [← hlen]
    rw [← hdec] at h
    cases hx' with
    | nil =>
      cases hy' with
      | nil => simpa [lexLt] using h
      | cons _ _ => simpa [lexLt] using h
    | cons _ _ =>
      cases hy' with
      | nil => simpa [lexLt] using h
      | cons _ _ => simp at hz
theorem lt_tups {prog : Program} {w : World} {A : Around} {E : Value → Shared → Prop} {s : Shared} {a b : Addr} {xs ys : Array Value} {ns ms : List Int} {Q : Value → Shared → Prop}
    (hu : A.units < cLine) (ha : IsTup s.heap a xs) (hb : IsTup s.heap b ys) (ia : IntsAre xs.toList ns) (ib : IntsAre ys.toList ms) (h : Q (.bool (lexLt ns ms)) s) :
    wpAny (model prog w) A (compareOp .Lt (.ref a) (.ref b)) Q E s := by
  obtain ⟨oa, hoa, ca, r⟩ := id ha
  obtain ⟨ob, hob, cb, r⟩ := id hb
  show wpAny _ _ (richCompare .Lt (.ref a) (.ref b)) _ _ _
  refine wpAny_richCompare_same_room ⟨_, hoa, ca⟩ ⟨_, hob, cb⟩ F.slot_tuple_lt (wpAny_call_entry F.slot_tuple_lt ⟨_, hoa, ca⟩ F.entry_tuple_lt ?_ (F.args_tuple_lt_2 _ _)) hu
  exact lt_tree ha hb ia ib ⟨_, rfl, by simp, h⟩
theorem gt_tups {prog : Program} {w : World} {A : Around} {E : Value → Shared → Prop} {s : Shared} {a b : Addr} {xs ys : Array Value} {ns ms : List Int} {Q : Value → Shared → Prop}
    (hu : A.units < cLine) (ha : IsTup s.heap a xs) (hb : IsTup s.heap b ys) (ia : IntsAre xs.toList ns) (ib : IntsAre ys.toList ms) (h : Q (.bool (lexLt ms ns)) s) :
    wpAny (model prog w) A (compareOp .Gt (.ref a) (.ref b)) Q E s := by
  obtain ⟨oa, hoa, ca, r⟩ := id ha
  obtain ⟨ob, hob, cb, r⟩ := id hb
  show wpAny _ _ (richCompare .Gt (.ref a) (.ref b)) _ _ _
  refine wpAny_richCompare_same_room ⟨_, hoa, ca⟩ ⟨_, hob, cb⟩ F.slot_tuple_gt (wpAny_call_entry F.slot_tuple_gt ⟨_, hoa, ca⟩ F.entry_tuple_gt ?_ (F.args_tuple_gt_2 _ _)) hu
  exact gt_tree ha hb ia ib ⟨_, rfl, by simp, h⟩

end

section
local macro_rules | `(tactic| walk_at "no such key") => `(tactic| skip)
noncomputable def Small (p : Int × Int) : Prop := 0 ≤ p.1 ∧ p.1 ≤ 1000 ∧ 0 ≤ p.2 ∧ p.2 ≤ 1000


set_option maxRecDepth 100000 in
set_option maxHeartbeats 8000000 in
theorem below_spec {R : Result → Shared → Prop} {va vb vc : Value} {a b c : Int × Int}
    (F : Fr h₀ L s.heap m) (N : News h₀ L s.heap news) (X : (hd.heap_1 w.params).In h₀) (T : Top p loose mean mg mb h₀)
    (hroom : A.depth < recursionLimit) (ha : Tup2 news va a) (hb : Tup2 news vb b) (hc : Tup2 news vc c) (sa : Small a) (sb : Small b) (sc : Small c)
    (k : ∀ h' tk, Fr h₀ L h' m → News h₀ L h' news → R (.ok (.ret (.bool (bel a b c)))) { s with heap := h', toks := tk }) :
    codeAny (model prog w) A (.call (.ref 231) ⟨[va, vb, vc], []⟩) R s := by
  obtain ⟨a1, n1, t1, u1, rfl, m1⟩ := ha
  obtain ⟨a2, n2, t2, u2, rfl, m2⟩ := hb
  obtain ⟨a3, n3, t3, u3, rfl, m3⟩ := hc
  obtain ⟨sa1, sa2, sa3, sa4⟩ := sa
  obtain ⟨sb1, sb2, sb3, sb4⟩ := sb
  obtain ⟨sc1, sc2, sc3, sc4⟩ := sc
  k_enter
  k_steps
  exact k _ _ (by assumption) (by assumption)

set_option maxRecDepth 100000 in
set_option maxHeartbeats 8000000 in
theorem cost_spec {R : Result → Shared → Prop} {va : Value} {a : Int × Int} {t : Int} {tt : Tok}
    (F : Fr h₀ L s.heap m) (N : News h₀ L s.heap news) (X : (hd.heap_1 w.params).In h₀) (T : Top p loose mean mg mb h₀)
    (hroom : A.depth < recursionLimit) (ha : Tup2 news va a) (sa : Small a)
    (k : ∀ h' tk t', Fr h₀ L h' m → News h₀ L h' news → R (.ok (.ret (.int (a.2 + a.1 * t) t'))) { s with heap := h', toks := tk }) :
    codeAny (model prog w) A (.call (.ref 245) ⟨[va, .int t tt], []⟩) R s := by
  obtain ⟨a1, n1, t1, u1, rfl, m1⟩ := ha
  obtain ⟨sa1, sa2, sa3, sa4⟩ := sa
  k_enter
  k_steps
  exact k _ _ _ (by assumption) (by assumption)

end

section
local macro_rules | `(tactic| walk_at "no such key") => `(tactic| skip)
local macro_rules | `(tactic| walk_at "compareOp Lt ref ref") => `(tactic| (k_here; k_dflt (refine' lt_tups ?hu ?ha ?hb ?ia ?ib ?_; (case ha => exact News.isTup (by k_asm) (by k_mem)); (case hb => exact News.isTup (by k_asm) (by k_mem)); (case ia => repeat constructor); (case ib => repeat constructor); (case hu => k_units); k_whole)))

theorem news_type {M : Model} {h₀ h : Heap} {L a : Addr} {o : Obj} {news : List (Addr × Obj)} (N : News h₀ L h news) (hm : (a, o) ∈ news) : Looks M h (typeOf (.ref a)) o.cls := (Looks.ld (N _ hm).1).andThen .now
local macro_rules | `(tactic| k_typeOf) => `(tactic| exact news_type (o := tupO _ _) (by k_asm) (by assumption))

set_option maxRecDepth 100000 in
set_option maxHeartbeats 8000000 in
theorem qlt_tup {E : Value → Shared → Prop} {Q : Value → Shared → Prop} {v : Value} {o : Addr} {no : Nat} {a : Int × Int} {c : Int} {tc : Tok}
    (F : Fr h₀ L s.heap m) (N : News h₀ L s.heap news) (X : (hd.heap_1 w.params).In h₀) (T : Top p loose mean mg mb h₀)
    (hroom : A.depth + 5 < recursionLimit) (hu : A.units + 100 < cLine) (ha : QN w.params news v a) (ho : (o, tupO [.int c tc] no) ∈ news)
    (k : ∀ h' tk, Fr h₀ L h' m → News h₀ L h' news → Q (.bool (lexLt [a.1, a.2] [c])) { s with heap := h', toks := tk }) :
    wpAny (model prog w) A (compareOp .Lt v (.ref o)) Q E s := by
  obtain ⟨x, d, tk, tv, rfl, h1, h2, a1, n1, t1, u1, rfl, m1⟩ := ha
  k_steps
  exact k _ _ (by assumption) (by assumption)

set_option maxRecDepth 100000 in
set_option maxHeartbeats 8000000 in
theorem qlt_qn {E : Value → Shared → Prop} {Q : Value → Shared → Prop} {v o : Value} {a b : Int × Int}
    (F : Fr h₀ L s.heap m) (N : News h₀ L s.heap news) (X : (hd.heap_1 w.params).In h₀) (T : Top p loose mean mg mb h₀)
    (hroom : A.depth + 5 < recursionLimit) (hu : A.units + 100 < cLine) (ha : QN w.params news v a) (ho : QN w.params news o b)
    (k : ∀ h' tk, Fr h₀ L h' m → News h₀ L h' news → Q (.bool (lexLt [a.1, a.2] [b.1, b.2])) { s with heap := h', toks := tk }) :
    wpAny (model prog w) A (compareOp .Lt v o) Q E s := by
  obtain ⟨x, d, tk, tv, rfl, h1, h2, a1, n1, t1, u1, rfl, m1⟩ := ha
  obtain ⟨x2, d2, tk2, tv2, rfl, h12, h22, a2, n2, t2, u2, rfl, m2⟩ := ho
  k_steps
  exact k _ _ (by assumption) (by assumption)

end

section
/-- how v < xv is told for the items of a list, at any state that keeps the ledger -/
noncomputable def Asks (prog : Program) (w : World) (p : Program) (loose : List Str) (mean : ExcName → Option Value) (mg mb : Str → Option Value) (news : List (Addr × Obj)) (vs : List Value) (xv : Value) (P : Nat → Bool) (d u : Nat) : Prop :=
  ∀ (A : Around) (s : Shared) (h₀ : Heap) (L : Addr) (m : Str → Option Value) (E Q : Value → Shared → Prop) (i : Nat) (v : Value), A.depth + d < recursionLimit → A.units + u < cLine → vs[i]? = some v →
    Fr h₀ L s.heap m → News h₀ L s.heap news → (hd.heap_1 w.params).In h₀ → Top p loose mean mg mb h₀ →
    (∀ h' tk, Fr h₀ L h' m → News h₀ L h' news → Q (.bool (P i)) { s with heap := h', toks := tk }) → wpAny (model prog w) A (compareOp .Lt v xv) Q E s


local macro_rules | `(tactic| walk_at "subscriptTail Name Name ref int") => `(tactic| refine held ?_)
/-- the names of a bisection's frame -/
inductive BisJ (H : Addr) (xv : Value) (n : Nat) (P : Nat → Bool) (news : List (Addr × Obj)) (k : Nat) (m : Str → Option Value) (nw : List (Addr × Obj)) : Prop
  | mk (f1 : nw = news) (f2 : m (Str.ofString "a") = some (.ref H)) (f3 : m (Str.ofString "x") = some xv) (lo hi : Nat) (tl th : Tok) (f4 : m (Str.ofString "lo") = some (.int lo tl)) (f5 : m (Str.ofString "hi") = some (.int hi th)) (f6 : lo ≤ hi) (f7 : hi ≤ n) (f8 : (∀ i, i < lo → P i = true)) (f9 : (∀ i, hi ≤ i → i < n → P i = false)) (f10 : k = hi - lo)

set_option maxRecDepth 100000 in
set_option maxHeartbeats 8000000 in
theorem bisl_spec {R : Result → Shared → Prop} {H : Addr} {vs : List Value} {nH : Nat} {xv : Value} {P : Nat → Bool}
    (F : Fr h₀ L s.heap m) (N : News h₀ L s.heap news) (X : (hd.heap_1 w.params).In h₀) (T : Top p loose mean mg mb h₀)
    (hroom : A.depth + 15 < recursionLimit) (hu : A.units + 200 < cLine) (hH : (H, listOf vs.toArray nH) ∈ news) (hlen : vs.length ≤ 1000)
    (hc : Asks prog w p loose mean mg mb news vs xv P 5 100) (hP : ∀ i j, i < j → j < vs.length → P j = true → P i = true)
    (k : ∀ h' tk tk' c, c ≤ vs.length → (∀ i, i < c → P i = true) → (∀ i, c ≤ i → i < vs.length → P i = false) → Fr h₀ L h' m → News h₀ L h' news → R (.ok (.ret (.int ((c : Nat) : Int) tk'))) { s with heap := h', toks := tk }) :
    codeAny (model prog w) A (.call (.ref 41) ⟨[.ref H, xv], []⟩) R s := by
  k_enter
  k_steps
  refine While_inv2 (BisJ H xv vs.length P news) (n₀ := vs.length) (by assumption) (by assumption) ⟨rfl, rfl, rfl, 0, vs.length, _, _, rfl, rfl, Nat.zero_le _, Nat.le_refl _, fun i hi => absurd hi (Nat.not_lt_zero _), fun i h1 h2 => absurd h2 (Nat.not_lt.mpr h1), rfl⟩ ?_ PassesOwn.never
  rintro n m₁ _ h₁ tk₁ F₁ N₁ ⟨rfl, ha, hx, lo, hi, tl, th, hlo, hhi, hlh, hhn, hlt, hge, rfl⟩
  k_steps
  · have hmid : ((lo : Int) + (hi : Int)).fdiv 2 = (((lo + hi) / 2 : Nat) : Int) := by
      rw [← Int.natCast_add, Int.fdiv_eq_ediv_of_nonneg _ (by omega)]; omega
    have hml : (lo + hi) / 2 < vs.length := by omega
    simp only [hmid]; rename Fr _ _ _ _ => F9; simp only [hmid] at F9
    refine item_news (by assumption) hH (by omega) (by omega) (v := vs[(lo + hi) / 2]) (by rw [Int.toNat_natCast]; exact List.getElem?_eq_getElem hml) ?_
    k_steps
    refine hc _ _ _ _ _ _ _ ((lo + hi) / 2) _ (by k_room) (by k_units) (List.getElem?_eq_getElem hml) (by assumption) (by assumption) (by assumption) (by assumption) ?_
    intro h2 tk2 F2 N2
    cases hp : P ((lo + hi) / 2) with
    | true =>
      k_steps
      rename Fr _ _ _ _ => F8; rename News _ _ _ _ => N8
      refine whileStep2_next (n' := hi - ((lo + hi) / 2 + 1)) F8 N8 (by omega) ⟨rfl, ha, hx, (lo + hi) / 2 + 1, hi, _, th, rfl, hhi, by omega, hhn, fun i hi' => ?_, hge, rfl⟩
      rcases Nat.lt_or_eq_of_le (Nat.le_of_lt_succ hi') with q | q
      · exact hP _ _ q hml hp
      · rw [q]; exact hp
    | false =>
      k_steps
      rename Fr _ _ _ _ => F8; rename News _ _ _ _ => N8
      refine whileStep2_next (n' := (lo + hi) / 2 - lo) F8 N8 (by omega) ⟨rfl, ha, hx, lo, (lo + hi) / 2, tl, _, hlo, rfl, by omega, by omega, hlt, fun i h1 h2 => ?_, rfl⟩
      rcases Nat.lt_or_eq_of_le h1 with q | q
      · cases e : P i with
        | false => rfl
        | true => rw [hP _ _ q h2 e] at hp; cases hp
      · rw [← q]; exact hp
  · have e : lo = hi := by omega
    subst e
    exact k _ _ _ lo (by omega) hlt hge (by assumption) (by assumption)

end

section
local macro_rules | `(tactic| walk_at "no such key") => `(tactic| skip)
local macro_rules | `(tactic| walk_at "subscriptTail Name Name ref int") => `(tactic| refine held ?_)
set_option maxRecDepth 100000 in
set_option maxHeartbeats 8000000 in
theorem bisl_spec4 {R : Result → Shared → Prop} {H : Addr} {vs : List Value} {nH : Nat} {xv : Value} {P : Nat → Bool} {t0 : Tok}
    (F : Fr h₀ L s.heap m) (N : News h₀ L s.heap news) (X : (hd.heap_1 w.params).In h₀) (T : Top p loose mean mg mb h₀)
    (hroom : A.depth + 15 < recursionLimit) (hu : A.units + 200 < cLine) (hH : (H, listOf vs.toArray nH) ∈ news) (hlen : vs.length ≤ 1000)
    (hc : Asks prog w p loose mean mg mb news vs xv P 5 100) (hP : ∀ i j, i < j → j < vs.length → P j = true → P i = true)
    (k : ∀ h' tk tk' c, c ≤ vs.length → (∀ i, i < c → P i = true) → (∀ i, c ≤ i → i < vs.length → P i = false) → Fr h₀ L h' m → News h₀ L h' news → R (.ok (.ret (.int ((c : Nat) : Int) tk'))) { s with heap := h', toks := tk }) :
    codeAny (model prog w) A (.call (.ref 41) ⟨[.ref H, xv, .int 0 t0, .none], []⟩) R s := by
  k_enter
  k_steps
  refine While_inv2 (BisJ H xv vs.length P news) (n₀ := vs.length) (by assumption) (by assumption) ⟨rfl, rfl, rfl, 0, vs.length, _, _, rfl, rfl, Nat.zero_le _, Nat.le_refl _, fun i hi => absurd hi (Nat.not_lt_zero _), fun i h1 h2 => absurd h2 (Nat.not_lt.mpr h1), rfl⟩ ?_ PassesOwn.never
  rintro n m₁ _ h₁ tk₁ F₁ N₁ ⟨rfl, ha, hx, lo, hi, tl, th, hlo, hhi, hlh, hhn, hlt, hge, rfl⟩
  k_steps
  · have hmid : ((lo : Int) + (hi : Int)).fdiv 2 = (((lo + hi) / 2 : Nat) : Int) := by
      rw [← Int.natCast_add, Int.fdiv_eq_ediv_of_nonneg _ (by omega)]; omega
    have hml : (lo + hi) / 2 < vs.length := by omega
    simp only [hmid]; rename Fr _ _ _ _ => F9; simp only [hmid] at F9
    refine item_news (by assumption) hH (by omega) (by omega) (v := vs[(lo + hi) / 2]) (by rw [Int.toNat_natCast]; exact List.getElem?_eq_getElem hml) ?_
    k_steps
    refine hc _ _ _ _ _ _ _ ((lo + hi) / 2) _ (by k_room) (by k_units) (List.getElem?_eq_getElem hml) (by assumption) (by assumption) (by assumption) (by assumption) ?_
    intro h2 tk2 F2 N2
    cases hp : P ((lo + hi) / 2) with
    | true =>
      k_steps
      rename Fr _ _ _ _ => F8; rename News _ _ _ _ => N8
      refine whileStep2_next (n' := hi - ((lo + hi) / 2 + 1)) F8 N8 (by omega) ⟨rfl, ha, hx, (lo + hi) / 2 + 1, hi, _, th, rfl, hhi, by omega, hhn, fun i hi' => ?_, hge, rfl⟩
      rcases Nat.lt_or_eq_of_le (Nat.le_of_lt_succ hi') with q | q
      · exact hP _ _ q hml hp
      · rw [q]; exact hp
    | false =>
      k_steps
      rename Fr _ _ _ _ => F8; rename News _ _ _ _ => N8
      refine whileStep2_next (n' := (lo + hi) / 2 - lo) F8 N8 (by omega) ⟨rfl, ha, hx, lo, (lo + hi) / 2, tl, _, hlo, rfl, by omega, by omega, hlt, fun i h1 h2 => ?_, rfl⟩
      rcases Nat.lt_or_eq_of_le h1 with q | q
      · cases e : P i with
        | false => rfl
        | true => rw [hP _ _ q h2 e] at hp; cases hp
      · rw [← q]; exact hp
  · have e : lo = hi := by omega
    subst e
    exact k _ _ _ lo (by omega) hlt hge (by assumption) (by assumption)

end

section
local macro_rules | `(tactic| walk_at "no such key") => `(tactic| skip)
local macro_rules | `(tactic| walk_at "call ref") => `(tactic| refine held ?_)
local macro_rules | `(tactic| walk_at "call builtin:list.insert") => `(tactic| refine held ?_)
set_option maxRecDepth 100000 in
set_option maxHeartbeats 8000000 in
theorem insort_spec {R : Result → Shared → Prop} {H : Addr} {vs : List Value} {nH : Nat} {xv : Value} {P : Nat → Bool} {post : List (Addr × Obj)}
    (F : Fr h₀ L s.heap m) (N : News h₀ L s.heap ((H, listOf vs.toArray nH) :: post)) (X : (hd.heap_1 w.params).In h₀) (T : Top p loose mean mg mb h₀)
    (hpost : ∀ p ∈ post, p.1 ≠ H) (hroom : A.depth + 25 < recursionLimit) (hu : A.units + 300 < cLine) (hlen : vs.length ≤ 999)
    (hc : Asks prog w p loose mean mg mb ((H, listOf vs.toArray nH) :: post) vs xv P 5 100) (hP : ∀ i j, i < j → j < vs.length → P j = true → P i = true)
    (k : ∀ h' tk c, c ≤ vs.length → (∀ i, i < c → P i = true) → (∀ i, c ≤ i → i < vs.length → P i = false) → Fr h₀ L h' m → News h₀ L h' ((H, listOf (vs.take c ++ xv :: vs.drop c).toArray (nH + 1)) :: post) →
      R (.ok (.ret .none)) { s with heap := h', toks := tk }) :
    codeAny (model prog w) A (.call (.ref 32) ⟨[.ref H, xv], []⟩) R s := by
  k_enter
  k_steps
  refine wpAny_call (bisl_spec4 (P := P) (by assumption) (by assumption) (by assumption) (by assumption) (by k_room) (by k_units) (.head _) (by omega) hc hP ?_)
  intro h2 tk2 tk3 c hc1 hc2 hc3 F2 N2
  dsimp only
  k_steps
  rename Fr _ _ _ _ => F8; rename News _ _ _ _ => N8
  have e : kl_ins vs.toArray.toList (c : Int) xv = vs.take c ++ xv :: vs.drop c := by
    unfold kl_ins
    have h1 : ¬ ((c : Int) < 0) := by omega
    have h2 : min ((c : Int).toNat) vs.toArray.toList.length = c := by simp; omega
    rw [if_neg h1, h2]
  refine kl_insert F8 N8 (by unfold Builtin.List.listFitsIndex; simp; omega) e (Upd.head hpost) (by rw [sizeLine_eq]; simp; omega) ?_
  intro h3 F3 N3
  k_steps
  exact k _ _ c hc1 hc2 hc3 (by assumption) (by assumption)

end

section
local macro_rules | `(tactic| walk_at "call ref") => `(tactic| with_reducible first | refine heldCall 41 ?_ | refine heldCall 231 ?_ | refine heldCall 32 ?_)
local macro_rules | `(tactic| walk_at "subscriptTail Name Name ref int") => `(tactic| walk_at "my news")
local macro_rules | `(tactic| walk_at "subscriptTail Name BinOp ref int") => `(tactic| first | walk_at "my news" | refine held ?_)
local macro_rules | `(tactic| walk_at "delItem ref int") => `(tactic| refine held ?_)
local macro_rules | `(tactic| walk_at "exec If") => `(tactic| (refine heldAt 1 (by with_reducible assumption) ?_; refine held ?_))
abbrev Pts (P : Params) (news : List (Addr × Obj)) (vs : List Value) (ps : List (Int × Int)) : Prop := All2 (QN P news) vs ps
theorem lex1 (a : Int × Int) (c : Int) : lexLt [a.1, a.2] [c] = decide (a.1 < c) := by
  by_cases h : a.1 = c
  · simp [lexLt, h]
  · simp [lexLt, h]
noncomputable def stepLt (ps : List (Int × Int)) (c : Int) (i : Nat) : Bool := match ps[i]? with | some a => decide (a.1 < c) | none => false
noncomputable def ptLt (ps : List (Int × Int)) (q : Int × Int) (i : Nat) : Bool := match ps[i]? with | some a => lexLt [a.1, a.2] [q.1, q.2] | none => false
theorem asks_tup {vs : List Value} {ps : List (Int × Int)} {o : Addr} {c : Int} {tc : Tok} {no : Nat} (h : Pts w.params news vs ps) (ho : (o, tupO [.int c tc] no) ∈ news) :
    Asks prog w p loose mean mg mb news vs (.ref o) (stepLt ps c) 5 100 := by
  intro A s h₀ L m E Q i v hd hu hv F N X T k
  obtain ⟨a, ha, hq⟩ := h.get' hv
  refine qlt_tup F N X T hd hu hq ho fun h' tk F' N' => ?_
  have := k h' tk F' N'
  rw [lex1]
  simpa [stepLt, ha] using this
theorem asks_qn {vs : List Value} {ps : List (Int × Int)} {o : Value} {q : Int × Int} (h : Pts w.params news vs ps) (ho : QN w.params news o q) :
    Asks prog w p loose mean mg mb news vs o (ptLt ps q) 5 100 := by
  intro A s h₀ L m E Q i v hd hu hv F N X T k
  obtain ⟨a, ha, hq⟩ := h.get' hv
  refine qlt_qn F N X T hd hu hq ho fun h' tk F' N' => ?_
  have := k h' tk F' N'
  simpa [ptLt, ha] using this

theorem ptLt_at {pre suf : List (Int × Int)} {q : Int × Int} (h1 : ∀ a ∈ pre, a.1 < q.1) (h2 : ∀ a ∈ suf, q.1 < a.1) {i : Nat} (hi : i < (pre ++ suf).length) : ptLt (pre ++ suf) q i = decide (i < pre.length) := by
  unfold ptLt
  rw [List.getElem?_eq_getElem hi]
  dsimp only
  by_cases hp : i < pre.length
  · rw [List.getElem_append_left hp, decide_eq_true hp]
    have := h1 _ (List.getElem_mem hp)
    have hne : ¬ (pre[i]).1 = q.1 := by omega
    simp [lexLt, hne, this]
  · rw [List.getElem_append_right (Nat.le_of_not_lt hp), decide_eq_false hp]
    have hlt : i - pre.length < suf.length := by rw [List.length_append] at hi; omega
    have := h2 _ (List.getElem_mem hlt)
    have hne : ¬ (suf[i - pre.length]).1 = q.1 := by omega
    simp only [lexLt, hne, if_false, decide_eq_false_iff_not]
    omega
theorem place_eq {pre suf : List (Int × Int)} {q : Int × Int} (h1 : ∀ a ∈ pre, a.1 < q.1) (h2 : ∀ a ∈ suf, q.1 < a.1) {c n : Nat} (hn : n = (pre ++ suf).length) (hc : c ≤ n) (ht : ∀ i, i < c → ptLt (pre ++ suf) q i = true) (hf : ∀ i, c ≤ i → i < n → ptLt (pre ++ suf) q i = false) : c = pre.length := by
  subst hn
  rcases Nat.lt_trichotomy c pre.length with h | h | h
  · have hl : c < (pre ++ suf).length := by rw [List.length_append]; omega
    have := hf c (Nat.le_refl _) hl
    rw [ptLt_at h1 h2 hl, decide_eq_true h] at this; cases this
  · exact h
  · have hl : pre.length < (pre ++ suf).length := by omega
    have := ht _ h
    rw [ptLt_at h1 h2 hl, decide_eq_false (Nat.lt_irrefl _)] at this; cases this
/-- what stands behind the first choice of _law_laid: an end, or the split of the hull -/
inductive LaidEnd (P : Params) (g : Heap) (L : Addr) (mm : Str → Option Value) (H : Addr) (led : List (Addr × Obj)) (vs : List Value) (nH : Nat) (ps : List (Int × Int)) (pt : Int × Int) (s₁ : Shared) (f : Flow) (s₂ : Shared) : Prop
  | mk (f1 : f = .ret .none) (f2 : laid ps pt = ps) (h' tk) (f3 : s₂ = { s₁ with heap := h', toks := tk }) (f4 : Fr g L h' mm) (f5 : News g L h' ((H, listOf vs.toArray nH) :: led))
inductive LaidGo (P : Params) (g : Heap) (L : Addr) (mm : Str → Option Value) (H : Addr) (led : List (Addr × Obj)) (ps : List (Int × Int)) (pt : Int × Int) (c : Nat) (s₁ : Shared) (f : Flow) (s₂ : Shared) : Prop
  | mk (f1 : f = .next) (h' tk vs1 vs2 n' pre suf) (f2 : s₂ = { s₁ with heap := h', toks := tk }) (f3 : Fr g L h' mm) (f4 : News g L h' ((H, listOf (vs1 ++ vs2).toArray n') :: led))
    (f5 : laid ps pt = laidFin pre suf pt) (f6 : pre.length = c) (f7 : Pts P led vs1 pre) (f8 : Pts P led vs2 suf) (f9 : ∀ a ∈ pre, a.1 < pt.1 ∧ Small a) (f10 : ∀ a ∈ suf, pt.1 < a.1 ∧ Small a) (f11 : (pre ++ suf).length ≤ 100)
noncomputable def LaidMid (P : Params) (g : Heap) (L : Addr) (mm : Str → Option Value) (H : Addr) (led : List (Addr × Obj)) (vs : List Value) (nH : Nat) (ps : List (Int × Int)) (pt : Int × Int) (c : Nat) (s₁ : Shared) (f : Flow) (s₂ : Shared) : Prop :=
  LaidEnd P g L mm H led vs nH ps pt s₁ f s₂ ∨ LaidGo P g L mm H led ps pt c s₁ f s₂

/-- between the turns of the first loop: the row to the left of the new point is us, its points qs -/
inductive LaidLJ (P : Params) (H xq : Addr) (led : List (Addr × Obj)) (pt : Int × Int) (vs2 : List Value) (pre : List (Int × Int)) (vp : Value) (k : Nat) (m : Str → Option Value) (nw : List (Addr × Obj)) : Prop
  | mk (us qs n t) (f1 : nw = (H, listOf (us ++ Value.ref xq :: vs2).toArray n) :: led) (f2 : m (Str.ofString "hull") = some (.ref H)) (f3 : m (Str.ofString "point") = some vp) (f4 : m (Str.ofString "place") = some (.int (us.length : Nat) t)) (f5 : Pts P led us qs) (f6 : pruneL pt qs.reverse = pruneL pt pre.reverse) (f7 : (∀ a ∈ qs, Small a)) (f8 : us.length ≤ pre.length) (f9 : k = us.length)
inductive LaidRJ (P : Params) (H xq : Addr) (led : List (Addr × Obj)) (pt : Int × Int) (us : List Value) (suf : List (Int × Int)) (mm : Str → Option Value) (len : Nat) (k : Nat) (m : Str → Option Value) (nw : List (Addr × Obj)) : Prop
  | mk (f1 : m = mm) (ws rs n) (f2 : nw = (H, listOf (us ++ Value.ref xq :: ws).toArray n) :: led) (f3 : Pts P led ws rs) (f4 : pruneR pt rs = pruneR pt suf) (f5 : (∀ a ∈ rs, Small a)) (f6 : ws.length ≤ len) (f7 : k = ws.length)
inductive LaidL (P : Params) (g : Heap) (L H xq : Addr) (led : List (Addr × Obj)) (pt : Int × Int) (vs2 : List Value) (pre : List (Int × Int)) (vp : Value) (s₁ : Shared) (f : Flow) (s₂ : Shared) : Prop
  | mk (f1 : f = .next) (h' tk mm us n t) (f2 : s₂ = { s₁ with heap := h', toks := tk }) (f3 : Fr g L h' mm) (f4 : News g L h' ((H, listOf (us ++ Value.ref xq :: vs2).toArray n) :: led)) (f5 : mm (Str.ofString "hull") = some (.ref H)) (f6 : mm (Str.ofString "point") = some vp) (f7 : mm (Str.ofString "place") = some (.int (us.length : Nat) t)) (f8 : Pts P led us (pruneL pt pre.reverse).reverse) (f9 : us.length ≤ pre.length)

set_option maxRecDepth 100000 in
set_option maxHeartbeats 8000000 in
theorem laid_spec {R : Result → Shared → Prop} {H : Addr} {vs : List Value} {nH : Nat} {vp : Value} {ps : List (Int × Int)} {pt : Int × Int} {post : List (Addr × Obj)}
    (F : Fr h₀ L s.heap m) (N : News h₀ L s.heap ((H, listOf vs.toArray nH) :: post)) (X : (hd.heap_1 w.params).In h₀) (T : Top p loose mean mg mb h₀)
    (hpost : ∀ p ∈ post, p.1 ≠ H) (hroom : A.depth + 50 < recursionLimit) (hu : A.units + 500 < cLine) (hlen : vs.length ≤ 100)
    (hq : Pts w.params post vs ps) (hp : Tup2 post vp pt) (hsp : Small pt) (hss : ∀ a ∈ ps, Small a) (hsort : ps.Pairwise fun a b => a.1 < b.1)
    (k : ∀ h' tk vs' n' ex, (∀ p ∈ ex, p.1 ≠ H) → Fr h₀ L h' m → News h₀ L h' ((H, listOf vs'.toArray n') :: (ex ++ post)) → Pts w.params (ex ++ post) vs' (laid ps pt) →
      R (.ok (.ret .none)) { s with heap := h', toks := tk }) :
    codeAny (model prog w) A (.call (.ref 238) ⟨[.ref H, vp], []⟩) R s := by
  obtain ⟨pa, pn, pt1, pt2, rfl, hpm⟩ := hp
  have hmk := mark 1
  have hlp : vs.length = ps.length := hq.1
  k_enter
  rename_i g1 L1 h1 F1 N1 X1 T1
  k_steps
  rename_i D h9 F9 N9 l1
  have hq1 : Pts w.params ((D, tupO [.int pt.1 pt1] 0) :: (H, listOf vs.toArray nH) :: post) vs ps := hq.mono fun v p h => h.mono fun q hm => .tail _ (.tail _ hm)
  refine wpAny_call (bisl_spec (P := stepLt ps pt.1) (by assumption) (by assumption) (by assumption) (by assumption) (by k_room) (by k_units) (.tail _ (.head _)) (by omega) (asks_tup hq1 (.head _)) ?_ ?_)
  · intro i j hij hj h1
    unfold stepLt at h1 ⊢
    have e1 : ps[i]? = some (ps[i]'(by omega)) := List.getElem?_eq_getElem _
    have e2 : ps[j]? = some (ps[j]'(by omega)) := List.getElem?_eq_getElem _
    have h3 := List.pairwise_iff_getElem.mp hsort i j (by omega) (by omega) hij
    rw [e2] at h1
    rw [e1]
    simp only [decide_eq_true_eq] at h1 ⊢
    omega
  intro h2 tk2 tk3 c hc1 hc2 hc3 F2 N2
  dsimp only
  k_steps
  rename Fr _ _ _ _ => F3; rename News _ _ _ _ => N3
  have N4 : News _ _ _ ((H, listOf vs.toArray nH) :: (D, tupO [.int pt.1 pt1] 0) :: post) := fun q hq => N3 q (by
    rcases List.mem_cons.mp hq with rfl | hq
    · exact .tail _ (.head _)
    · rcases List.mem_cons.mp hq with rfl | hq
      · exact .head _
      · exact .tail _ (.tail _ hq))
  clear N3
  have hq2 : Pts w.params ((D, tupO [.int pt.1 pt1] 0) :: post) vs ps := hq.mono fun v p h => h.mono fun q hm => .tail _ hm
  have hDH : D ≠ H := Nat.ne_of_gt l1.1
  have hpm2 : (pa, tupO [.int pt.1 pt1, .int pt.2 pt2] pn) ∈ (D, tupO [.int pt.1 pt1] 0) :: post := .tail _ hpm
  have hled : ∀ p ∈ (D, tupO [Value.int pt.1 pt1] 0) :: post, p.1 ≠ H := fun q hq => by
    rcases List.mem_cons.mp hq with rfl | hq
    · exact hDH
    · exact hpost q hq
  generalize hmm : (fun y => if y = Str.ofString "place" then _ else _) = mm at F3
  have e1 : mm (Str.ofString "hull") = some (.ref H) := by subst hmm; rfl
  have e2 : mm (Str.ofString "point") = some (.ref pa) := by subst hmm; rfl
  have e3 : mm (Str.ofString "place") = some (.int c tk3) := by subst hmm; rfl
  clear hmm hq1
  generalize hld : (D, tupO [Value.int pt.1 pt1] 0) :: post = led at *
  have hwh := while_of (q := fun a : Int × Int => a.1 < pt.1) ps c (fun i a ha hi => by
      have h := hc2 i hi
      simpa [stepLt, ha] using h) (fun i a ha hi => by
      have hil : i < ps.length := (List.getElem?_eq_some_iff.mp ha).1
      have h := hc3 i hi (by omega)
      simpa [stepLt, ha] using h)
  have hlaid : laid ps pt = laidAt (ps.take c) (ps.drop c) pt := by unfold laid; rw [hwh.1, hwh.2]
  have hpre : ∀ a ∈ ps.take c, a.1 < pt.1 ∧ Small a := fun a ha => ⟨by
      obtain ⟨i, hi⟩ := List.mem_iff_getElem?.mp ha
      have hic : i < c := by have := (List.getElem?_eq_some_iff.mp hi).1; rw [List.length_take] at this; omega
      have h := hc2 i hic
      rw [List.getElem?_take_of_lt hic] at hi
      simpa [stepLt, hi] using h, hss a (List.mem_of_mem_take ha)⟩
  have hsuf : ∀ a ∈ ps.drop c, ¬ a.1 < pt.1 ∧ Small a := fun a ha => ⟨by
      obtain ⟨i, hi⟩ := List.mem_iff_getElem?.mp ha
      rw [List.getElem?_drop] at hi
      have h := hc3 (c + i) (by omega) (by have := (List.getElem?_eq_some_iff.mp hi).1; omega)
      simpa [stepLt, hi] using h, hss a (List.mem_of_mem_drop ha)⟩
  have hsortS : (ps.drop c).Pairwise fun a b => a.1 < b.1 := hsort.sublist (List.drop_sublist _ _)
  have hv1 := hq2.take c
  have hv2 := hq2.drop c
  have hlc : (ps.take c).length = c := by rw [List.length_take]; omega
  have hlv : (vs.take c).length = c := by rw [List.length_take]; omega
  have hps : ps = ps.take c ++ ps.drop c := (List.take_append_drop _ _).symm
  have hvs : vs = vs.take c ++ vs.drop c := (List.take_append_drop _ _).symm
  generalize ps.take c = pre at *
  generalize ps.drop c = suf at *
  generalize vs.take c = vs1 at *
  generalize vs.drop c = vs2 at *
  refine wpAny_mono (Q := LaidMid w.params g1 L1 mm H led vs nH ps pt c s) ?first ?rest (fun _ _ h => h)
  all_goals clear hmk
  case first =>
    subst hvs
    have fin : ∀ suf', laid ps pt = laidFin pre suf' pt → ∀ vs2', Pts w.params led vs2' suf' → (∀ a ∈ suf', pt.1 < a.1 ∧ Small a) → suf'.length ≤ suf.length → ∀ h' tk n', Fr g1 L1 h' mm → News g1 L1 h' ((H, listOf (vs1 ++ vs2').toArray n') :: led) →
        LaidMid w.params g1 L1 mm H led (vs1 ++ vs2) nH ps pt c s .next { s with heap := h', toks := tk } := fun suf' e vs2' hp' hs' hl' h' tk n' F' N' =>
      .inr ⟨rfl, h', tk, vs1, vs2', n', pre, suf', rfl, F', N', e, hlc, hv1, hp', hpre, hs', by
        rw [List.length_append] at hlen ⊢
        have := hv1.1
        have := hv2.1
        omega⟩
    cases suf with
    | nil =>
      have e0 : vs2 = [] := List.length_eq_zero_iff.mp hv2.1
      subst e0
      have hcn : c = (vs1 ++ []).length := by simp [hlv]
      k_steps
      all_goals exact fin [] (by rw [hlaid]; rfl) [] hv2 (by simp) (by simp) _ _ _ (by assumption) (by assumption)
    | cons b r =>
      obtain ⟨v, vr, rfl, hvb, hvr⟩ := hv2.uncons
      have hcl : c < (vs1 ++ v :: vr).length := by simp [hlv]
      have hit : (vs1 ++ v :: vr)[((c : Nat) : Int).toNat]? = some v := by rw [Int.toNat_natCast, ← hlv]; simp
      obtain ⟨x, d, tk', tv, rfl, q1, q2, a1, n1, t1, u1, rfl, q3⟩ := hvb
      obtain ⟨b1, b2⟩ := b
      by_cases hb1 : b1 = pt.1
      · subst hb1
        have hb9 : (pt.1 == pt.1) = true := beq_self_eq_true _
        by_cases hb2 : b2 ≤ pt.2
        · k_steps
          have e0 : laid ps pt = ps := by rw [hlaid, laidAt, if_pos rfl, if_pos hb2, ← hps]
          exact .inl ⟨rfl, e0, _, _, rfl, by assumption, by assumption⟩
        · k_steps
          rename Fr _ _ _ _ => F8; rename News _ _ _ _ => N8
          refine del_news F8 N8 hled (by omega) (by omega) ?_
          intro h3 F3' N3'
          k_steps
          have e0 : laid ps pt = laidFin pre r pt := by rw [hlaid, laidAt, if_pos rfl, if_neg hb2]
          refine fin r e0 vr hvr (fun a ha => ⟨?_, (hsuf a (.tail _ ha)).2⟩) (by simp) _ _ _ (by assumption) (by assumption)
          exact (List.pairwise_cons.mp hsortS).1 a ha
      · have hb9 : (b1 == pt.1) = false := beq_eq_false_iff_ne.mpr hb1
        have hs9 : ∀ a ∈ (b1, b2) :: r, pt.1 < a.1 ∧ Small a := fun a ha => by
          have h1 := hsuf a ha
          have h2 := (hsuf _ (.head _)).1
          refine ⟨?_, h1.2⟩
          rcases List.mem_cons.mp ha with rfl | ha
          · simp only at h2 ⊢; omega
          · have := (List.pairwise_cons.mp hsortS).1 a ha
            simp only at h2 this ⊢; omega
        by_cases hc0 : c = 0
        · k_steps
          have e0 : pre = [] := List.length_eq_zero_iff.mp (by omega)
          subst e0
          refine fin ((b1, b2) :: r) (by rw [hlaid, laidAt, if_neg hb1]; rfl) _ hv2 hs9 (Nat.le_refl _) _ _ _ (by assumption) (by assumption)
        · have hne : pre ≠ [] := by intro e; subst e; simp at hlc; omega
          obtain ⟨pre', a, rfl⟩ : ∃ pre' a, pre = pre' ++ [a] := ⟨pre.dropLast, pre.getLast hne, (List.dropLast_concat_getLast hne).symm⟩
          obtain ⟨vs1', vb, rfl, hv1', hvb'⟩ := hv1.split
          obtain ⟨va, _, rfl, hva, hnil⟩ := hvb'.uncons
          have e0 := List.length_eq_zero_iff.mp hnil.1
          subst e0
          have hlp' : vs1'.length + 1 = c := by simpa using hlv
          have hit' : ((vs1' ++ [va]) ++ Value.ref x :: vr)[((c : Int) - 1).toNat]? = some va := by
            have : ((c : Int) - 1).toNat = vs1'.length := by omega
            rw [this]; simp
          obtain ⟨xa, da, tka, tva, rfl, qa1, qa2, aa1, na1, ta1, ua1, rfl, qa3⟩ := hva
          k_steps
          refine wpAny_call (below_spec (by assumption) (by assumption) (by assumption) (by assumption) (by k_room) ⟨_, _, _, _, rfl, .tail _ qa3⟩ ⟨_, _, _, _, rfl, .tail _ hpm2⟩ ⟨_, _, _, _, rfl, .tail _ q3⟩ (hpre a (by simp)).2 hsp (hsuf (b1, b2) (.head _)).2 ?_)
          intro h3 tk4 F5 N5
          dsimp only
          cases hbl : bel a pt (b1, b2) with
          | true =>
            k_steps
            refine fin ((b1, b2) :: r) (by rw [hlaid, laidAt, if_neg hb1, List.getLast?_concat]; simp [hbl]) _ hv2 hs9 (Nat.le_refl _) _ _ _ (by assumption) (by assumption)
          | false =>
            k_steps
            have e0 : laid ps pt = ps := by rw [hlaid, laidAt, if_neg hb1, List.getLast?_concat]; simp only [hbl]; rw [hps]; rfl
            exact .inl ⟨rfl, e0, _, _, rfl, by assumption, by assumption⟩
  case rest =>
    rintro f s2 (⟨rfl, e, h', tk, rfl, F', N'⟩ | ⟨rfl, h', tk, vs1', vs2', n', pre', suf', rfl, F', N', e, hlc', hv1', hv2', hpre', hsuf', hln'⟩)
    · dsimp only
      k_steps
      subst hld
      exact k _ _ vs nH [(D, tupO [.int pt.1 pt1] 0)] (fun q hq => hled q (by simpa using Or.inl (List.mem_singleton.mp hq))) (by assumption) (by assumption) (by rw [e]; exact hq2)
    · dsimp only
      k_steps
      rename_i xq dq h_a F_a N_a l1' l2' g_b L_b h_b X_b T_b h_c F_c N_c kF kN Tc kX
      clear F_c N_c F_a N_a X_b T_b
      have hx : QN w.params ((xq, instObj 166 dq) :: (dq, qnDict w.params (tk + 1) (.ref pa)) :: led) (.ref xq) pt := ⟨xq, dq, _, _, rfl, .head _, .tail _ (.head _), pa, pn, pt1, pt2, rfl, .tail _ (.tail _ hpm2)⟩
      have N5 : News g1 L1 _ ((H, listOf (vs1' ++ vs2').toArray n') :: (xq, instObj 166 dq) :: (dq, qnDict w.params (tk + 1) (.ref pa)) :: led) := fun q hq => kN q (by
        simp only [List.mem_cons] at hq ⊢
        rcases hq with h | h | h | h
        · exact .inr (.inr (.inl h))
        · exact .inl h
        · exact .inr (.inl h)
        · exact .inr (.inr (.inr h)))
      clear kN
      have hled2 : ∀ q ∈ (xq, instObj 166 dq) :: (dq, qnDict w.params (tk + 1) (.ref pa)) :: led, q.1 ≠ H := fun q hq => by
        simp only [List.mem_cons] at hq
        rcases hq with rfl | rfl | h
        · have h1 : H < dq := l1'.1
          have h2 : dq < xq := l2'
          exact Nat.ne_of_gt (Nat.lt_trans h1 h2)
        · exact Nat.ne_of_gt l1'.1
        · exact hled q h
      have hsub : ∀ q ∈ led, q ∈ (xq, instObj 166 dq) :: (dq, qnDict w.params (tk + 1) (.ref pa)) :: led := fun q hq => .tail _ (.tail _ hq)
      have hv1s : Pts w.params ((xq, instObj 166 dq) :: (dq, qnDict w.params (tk + 1) (.ref pa)) :: led) vs1' pre' := hv1'.mono fun v q h => h.mono hsub
      have hv2s : Pts w.params ((xq, instObj 166 dq) :: (dq, qnDict w.params (tk + 1) (.ref pa)) :: led) vs2' suf' := hv2'.mono fun v q h => h.mono hsub
      have hpm3 := hsub _ hpm2
      have hex : ∃ ex, (∀ q ∈ ex, q.1 ≠ H) ∧ (xq, instObj 166 dq) :: (dq, qnDict w.params (tk + 1) (.ref pa)) :: led = ex ++ post := ⟨[(xq, instObj 166 dq), (dq, qnDict w.params (tk + 1) (.ref pa)), (D, tupO [.int pt.1 pt1] 0)], fun q hq => hled2 q (by
        rw [← hld]
        simp only [List.mem_cons, List.not_mem_nil, or_false] at hq ⊢
        rcases hq with h | h | h
        · exact .inl h
        · exact .inr (.inl h)
        · exact .inr (.inr (.inl h))), by rw [← hld]; rfl⟩
      generalize (xq, instObj 166 dq) :: (dq, qnDict w.params (tk + 1) (.ref pa)) :: led = led2 at *
      have hln1 : vs1'.length = pre'.length := hv1'.1
      have hln2 : vs2'.length = suf'.length := hv2'.1
      have hlnv : (vs1' ++ vs2').length = (pre' ++ suf').length := by simp [hln1, hln2]
      have hap : Pts w.params ((H, listOf (vs1' ++ vs2').toArray n') :: led2) (vs1' ++ vs2') (pre' ++ suf') := (hv1s.append hv2s).mono fun v q h => h.mono fun r hr => .tail _ hr
      have hP1 : ∀ a ∈ pre', a.1 < pt.1 := fun a ha => (hpre' a ha).1
      have hP2 : ∀ a ∈ suf', pt.1 < a.1 := fun a ha => (hsuf' a ha).1
      refine wpAny_call (insort_spec (P := ptLt (pre' ++ suf') pt) kF N5 kX Tc hled2 (by k_room) (by k_units) (by omega) (asks_qn hap (hx.mono fun r hr => .tail _ hr)) ?_ ?_)
      · intro i j hij hj h1
        have hj' : j < (pre' ++ suf').length := by omega
        rw [ptLt_at hP1 hP2 hj', decide_eq_true_eq] at h1
        rw [ptLt_at hP1 hP2 (by omega), decide_eq_true_eq]
        omega
      intro h5 tk5 c5 hc51 hc52 hc53 F5 N6
      have hc5 : c5 = vs1'.length := (place_eq hP1 hP2 hlnv hc51 hc52 hc53).trans hln1.symm
      subst hc5
      rw [List.take_left, List.drop_left] at N6
      dsimp only
      k_steps
      refine wpAny_mono (Q := LaidL w.params g1 L1 H xq led2 pt vs2' pre' (.ref pa) s) ?w1 ?rest1 (fun _ _ h => h)
      case w1 =>
        rename Fr _ _ _ _ => F7; rename News _ _ _ _ => N7
        refine While_inv2 (LaidLJ w.params H xq led2 pt vs2' pre' (.ref pa)) (n₀ := vs1'.length) F7 N7 ⟨vs1', pre', _, tk3, rfl, e1, e2, by rw [hln1, hlc']; exact e3, hv1s, rfl, fun a ha => (hpre' a ha).2, Nat.le_of_eq hln1, rfl⟩ ?_ PassesOwn.never
        rintro n m₁ _ h₁ tk₁ F₁ N₁ ⟨us, qs, n₁, t₁, rfl, f1, f2, f3, hus, hpr, hsm, hle, rfl⟩
        have hul : us.length = qs.length := hus.1
        by_cases h2 : us.length ≤ 1
        · k_steps
          refine ⟨rfl, _, _, _, us, n₁, t₁, rfl, by assumption, by assumption, f1, f2, f3, ?_, hle⟩
          rw [← hpr, pruneL_short (by rw [List.length_reverse]; omega), List.reverse_reverse]
          exact hus
        · obtain ⟨qs', b, a, rfl⟩ := last2 (l := qs) (by omega)
          obtain ⟨us', ur, rfl, hus', hur⟩ := hus.split
          obtain ⟨ub, ur2, rfl, hub, hur2⟩ := hur.uncons
          obtain ⟨ua, ur3, rfl, hua, hur3⟩ := hur2.uncons
          have e0 := List.length_eq_zero_iff.mp hur3.1
          subst e0
          have hl2 : (us' ++ [ub, ua]).length = us'.length + 2 := by simp
          rw [hl2] at f3
          have ix1 : ((us' ++ [ub, ua]) ++ Value.ref xq :: vs2')[(((us'.length + 2 : Nat) : Int) - 2).toNat]? = some ub := by
            have : (((us'.length + 2 : Nat) : Int) - 2).toNat = us'.length := by omega
            rw [this]; simp
          have ix2 : ((us' ++ [ub, ua]) ++ Value.ref xq :: vs2')[(((us'.length + 2 : Nat) : Int) - 1).toNat]? = some ua := by
            have : (((us'.length + 2 : Nat) : Int) - 1).toNat = us'.length + 1 := by omega
            rw [this, List.append_assoc, List.getElem?_append_right (by omega)]; simp
          obtain ⟨xa, da, tka, tva, rfl, qa1, qa2, aa1, na1, ta1, ua1, rfl, qa3⟩ := hua
          obtain ⟨xb, db, tkb, tvb, rfl, qb1, qb2, ab1, nb1, tb1, ub1, rfl, qb3⟩ := hub
          k_steps
          have sa : Small a := hsm a (by simp)
          have sb : Small b := hsm b (by simp)
          have e5 : (qs' ++ [b, a]).reverse = a :: b :: qs'.reverse := by simp
          refine wpAny_call (below_spec (by assumption) (by assumption) (by assumption) (by assumption) (by k_room) ⟨_, _, _, _, rfl, .tail _ qb3⟩ ⟨_, _, _, _, rfl, .tail _ qa3⟩ ⟨_, _, _, _, rfl, .tail _ hpm3⟩ sb sa hsp ?_)
          intro h3 tk4 F8 N8
          dsimp only
          cases hbl : bel b a pt with
          | true =>
            k_steps
            refine ⟨rfl, _, _, _, us' ++ [Value.ref xb, Value.ref xa], n₁, t₁, rfl, by assumption, by assumption, f1, f2, by rw [hl2]; exact f3, ?_, hle⟩
            rw [← hpr, e5, pruneL, if_pos hbl, ← e5, List.reverse_reverse]
            exact hus
          | false =>
            k_steps
            rename Fr _ _ _ _ => F9; rename News _ _ _ _ => N9
            have N10 := N9
            rw [show (us' ++ [Value.ref xb, Value.ref xa]) ++ Value.ref xq :: vs2' = (us' ++ [Value.ref xb]) ++ Value.ref xa :: (Value.ref xq :: vs2') from by simp] at N10
            have hlen2 := hv2s.1
            have hlen3 : (us' ++ [Value.ref xb, Value.ref xa]).length ≤ pre'.length := hle
            refine del_news F9 N10 hled2 (by simp; omega) (by simp at hlen3 ⊢; simp at hln'; omega) ?_
            intro h4 F10 N11
            k_steps
            rename Fr _ _ _ _ => F12; rename News _ _ _ _ => N12
            have e6 : (qs' ++ [b]).reverse = b :: qs'.reverse := by simp
            refine whileStep2_next (n' := (us' ++ [Value.ref xb]).length) F12 N12 (by simp) ⟨us' ++ [Value.ref xb], qs' ++ [b], _, _, rfl, f1, f2, intEq (by simp; omega), ?_, ?_, fun c hc => hsm c (by simp at hc ⊢; rcases hc with h | h; exact .inl h; exact .inr (.inl h)), by simp at hlen3 ⊢; omega, rfl⟩
            · exact hus'.append (All2.cons ⟨_, _, _, _, rfl, qb1, qb2, _, _, _, _, rfl, qb3⟩ All2.nil)
            · rw [← hpr, e5, pruneL, if_neg (by rw [hbl]; exact Bool.false_ne_true), e6]
      case rest1 =>
        rintro f s2 ⟨rfl, h', tk', mm2, us, n, t, rfl, F', N', f1, f2, f3, hus, hle⟩
        dsimp only
        k_steps
        have hfin : ∀ ws h' tk n, Fr h₀ L h' m → News h₀ L h' ((H, listOf (us ++ Value.ref xq :: ws).toArray n) :: led2) → Pts w.params led2 ws (pruneR pt suf') → R (.ok (.ret .none)) { s with heap := h', toks := tk } := fun ws h' tk n F' N' hw => by
          obtain ⟨ex, hex1, hex2⟩ := hex
          refine k h' tk _ n ex hex1 F' (by rw [← hex2]; exact N') ?_
          rw [e, laidFin, ← hex2]
          exact hus.append (All2.cons hx hw)
        refine While_inv2 (LaidRJ w.params H xq led2 pt us suf' mm2 vs2'.length) (n₀ := vs2'.length) F' N' ⟨rfl, vs2', suf', n, rfl, hv2s, rfl, fun a ha => (hsuf' a ha).2, Nat.le_refl _, rfl⟩ ?_ PassesOwn.never
        rintro _ m₁ _ h₁ tk₁ F₁ N₁ ⟨rfl, ws, rs, n₁, rfl, hws, hpr, hsm, hlw, rfl⟩
        have hwl : ws.length = rs.length := hws.1
        have hcount : (us ++ Value.ref xq :: ws).length = us.length + 1 + ws.length := by simp; omega
        have hln9 : pre'.length + suf'.length ≤ 100 := by rw [List.length_append] at hln'; exact hln'
        have hL9 : (us ++ Value.ref xq :: ws).length ≤ 1000 := by omega
        by_cases h2 : ws.length ≤ 1
        · k_steps
          refine hfin ws _ _ _ (by assumption) (by assumption) ?_
          rw [← hpr, pruneR_short (by omega)]
          exact hws
        · match rs, hws, hpr, hsm, hwl with
          | [], _, _, _, hwl => exact absurd (show ws.length ≤ 1 from Nat.le_trans (Nat.le_of_eq hwl) (Nat.zero_le _)) h2
          | [a], _, _, _, hwl => exact absurd (show ws.length ≤ 1 from Nat.le_of_eq hwl) h2
          | a :: b :: rs', hws, hpr, hsm, hwl =>
            obtain ⟨ua, wr, rfl, hua, hwr⟩ := hws.uncons
            obtain ⟨ub, wr2, rfl, hub, hwr2⟩ := hwr.uncons
            have ix1 : (us ++ Value.ref xq :: ua :: ub :: wr2)[((us.length : Int) + 1).toNat]? = some ua := by
              have : ((us.length : Int) + 1).toNat = us.length + 1 := by omega
              rw [this, List.getElem?_append_right (by omega)]; simp
            have ix2 : (us ++ Value.ref xq :: ua :: ub :: wr2)[((us.length : Int) + 2).toNat]? = some ub := by
              have : ((us.length : Int) + 2).toNat = us.length + 2 := by omega
              rw [this, List.getElem?_append_right (by omega)]; simp
            obtain ⟨xa, da, tka, tva, rfl, qa1, qa2, aa1, na1, ta1, ua1, rfl, qa3⟩ := hua
            obtain ⟨xb, db, tkb, tvb, rfl, qb1, qb2, ab1, nb1, tb1, ub1, rfl, qb3⟩ := hub
            k_steps
            refine wpAny_call (below_spec (by assumption) (by assumption) (by assumption) (by assumption) (by k_room) ⟨_, _, _, _, rfl, .tail _ hpm3⟩ ⟨_, _, _, _, rfl, .tail _ qa3⟩ ⟨_, _, _, _, rfl, .tail _ qb3⟩ hsp (hsm a (by simp)) (hsm b (by simp)) ?_)
            intro h3 tk4 F8 N8
            dsimp only
            cases hbl : bel pt a b with
            | true =>
              k_steps
              refine hfin _ _ _ _ (by assumption) (by assumption) ?_
              rw [← hpr, pruneR, if_pos hbl]
              exact hws
            | false =>
              k_steps
              rename Fr _ _ _ _ => F9; rename News _ _ _ _ => N9
              have N10 := N9
              rw [show us ++ Value.ref xq :: Value.ref xa :: Value.ref xb :: wr2 = (us ++ [Value.ref xq]) ++ Value.ref xa :: (Value.ref xb :: wr2) from by simp] at N10
              refine del_news F9 N10 hled2 (by simp) (by simp at hL9 ⊢; omega) ?_
              intro h4 F10 N11
              k_steps
              rename Fr _ _ _ _ => F12; rename News _ _ _ _ => N12
              refine whileStep2_next (n' := (Value.ref xb :: wr2).length) F12 N12 (by simp) ⟨rfl, Value.ref xb :: wr2, b :: rs', _, by rw [List.append_assoc]; rfl, hwr, ?_, fun c hc => hsm c (.tail _ hc), Nat.le_of_succ_le hlw, rfl⟩
              rw [← hpr, pruneR, if_neg (by rw [hbl]; exact Bool.false_ne_true)]

end

section
/-- what key(v) gives for the items of a list, at any state that keeps the ledger -/
noncomputable def Keyed9 (prog : Program) (w : World) (p : Program) (loose : List Str) (mean : ExcName → Option Value) (mg mb : Str → Option Value) (news : List (Addr × Obj)) (vs : List Value) (fv : Value) (g : Nat → Int) (d u : Nat) : Prop :=
  ∀ (A : Around) (s : Shared) (h₀ : Heap) (L : Addr) (m : Str → Option Value) (E Q : Value → Shared → Prop) (i : Nat) (v : Value), A.depth + d < recursionLimit → A.units + u < cLine → vs[i]? = some v →
    Fr h₀ L s.heap m → News h₀ L s.heap news → (hd.heap_1 w.params).In h₀ → Top p loose mean mg mb h₀ →
    (∀ h' tk t, Fr h₀ L h' m → News h₀ L h' news → Q (.int (g i) t) { s with heap := h', toks := tk }) → wpAny (model prog w) A (call fv [v]) Q E s

local macro_rules | `(tactic| walk_at "subscriptTail Name Name ref int") => `(tactic| refine held ?_)
local macro_rules | `(tactic| walk_at "callWith ref") => `(tactic| (k_here; k_dflt (refine' callWith_F ?k1 ?_; (case k1 => exact FnAt.of (by k_asm) (by assumption)); k_whole)))
local macro_rules | `(tactic| walk_at "And") => `(tactic| ((with_reducible show FnAt _ _ ∧ _); refine ⟨FnAt.of (by k_asm) (by assumption), ?_⟩; try dsimp only [List.nil_append, List.cons_append]))
local macro_rules | `(tactic| walk_at "call ref") => `(tactic| refine held ?_)
inductive BisKJ (H : Addr) (fv xv : Value) (n : Nat) (P : Nat → Bool) (news : List (Addr × Obj)) (k : Nat) (m : Str → Option Value) (nw : List (Addr × Obj)) : Prop
  | mk (f1 : nw = news) (f2 : m (Str.ofString "a") = some (.ref H)) (f3 : m (Str.ofString "x") = some xv) (f4 : m (Str.ofString "key") = some fv) (lo hi : Nat) (tl th : Tok) (f5 : m (Str.ofString "lo") = some (.int lo tl)) (f6 : m (Str.ofString "hi") = some (.int hi th)) (f7 : lo ≤ hi) (f8 : hi ≤ n) (f9 : (∀ i, i < lo → P i = true)) (f10 : (∀ i, hi ≤ i → i < n → P i = false)) (f11 : k = hi - lo)
set_option maxRecDepth 100000 in
set_option maxHeartbeats 8000000 in
theorem biskl_spec {R : Result → Shared → Prop} {H fa : Addr} {vs : List Value} {nH : Nat} {t0 : Tok} {g : Nat → Int} {fd : FuncData}
    (F : Fr h₀ L s.heap m) (N : News h₀ L s.heap news) (X : (hd.heap_1 w.params).In h₀) (T : Top p loose mean mg mb h₀)
    (hroom : A.depth + 35 < recursionLimit) (hu : A.units + 300 < cLine) (hH : (H, listOf vs.toArray nH) ∈ news) (hfa : (fa, ({ cls := .type "function", data := .func fd } : Obj)) ∈ news) (hlen : vs.length ≤ 1000)
    (hc : Keyed9 prog w p loose mean mg mb news vs (.ref fa) g 25 200) (hP : ∀ i j, i < j → j < vs.length → g j < 0 → g i < 0)
    (k : ∀ h' tk tk' c, c ≤ vs.length → (∀ i, i < c → g i < 0) → (∀ i, c ≤ i → i < vs.length → ¬ g i < 0) → Fr h₀ L h' m → News h₀ L h' news → R (.ok (.ret (.int ((c : Nat) : Int) tk'))) { s with heap := h', toks := tk }) :
    codeAny (model prog w) A (.call (.ref 41) ⟨[.ref H, .int 0 t0], [(Str.ofString "key", .ref fa)]⟩) R s := by
  k_enter
  k_steps
  refine While_inv2 (BisKJ H (.ref fa) (.int 0 t0) vs.length (fun i => decide (g i < 0)) news) (n₀ := vs.length) (by assumption) (by assumption) ⟨rfl, rfl, rfl, rfl, 0, vs.length, _, _, rfl, rfl, Nat.zero_le _, Nat.le_refl _, fun i hi => absurd hi (Nat.not_lt_zero _), fun i h1 h2 => absurd h2 (Nat.not_lt.mpr h1), rfl⟩ ?_ PassesOwn.never
  rintro n m₁ _ h₁ tk₁ F₁ N₁ ⟨rfl, ha, hx, hky, lo, hi, tl, th, hlo, hhi, hlh, hhn, hlt, hge, rfl⟩
  k_steps
  · have hmid : ((lo : Int) + (hi : Int)).fdiv 2 = (((lo + hi) / 2 : Nat) : Int) := by
      rw [← Int.natCast_add, Int.fdiv_eq_ediv_of_nonneg _ (by omega)]; omega
    have hml : (lo + hi) / 2 < vs.length := by omega
    simp only [hmid]; rename Fr _ _ _ _ => F9; simp only [hmid] at F9
    refine item_news (by assumption) hH (by omega) (by omega) (v := vs[(lo + hi) / 2]) (by rw [Int.toNat_natCast]; exact List.getElem?_eq_getElem hml) ?_
    k_steps
    refine hc _ _ _ _ _ _ _ ((lo + hi) / 2) _ (by k_room) (by k_units) (List.getElem?_eq_getElem hml) (by assumption) (by assumption) (by assumption) (by assumption) ?_
    intro h2 tk2 t2 F2 N2
    by_cases hp : g ((lo + hi) / 2) < 0
    · k_steps
      rename Fr _ _ _ _ => F8; rename News _ _ _ _ => N8
      refine whileStep2_next (n' := hi - ((lo + hi) / 2 + 1)) F8 N8 (by omega) ⟨rfl, ha, hx, hky, (lo + hi) / 2 + 1, hi, _, th, rfl, hhi, by omega, hhn, fun i hi' => decide_eq_true ?_, hge, rfl⟩
      rcases Nat.lt_or_eq_of_le (Nat.le_of_lt_succ hi') with q | q
      · exact hP _ _ q hml hp
      · rw [q]; exact hp
    · k_steps
      rename Fr _ _ _ _ => F8; rename News _ _ _ _ => N8
      refine whileStep2_next (n' := (lo + hi) / 2 - lo) F8 N8 (by omega) ⟨rfl, ha, hx, hky, lo, (lo + hi) / 2, tl, _, hlo, rfl, by omega, by omega, hlt, fun i h1 h2 => decide_eq_false ?_, rfl⟩
      rcases Nat.lt_or_eq_of_le h1 with q | q
      · exact fun e => hp (hP _ _ q h2 e)
      · rw [← q]; exact hp
  · have e : lo = hi := by omega
    subst e
    exact k _ _ _ lo (by omega) (fun i hi => of_decide_eq_true (hlt i hi)) (fun i h1 h2 => of_decide_eq_false (hge i h1 h2)) (by assumption) (by assumption)
set_option maxRecDepth 100000 in
set_option maxHeartbeats 8000000 in
theorem biskr_spec {R : Result → Shared → Prop} {H fa : Addr} {vs : List Value} {nH : Nat} {t0 : Tok} {g : Nat → Int} {fd : FuncData}
    (F : Fr h₀ L s.heap m) (N : News h₀ L s.heap news) (X : (hd.heap_1 w.params).In h₀) (T : Top p loose mean mg mb h₀)
    (hroom : A.depth + 35 < recursionLimit) (hu : A.units + 300 < cLine) (hH : (H, listOf vs.toArray nH) ∈ news) (hfa : (fa, ({ cls := .type "function", data := .func fd } : Obj)) ∈ news) (hlen : vs.length ≤ 1000)
    (hc : Keyed9 prog w p loose mean mg mb news vs (.ref fa) g 25 200) (hP : ∀ i j, i < j → j < vs.length → ¬ 0 < g j → ¬ 0 < g i)
    (k : ∀ h' tk tk' c, c ≤ vs.length → (∀ i, i < c → ¬ 0 < g i) → (∀ i, c ≤ i → i < vs.length → 0 < g i) → Fr h₀ L h' m → News h₀ L h' news → R (.ok (.ret (.int ((c : Nat) : Int) tk'))) { s with heap := h', toks := tk }) :
    codeAny (model prog w) A (.call (.ref 23) ⟨[.ref H, .int 0 t0], [(Str.ofString "key", .ref fa)]⟩) R s := by
  k_enter
  k_steps
  refine While_inv2 (BisKJ H (.ref fa) (.int 0 t0) vs.length (fun i => decide (¬ 0 < g i)) news) (n₀ := vs.length) (by assumption) (by assumption) ⟨rfl, rfl, rfl, rfl, 0, vs.length, _, _, rfl, rfl, Nat.zero_le _, Nat.le_refl _, fun i hi => absurd hi (Nat.not_lt_zero _), fun i h1 h2 => absurd h2 (Nat.not_lt.mpr h1), rfl⟩ ?_ PassesOwn.never
  rintro n m₁ _ h₁ tk₁ F₁ N₁ ⟨rfl, ha, hx, hky, lo, hi, tl, th, hlo, hhi, hlh, hhn, hlt, hge, rfl⟩
  k_steps
  · have hmid : ((lo : Int) + (hi : Int)).fdiv 2 = (((lo + hi) / 2 : Nat) : Int) := by
      rw [← Int.natCast_add, Int.fdiv_eq_ediv_of_nonneg _ (by omega)]; omega
    have hml : (lo + hi) / 2 < vs.length := by omega
    simp only [hmid]; rename Fr _ _ _ _ => F9; simp only [hmid] at F9
    refine item_news (by assumption) hH (by omega) (by omega) (v := vs[(lo + hi) / 2]) (by rw [Int.toNat_natCast]; exact List.getElem?_eq_getElem hml) ?_
    k_steps
    refine hc _ _ _ _ _ _ _ ((lo + hi) / 2) _ (by k_room) (by k_units) (List.getElem?_eq_getElem hml) (by assumption) (by assumption) (by assumption) (by assumption) ?_
    intro h2 tk2 t2 F2 N2
    by_cases hp : ¬ 0 < g ((lo + hi) / 2)
    · k_steps
      rename Fr _ _ _ _ => F8; rename News _ _ _ _ => N8
      refine whileStep2_next (n' := hi - ((lo + hi) / 2 + 1)) F8 N8 (by omega) ⟨rfl, ha, hx, hky, (lo + hi) / 2 + 1, hi, _, th, rfl, hhi, by omega, hhn, fun i hi' => decide_eq_true ?_, hge, rfl⟩
      rcases Nat.lt_or_eq_of_le (Nat.le_of_lt_succ hi') with q | q
      · exact hP _ _ q hml hp
      · rw [q]; exact hp
    · k_steps
      rename Fr _ _ _ _ => F8; rename News _ _ _ _ => N8
      refine whileStep2_next (n' := (lo + hi) / 2 - lo) F8 N8 (by omega) ⟨rfl, ha, hx, hky, lo, (lo + hi) / 2, tl, _, hlo, rfl, by omega, by omega, hlt, fun i h1 h2 => decide_eq_false ?_, rfl⟩
      rcases Nat.lt_or_eq_of_le h1 with q | q
      · exact fun e => hp (hP _ _ q h2 e)
      · rw [← q]; exact hp
  · have e : lo = hi := by omega
    subst e
    exact k _ _ _ lo (by omega) (fun i hi => of_decide_eq_true (hlt i hi)) (fun i h1 h2 => Decidable.of_not_not (of_decide_eq_false (hge i h1 h2))) (by assumption) (by assumption)

end

section
local macro_rules | `(tactic| walk_at "no such key") => `(tactic| skip)
local macro_rules | `(tactic| walk_at "eval Name") => `(tactic| (k_here; (with_reducible show wpAny _ _ (eval _ (envX _ _ _ _ _ _)) _ _ _); k_dflt (refine' nameX_F ?N ?c ?m ?d ?_ ?a ?b; (case a => rfl); (case b => rfl); (case N => k_asm); (case c => rfl); (case m => assumption); (case d => assumption); k_whole)))
local macro_rules | `(tactic| walk_at "call ref") => `(tactic| with_reducible refine heldCall 245 ?_)
local macro_rules | `(tactic| walk_at "subscriptTail Name BinOp ref int") => `(tactic| first | walk_at "my news" | refine held ?_)
local macro_rules | `(tactic| walk_at "subscriptTail Name Name ref int") => `(tactic| first | walk_at "my news" | refine held ?_)
noncomputable def costOf (ps : List (Int × Int)) (t : Int) (i : Nat) : Int := match ps[i]? with | some a => a.2 + a.1 * t | none => 0
set_option maxRecDepth 100000 in
set_option maxHeartbeats 8000000 in
theorem lam_keyed {p1 p2 p3 p4 p5 p6 p7 p8 p9 q1 q2 q3 q4 q7 q8 q9 p20 pk : Pos} {qual : Str} {cH cT f c' : Addr} {pm ctv : Value} {oc oH oT : Obj} {vsC : Array Value} {tq : Tok} {H : Addr} {vs us : List Value} {nH : Nat} {ps : List (Int × Int)} {t : Int} {tt : Tok} {n : Nat}
    (hf : (f, kla_obj (Str.ofString "<lambda>") qual { posonlyargs := [], args := [{ arg := Str.ofString "k", annotation := none, pos := pk }], vararg := none, kwonlyargs := [], kw_defaults := [], kwarg := none, defaults := [] }
      (.BinOp (.Call (.Name (Str.ofString "_law_cost") p1) [.Attribute (.Subscript (.Name (Str.ofString "hull") p2) (.BinOp (.Name (Str.ofString "k") p3) .Add (.Constant (.int 1) 0 p4) p5) p6) (Str.ofString "text") p7, .Name (Str.ofString "turns") p8] [] p9) .Sub
        (.Call (.Name (Str.ofString "_law_cost") q1) [.Attribute (.Subscript (.Name (Str.ofString "hull") q2) (.Name (Str.ofString "k") q3) q4) (Str.ofString "text") q7, .Name (Str.ofString "turns") q8] [] q9) p20)
      { kind := .function, names := [(Str.ofString "k", .local), (Str.ofString "hull", .free), (Str.ofString "turns", .free), (Str.ofString "_law_cost", .globalImplicit)], isGenerator := false, isCoroutine := false, more := [] }
      [(Str.ofString "turns", cT), (Str.ofString "hull", cH)] pm c' ctv) ∈ news)
    (hc' : (c', oc) ∈ news) (hoc : oc.data = .fields vsC) (hqc : vsC[1]? = some (.str qual tq))
    (hcH : (cH, oH) ∈ news) (hoH : oH.data = .cell (some (.ref H))) (hcT : (cT, oT) ∈ news) (hoT : oT.data = .cell (some (.int t tt)))
    (hH : (H, listOf vs.toArray nH) ∈ news) (hq : Pts w.params news vs ps) (hss : ∀ a ∈ ps, Small a) (hus : IntsAre us (rangeKs 0 n)) (hn : n + 1 = ps.length) (hlen : vs.length ≤ 100) :
    Keyed9 prog w p loose mean mg mb news us (.ref f) (fun i => costOf ps t (i + 1) - costOf ps t i) 25 200 := by
  intro A s h₀ L m E Q i v hd hu hv F N X T k
  have hlp : vs.length = ps.length := hq.1
  have hi : i < n := by
    have h1 := (List.getElem?_eq_some_iff.mp hv).1
    rw [hus.length, rangeKs_length] at h1; exact h1
  obtain ⟨ti, hvi⟩ : ∃ ti, v = .int (i : Int) ti := by
    obtain ⟨ti, h1⟩ := hus.get i (i : Int) (by simp [rangeKs, hi])
    rw [hv] at h1
    exact ⟨ti, Option.some.inj h1⟩
  subst hvi
  obtain ⟨va, hva, hqa⟩ := hq.get (i := i + 1) (List.getElem?_eq_getElem (by omega))
  obtain ⟨vb, hvb, hqb⟩ := hq.get (i := i) (List.getElem?_eq_getElem (by omega))
  have hsa := hss _ (List.getElem_mem (show i + 1 < ps.length by omega))
  have hsb := hss _ (List.getElem_mem (show i < ps.length by omega))
  have ea : costOf ps t (i + 1) = (ps[i + 1]).2 + (ps[i + 1]).1 * t := by unfold costOf; rw [List.getElem?_eq_getElem (by omega)]
  have eb : costOf ps t i = (ps[i]).2 + (ps[i]).1 * t := by unfold costOf; rw [List.getElem?_eq_getElem (by omega)]
  simp only [ea, eb] at k
  generalize ps[i + 1] = a at *
  generalize ps[i] = b at *
  obtain ⟨xa, da, tka, tva, rfl, qa1, qa2, aa1, na1, ta1, ua1, rfl, qa3⟩ := hqa
  obtain ⟨xb, db, tkb, tvb, rfl, qb1, qb2, ab1, nb1, tb1, ub1, rfl, qb3⟩ := hqb
  have ix1 : vs[((i : Int) + 1).toNat]? = some (.ref xa) := by rw [show ((i : Int) + 1).toNat = i + 1 by omega]; exact hva
  have ix2 : vs[((i : Int)).toNat]? = some (.ref xb) := by rw [show ((i : Int)).toNat = i by omega]; exact hvb
  refine wpAny_call ?_
  refine' enterL F N X T hf (codeRec_news N hc' hoc hqc) (by omega) ?k9 ?kB ?_ ?c2 ?c3 ?c4 ?c5
  (case k9 => exact rfl)
  (case kB => exact locs rfl)
  (case c2 => exact rfl)
  (case c3 => exact rfl)
  (case c4 => exact rfl)
  (case c5 => decide)
  intro g' L' h' F' N' X' T'
  k_steps
  refine wpAny_call (cost_spec (by assumption) (by assumption) (by assumption) (by assumption) (by k_room) ⟨_, _, _, _, rfl, qa3⟩ hsa ?_)
  intro h2 tk2 t2 F2 N2
  dsimp only
  k_steps
  refine wpAny_call (cost_spec (by assumption) (by assumption) (by assumption) (by assumption) (by k_room) ⟨_, _, _, _, rfl, qb3⟩ hsb ?_)
  intro h3 tk3 t3 F3 N3
  dsimp only
  k_steps
  exact k _ _ _ (by assumption) (by assumption)

end

section
local macro_rules | `(tactic| k_enter) => `(tactic| walk_at "my enterC")
local macro_rules | `(tactic| walk_at "call ref") => `(tactic| refine held ?_)
local macro_rules | `(tactic| walk_at "call type:list") => `(tactic| refine held ?_)
local macro_rules | `(tactic| walk_at "subscriptTail Name Name ref int") => `(tactic| first | walk_at "my news" | refine held ?_)
/-- the table of the code objects within _law_best's: nothing, or its two lambdas' -/
noncomputable def TabSt (tb : Array Value) (nw : List (Addr × Obj)) : Prop :=
  tb = #[] ∨ ∃ c1 c2 o1 o2 v1 v2 t1 t2, tb = #[rawInt (212 : Nat), rawInt (36 : Nat), .ref c1] ++ #[rawInt (213 : Nat), rawInt (38 : Nat), .ref c2] ∧
    (c1, o1) ∈ nw ∧ o1.data = .fields v1 ∧ v1[1]? = some (.str (Str.ofString "_law_best" ++ Str.ofString ".<locals>." ++ Str.ofString "<lambda>") t1) ∧
    (c2, o2) ∈ nw ∧ o2.data = .fields v2 ∧ v2[1]? = some (.str (Str.ofString "_law_best" ++ Str.ofString ".<locals>." ++ Str.ofString "<lambda>") t2)
noncomputable def rise (ps : List (Int × Int)) (t : Int) (i : Nat) : Int := costOf ps t (i + 1) - costOf ps t i
set_option maxRecDepth 100000 in
set_option maxHeartbeats 8000000 in
theorem best_first {R : Result → Shared → Prop} {H : Addr} {vs : List Value} {nH : Nat} {ps : List (Int × Int)} {t : Int} {tt : Tok} {post : List (Addr × Obj)}
    (F : Fr h₀ L s.heap m) (N : News h₀ L s.heap ((247, tabObj #[]) :: post)) (X : (hd.heap_1 w.params).In h₀) (T : Top p loose mean mg mb h₀) (C : CodeHd h₀ 251 247) (hh : A.handled = none)
    (hpost : ∀ p ∈ post, p.1 ≠ 247) (hroom : A.depth + 80 < recursionLimit) (hu : A.units + 600 < cLine) (hH : (H, listOf vs.toArray nH) ∈ post) (hlen : vs.length ≤ 100) (hne : 1 ≤ vs.length)
    (hq : Pts w.params post vs ps) (hss : ∀ a ∈ ps, Small a)
    (hm1 : ∀ i j, i < j → j + 1 < ps.length → rise ps t j < 0 → rise ps t i < 0) (hm2 : ∀ i j, i < j → j + 1 < ps.length → ¬ 0 < rise ps t j → ¬ 0 < rise ps t i)
    (k : ∀ h' tk c1 c2 D nD va vb a b ex tb, c1 < ps.length → c2 < ps.length → (∀ i, i < c1 → rise ps t i < 0) → (∀ i, c1 ≤ i → i + 1 < ps.length → ¬ rise ps t i < 0) → (∀ i, i < c2 → ¬ 0 < rise ps t i) → (∀ i, c2 ≤ i → i + 1 < ps.length → 0 < rise ps t i) →
      ps[c1]? = some a → ps[c2]? = some b → Tup2 post va a → Tup2 post vb b → (D, listOf [va, vb].toArray nD) ∈ ex → (∀ q ∈ ex, q.1 ≠ 247) → (∀ q ∈ ex, ∀ r ∈ post, q.1 ≠ r.1) → TabSt tb ex → Fr h₀ L h' m → News h₀ L h' ((247, tabObj tb) :: (ex ++ post)) → R (.ok (.ret (.ref D))) { s with heap := h', toks := tk }) :
    codeAny (model prog w) A (.call (.ref 252) ⟨[.ref H, .int t tt], []⟩) R s := by
  have hlp : vs.length = ps.length := hq.1
  k_enter
  rename_i g1 L1 h1 tk1 F1 X1 T1 st1 l1 o1 o2 d1 d2 N1
  have hC := C.keeps (by assumption)
  k_steps
  refine kll_range (n := vs.length - 1) hh (by assumption) (by assumption) (by assumption) (small_one (by omega) (by omega) (by omega) (by omega)) (by rw [rangeSize_nat]; omega) (by omega) ?_
  intro RA us cR h2 tk2 F2 N2 lR hus
  k_lt lR
  k_steps
  rename_i f1 cc1 oc1 vv1 tq1 ct1 h3 tk3 F3 N3 e1 e2 l3 l4
  have hul : us.length = vs.length - 1 := by rw [hus.length, rangeKs_length]
  refine wpAny_call (biskl_spec (fa := f1) (g := rise ps t) F3 N3 X1 T1 (by k_room) (by k_units) (.tail _ (.tail _ (.head _))) (.head _) (by omega)
    (lam_keyed (n := vs.length - 1) (.head _) (.tail _ (.head _)) e1 e2 (.tail _ (.tail _ (.tail _ (.tail _ (.head _))))) d2 (.tail _ (.tail _ (.tail _ (.head _)))) d1
      (.tail _ (.tail _ (.tail _ (.tail _ (.tail _ (.tail _ hH)))))) (hq.mono fun v q h => h.mono fun r hr => .tail _ (.tail _ (.tail _ (.tail _ (.tail _ (.tail _ hr)))))) hss hus (by omega) hlen)
    (fun i j hij hj => hm1 i j hij (by omega)) ?_)
  intro h5 tk5 t5 c1 hc1 hf1 hf2 F5 N5
  dsimp only
  k_steps
  rename_i h6 F6 f2 cc2 oc2 vv2 tq2 ct2 h7 tk7 F7 N7 e3 e4 l5 l6
  refine wpAny_call (biskr_spec (fa := f2) (g := rise ps t) F7 N7 X1 T1 (by k_room) (by k_units) (.tail _ (.tail _ (.tail _ (.tail _ (.head _))))) (.head _) (by omega)
    (lam_keyed (n := vs.length - 1) (.head _) (.tail _ (.head _)) e3 e4 (.tail _ (.tail _ (.tail _ (.tail _ (.tail _ (.tail _ (.head _))))))) d2 (.tail _ (.tail _ (.tail _ (.tail _ (.tail _ (.head _)))))) d1
      (.tail _ (.tail _ (.tail _ (.tail _ (.tail _ (.tail _ (.tail _ (.tail _ hH)))))))) (hq.mono fun v q h => h.mono fun r hr => .tail _ (.tail _ (.tail _ (.tail _ (.tail _ (.tail _ (.tail _ (.tail _ hr)))))))) hss hus (by omega) hlen)
    (fun i j hij hj => hm2 i j hij (by omega)) ?_)
  intro h8 tk8 t8 c2 hc2 hg1 hg2 F8 N8
  have hc1p : c1 < ps.length := by omega
  have hc2p : c2 < ps.length := by omega
  obtain ⟨va, hva, hqa⟩ := hq.get (i := c1) (List.getElem?_eq_getElem hc1p)
  obtain ⟨vb, hvb, hqb⟩ := hq.get (i := c2) (List.getElem?_eq_getElem hc2p)
  obtain ⟨xa, da, tka, tva, rfl, qa1, qa2, qa3⟩ := hqa
  obtain ⟨xb, db, tkb, tvb, rfl, qb1, qb2, qb3⟩ := hqb
  have ix1 : vs[((c1 : Nat) : Int).toNat]? = some (.ref xa) := by rw [Int.toNat_natCast]; exact hva
  have ix2 : vs[((c2 : Nat) : Int).toNat]? = some (.ref xb) := by rw [Int.toNat_natCast]; exact hvb
  obtain ⟨aa, na, ta, ua, rfl, qa4⟩ := id qa3
  obtain ⟨ab, nb, tb, ub, rfl, qb4⟩ := id qb3
  dsimp only
  k_steps
  rename_i D h9 F9 N9 l7 kF kN Tc kX
  have N10 := news_pull [_, _, _, _, _, _, _, _] kN
  refine k _ _ c1 c2 D _ _ _ _ _ _ _ hc1p hc2p hf1 (fun i h1 h2 => hf2 i h1 (by omega)) hg1 (fun i h1 h2 => hg2 i h1 (by omega))
    (List.getElem?_eq_getElem hc1p) (List.getElem?_eq_getElem hc2p) qa3 qb3 (.head _) ?_ ?_ ?_ kF N10
  · intro q hq
    simp only [List.mem_cons, List.not_mem_nil, or_false] at hq
    simp only at *
    rcases hq with rfl | rfl | rfl | rfl | rfl | rfl | rfl | rfl
    all_goals (refine Nat.ne_of_gt ?_; show (247 : Nat) < _; omega)
  · intro q hq r hr
    have hr9 : @LT.lt Nat _ r.1 L1 := tb_ltOf l1.2 r hr
    simp only [List.mem_cons, List.not_mem_nil, or_false] at hq
    simp only at *
    rcases hq with rfl | rfl | rfl | rfl | rfl | rfl | rfl | rfl
    all_goals (refine Nat.ne_of_gt ?_; show @LT.lt Nat _ r.1 _; omega)
  · exact .inr ⟨cc1, cc2, oc1, oc2, vv1, vv2, tq1, tq2, rfl, .tail _ (.tail _ (.tail _ (.tail _ (.head _)))), e1, e2, .tail _ (.tail _ (.head _)), e3, e4⟩
set_option maxRecDepth 100000 in
set_option maxHeartbeats 8000000 in
theorem best_again {R : Result → Shared → Prop} {H : Addr} {vs : List Value} {nH : Nat} {ps : List (Int × Int)} {t : Int} {tt : Tok} {post : List (Addr × Obj)} {cc1 cc2 : Addr} {oc1 oc2 : Obj} {vv1 vv2 : Array Value} {tq1 tq2 : Tok}
    (F : Fr h₀ L s.heap m) (N : News h₀ L s.heap ((247, tabObj (#[rawInt (212 : Nat), rawInt (36 : Nat), .ref cc1] ++ #[rawInt (213 : Nat), rawInt (38 : Nat), .ref cc2])) :: post)) (X : (hd.heap_1 w.params).In h₀) (T : Top p loose mean mg mb h₀) (C : CodeHd h₀ 251 247) (hh : A.handled = none)
    (hcm1 : (cc1, oc1) ∈ post) (e1 : oc1.data = .fields vv1) (e2 : vv1[1]? = some (.str (Str.ofString "_law_best" ++ Str.ofString ".<locals>." ++ Str.ofString "<lambda>") tq1))
    (hcm2 : (cc2, oc2) ∈ post) (e3 : oc2.data = .fields vv2) (e4 : vv2[1]? = some (.str (Str.ofString "_law_best" ++ Str.ofString ".<locals>." ++ Str.ofString "<lambda>") tq2))
    (hpost : ∀ p ∈ post, p.1 ≠ 247) (hroom : A.depth + 80 < recursionLimit) (hu : A.units + 600 < cLine) (hH : (H, listOf vs.toArray nH) ∈ post) (hlen : vs.length ≤ 100) (hne : 1 ≤ vs.length)
    (hq : Pts w.params post vs ps) (hss : ∀ a ∈ ps, Small a)
    (hm1 : ∀ i j, i < j → j + 1 < ps.length → rise ps t j < 0 → rise ps t i < 0) (hm2 : ∀ i j, i < j → j + 1 < ps.length → ¬ 0 < rise ps t j → ¬ 0 < rise ps t i)
    (k : ∀ h' tk c1 c2 D nD va vb a b ex tb, c1 < ps.length → c2 < ps.length → (∀ i, i < c1 → rise ps t i < 0) → (∀ i, c1 ≤ i → i + 1 < ps.length → ¬ rise ps t i < 0) → (∀ i, i < c2 → ¬ 0 < rise ps t i) → (∀ i, c2 ≤ i → i + 1 < ps.length → 0 < rise ps t i) →
      ps[c1]? = some a → ps[c2]? = some b → Tup2 post va a → Tup2 post vb b → (D, listOf [va, vb].toArray nD) ∈ ex → (∀ q ∈ ex, q.1 ≠ 247) → (∀ q ∈ ex, ∀ r ∈ post, q.1 ≠ r.1) → tb = (#[rawInt (212 : Nat), rawInt (36 : Nat), .ref cc1] ++ #[rawInt (213 : Nat), rawInt (38 : Nat), .ref cc2]) → Fr h₀ L h' m → News h₀ L h' ((247, tabObj tb) :: (ex ++ post)) → R (.ok (.ret (.ref D))) { s with heap := h', toks := tk }) :
    codeAny (model prog w) A (.call (.ref 252) ⟨[.ref H, .int t tt], []⟩) R s := by
  have hlp : vs.length = ps.length := hq.1
  k_enter
  rename_i g1 L1 h1 tk1 F1 X1 T1 st1 l1 o1 o2 d1 d2 N1
  have hC := C.keeps (by assumption)
  k_steps
  refine kll_range (n := vs.length - 1) hh (by assumption) (by assumption) (by assumption) (small_one (by omega) (by omega) (by omega) (by omega)) (by rw [rangeSize_nat]; omega) (by omega) ?_
  intro RA us cR h2 tk2 F2 N2 lR hus
  k_lt lR
  k_steps
  rename_i f1 ct1 h3 tk3 F3 N3 l3
  have hul : us.length = vs.length - 1 := by rw [hus.length, rangeKs_length]
  refine wpAny_call (biskl_spec (fa := f1) (g := rise ps t) F3 N3 X1 T1 (by k_room) (by k_units) (.tail _ (.head _)) (.head _) (by omega)
    (lam_keyed (n := vs.length - 1) (.head _) (.tail _ (.tail _ (.tail _ (.tail _ (.tail _ hcm1))))) e1 e2 (.tail _ (.tail _ (.tail _ (.head _)))) d2 (.tail _ (.tail _ (.head _))) d1
      (.tail _ (.tail _ (.tail _ (.tail _ (.tail _ hH))))) (hq.mono fun v q h => h.mono fun r hr => .tail _ (.tail _ (.tail _ (.tail _ (.tail _ hr))))) hss hus (by omega) hlen)
    (fun i j hij hj => hm1 i j hij (by omega)) ?_)
  intro h5 tk5 t5 c1 hc1 hf1 hf2 F5 N5
  dsimp only
  k_steps
  rename_i h6 F6 f2 ct2 h7 tk7 F7 N7 l5
  refine wpAny_call (biskr_spec (fa := f2) (g := rise ps t) F7 N7 X1 T1 (by k_room) (by k_units) (.tail _ (.tail _ (.head _))) (.head _) (by omega)
    (lam_keyed (n := vs.length - 1) (.head _) (.tail _ (.tail _ (.tail _ (.tail _ (.tail _ (.tail _ hcm2)))))) e3 e4 (.tail _ (.tail _ (.tail _ (.tail _ (.head _))))) d2 (.tail _ (.tail _ (.tail _ (.head _)))) d1
      (.tail _ (.tail _ (.tail _ (.tail _ (.tail _ (.tail _ hH)))))) (hq.mono fun v q h => h.mono fun r hr => .tail _ (.tail _ (.tail _ (.tail _ (.tail _ (.tail _ hr)))))) hss hus (by omega) hlen)
    (fun i j hij hj => hm2 i j hij (by omega)) ?_)
  intro h8 tk8 t8 c2 hc2 hg1 hg2 F8 N8
  have hc1p : c1 < ps.length := by omega
  have hc2p : c2 < ps.length := by omega
  obtain ⟨va, hva, hqa⟩ := hq.get (i := c1) (List.getElem?_eq_getElem hc1p)
  obtain ⟨vb, hvb, hqb⟩ := hq.get (i := c2) (List.getElem?_eq_getElem hc2p)
  obtain ⟨xa, da, tka, tva, rfl, qa1, qa2, qa3⟩ := hqa
  obtain ⟨xb, db, tkb, tvb, rfl, qb1, qb2, qb3⟩ := hqb
  have ix1 : vs[((c1 : Nat) : Int).toNat]? = some (.ref xa) := by rw [Int.toNat_natCast]; exact hva
  have ix2 : vs[((c2 : Nat) : Int).toNat]? = some (.ref xb) := by rw [Int.toNat_natCast]; exact hvb
  obtain ⟨aa, na, ta, ua, rfl, qa4⟩ := id qa3
  obtain ⟨ab, nb, tb, ub, rfl, qb4⟩ := id qb3
  dsimp only
  k_steps
  rename_i D h9 F9 N9 l7 kF kN Tc kX
  have N10 := news_pull [_, _, _, _, _, _] kN
  refine k _ _ c1 c2 D _ _ _ _ _ _ _ hc1p hc2p hf1 (fun i h1 h2 => hf2 i h1 (by omega)) hg1 (fun i h1 h2 => hg2 i h1 (by omega))
    (List.getElem?_eq_getElem hc1p) (List.getElem?_eq_getElem hc2p) qa3 qb3 (.head _) ?_ ?_ ?_ kF N10
  · intro q hq
    simp only [List.mem_cons, List.not_mem_nil, or_false] at hq
    simp only at *
    rcases hq with rfl | rfl | rfl | rfl | rfl | rfl
    all_goals (refine Nat.ne_of_gt ?_; show (247 : Nat) < _; omega)
  · intro q hq r hr
    have hr9 : @LT.lt Nat _ r.1 L1 := tb_ltOf l1.2 r hr
    simp only [List.mem_cons, List.not_mem_nil, or_false] at hq
    simp only at *
    rcases hq with rfl | rfl | rfl | rfl | rfl | rfl
    all_goals (refine Nat.ne_of_gt ?_; show @LT.lt Nat _ r.1 _; omega)
  · rfl
theorem TabSt.mono {tb : Array Value} {nw nw' : List (Addr × Obj)} (h : TabSt tb nw) (hs : ∀ q ∈ nw, q ∈ nw') : TabSt tb nw' := by
  rcases h with h | ⟨c1, c2, o1, o2, v1, v2, t1, t2, h, m1, r1, r2, m2, r3, r4⟩
  · exact .inl h
  · exact .inr ⟨c1, c2, o1, o2, v1, v2, t1, t2, h, hs _ m1, r1, r2, hs _ m2, r3, r4⟩
theorem best_spec {R : Result → Shared → Prop} {H : Addr} {vs : List Value} {nH : Nat} {ps : List (Int × Int)} {t : Int} {tt : Tok} {post : List (Addr × Obj)} {tb : Array Value}
    (F : Fr h₀ L s.heap m) (N : News h₀ L s.heap ((247, tabObj tb) :: post)) (X : (hd.heap_1 w.params).In h₀) (T : Top p loose mean mg mb h₀) (C : CodeHd h₀ 251 247) (hh : A.handled = none) (htb : TabSt tb post)
    (hpost : ∀ p ∈ post, p.1 ≠ 247) (hroom : A.depth + 80 < recursionLimit) (hu : A.units + 600 < cLine) (hH : (H, listOf vs.toArray nH) ∈ post) (hlen : vs.length ≤ 100) (hne : 1 ≤ vs.length)
    (hq : Pts w.params post vs ps) (hss : ∀ a ∈ ps, Small a)
    (hm1 : ∀ i j, i < j → j + 1 < ps.length → rise ps t j < 0 → rise ps t i < 0) (hm2 : ∀ i j, i < j → j + 1 < ps.length → ¬ 0 < rise ps t j → ¬ 0 < rise ps t i)
    (k : ∀ h' tk c1 c2 D nD va vb a b ex tb', c1 < ps.length → c2 < ps.length → (∀ i, i < c1 → rise ps t i < 0) → (∀ i, c1 ≤ i → i + 1 < ps.length → ¬ rise ps t i < 0) → (∀ i, i < c2 → ¬ 0 < rise ps t i) → (∀ i, c2 ≤ i → i + 1 < ps.length → 0 < rise ps t i) →
      ps[c1]? = some a → ps[c2]? = some b → Tup2 post va a → Tup2 post vb b → (D, listOf [va, vb].toArray nD) ∈ ex → (∀ q ∈ ex, q.1 ≠ 247) → (∀ q ∈ ex, ∀ r ∈ post, q.1 ≠ r.1) → (TabSt tb' ex ∨ tb' = tb) → Fr h₀ L h' m → News h₀ L h' ((247, tabObj tb') :: (ex ++ post)) → R (.ok (.ret (.ref D))) { s with heap := h', toks := tk }) :
    codeAny (model prog w) A (.call (.ref 252) ⟨[.ref H, .int t tt], []⟩) R s := by
  rcases htb with rfl | ⟨c1, c2, o1, o2, v1, v2, t1, t2, rfl, m1, r1, r2, m2, r3, r4⟩
  · exact best_first F N X T C hh hpost hroom hu hH hlen hne hq hss hm1 hm2 fun h' tk c1 c2 D nD va vb a b ex tb' a1 a2 a3 a4 a5 a6 a7 a8 a9 a10 a11 a12 a12' a13 a14 a15 => k h' tk c1 c2 D nD va vb a b ex tb' a1 a2 a3 a4 a5 a6 a7 a8 a9 a10 a11 a12 a12' (.inl a13) a14 a15
  · exact best_again F N X T C hh m1 r1 r2 m2 r3 r4 hpost hroom hu hH hlen hne hq hss hm1 hm2 fun h' tk c1 c2 D nD va vb a b ex tb' a1 a2 a3 a4 a5 a6 a7 a8 a9 a10 a11 a12 a12' a13 a14 a15 => k h' tk c1 c2 D nD va vb a b ex tb' a1 a2 a3 a4 a5 a6 a7 a8 a9 a10 a11 a12 a12' (.inr a13) a14 a15

end

section
noncomputable def signs : List Nat := [38, 60, 34, 62, 9, 10, 13, 97]
noncomputable def OkName (x : Str) : Prop := x.length ≤ 6 ∧ ∀ c ∈ x.cps.toList, c ∈ signs
theorem fmod_in (a : Int) {b : Int} (hb : 0 < b) : 0 ≤ a.fmod b ∧ a.fmod b < b := ⟨Int.fmod_nonneg_of_pos a hb, Int.fmod_lt_of_pos a hb⟩
theorem item_ok {i : Int} (h0 : 0 ≤ i) (h8 : i < 8) : ∃ c ∈ signs, Txt.item (Str.ofString "&<\">\t\n\x0da") i = ⟨#[c]⟩ := by
  have : i = 0 ∨ i = 1 ∨ i = 2 ∨ i = 3 ∨ i = 4 ∨ i = 5 ∨ i = 6 ∨ i = 7 := by omega
  rcases this with rfl | rfl | rfl | rfl | rfl | rfl | rfl | rfl
  · exact ⟨38, by decide, by decide +kernel⟩
  · exact ⟨60, by decide, by decide +kernel⟩
  · exact ⟨34, by decide, by decide +kernel⟩
  · exact ⟨62, by decide, by decide +kernel⟩
  · exact ⟨9, by decide, by decide +kernel⟩
  · exact ⟨10, by decide, by decide +kernel⟩
  · exact ⟨13, by decide, by decide +kernel⟩
  · exact ⟨97, by decide, by decide +kernel⟩
theorem mul_ok {c : Nat} {n : Int} (h0 : 0 ≤ n) (h6 : n < 6) : ∃ k, k ≤ 5 ∧ Txt.mul ⟨#[c]⟩ n = ⟨(List.replicate k c).toArray⟩ := by
  have : n = 0 ∨ n = 1 ∨ n = 2 ∨ n = 3 ∨ n = 4 ∨ n = 5 := by omega
  rcases this with rfl | rfl | rfl | rfl | rfl | rfl
  · exact ⟨0, by decide, rfl⟩
  · exact ⟨1, by decide, rfl⟩
  · exact ⟨2, by decide, rfl⟩
  · exact ⟨3, by decide, rfl⟩
  · exact ⟨4, by decide, rfl⟩
  · exact ⟨5, by decide, rfl⟩
theorem name_ok {i j n : Int} (i0 : 0 ≤ i) (i8 : i < 8) (j0 : 0 ≤ j) (j8 : j < 8) (h0 : 0 ≤ n) (h6 : n < 6) :
    OkName (Txt.mul (Txt.item (Str.ofString "&<\">\t\n\x0da") i) n ++ Txt.item (Str.ofString "&<\">\t\n\x0da") j) := by
  obtain ⟨c, hc, e1⟩ := item_ok i0 i8
  obtain ⟨d, hd, e2⟩ := item_ok j0 j8
  rw [e1, e2]
  obtain ⟨k, hk, e3⟩ := mul_ok (c := c) h0 h6
  rw [e3]
  refine ⟨?_, fun a ha => ?_⟩
  · rw [Str.length_append]
    show (List.replicate k c).toArray.size + 1 ≤ 6
    simp; omega
  · have : a ∈ List.replicate k c ++ [d] := by
      have e : ((⟨(List.replicate k c).toArray⟩ : Str) ++ (⟨#[d]⟩ : Str)).cps = (List.replicate k c).toArray ++ #[d] := rfl
      rw [e] at ha
      simpa using ha
    rcases List.mem_append.mp this with h | h
    · rw [(List.mem_replicate.mp h).2]; exact hc
    · rw [List.mem_singleton.mp h]; exact hd
local macro_rules | `(tactic| walk_at "binaryOp Mult str int") => `(tactic| (k_here; (refine SB.mul (mulOk_of 8 8 (by exact Nat.le_of_ble_eq_true rfl) (Int.le_trans (Int.le_of_lt (fmod_in _ (by decide)).2) (by decide)) (Int.le_trans (by decide) (fmod_in _ (by decide)).1) (by decide) (by decide)) ?_); intro t' k'))
local macro_rules | `(tactic| walk_at "binaryOp Add str str") => `(tactic| refine held ?_)
set_option maxRecDepth 100000 in
set_option maxHeartbeats 8000000 in
theorem bidder_spec {R : Result → Shared → Prop} {x : Int} {tx : Tok}
    (F : Fr h₀ L s.heap m) (N : News h₀ L s.heap news) (X : (hd.heap_1 w.params).In h₀) (T : Top p loose mean mg mb h₀) (hroom : A.depth + 5 < recursionLimit)
    (k : ∀ h' tk D nD name toll t1 t2, OkName name → 0 ≤ toll → toll < 100 → Fr h₀ L h' m → News h₀ L h' ((D, tupO [.str name t1, .int toll t2] nD) :: news) → (∀ q ∈ news, q.1 < D) → R (.ok (.ret (.ref D))) { s with heap := h', toks := tk }) :
    codeAny (model prog w) A (.call (.ref 205) ⟨[.int x tx], []⟩) R s := by
  k_enter
  k_steps
  refine SB.add (fun t' k' => ?_) (by
    rw [← Str.length_append]
    exact Nat.le_trans (name_ok (fmod_in _ (by decide)).1 (fmod_in _ (by decide)).2 (fmod_in _ (by decide)).1 (fmod_in _ (by decide)).2 (fmod_in _ (by decide)).1 (fmod_in _ (by decide)).2).1 (by decide))
  k_steps
  exact k _ _ _ _ _ _ _ _ (name_ok (fmod_in _ (by decide)).1 (fmod_in _ (by decide)).2 (fmod_in _ (by decide)).1 (fmod_in _ (by decide)).2 (fmod_in _ (by decide)).1 (fmod_in _ (by decide)).2) (fmod_in _ (by decide)).1 (fmod_in _ (by decide)).2 (by assumption) (by assumption) (by assumption)

end

section
noncomputable def word (which : Int) (c : Nat) : Option Str :=
  if c = 38 then some (Str.ofString "amp;")
  else if c = 60 then (if which = 1 then none else some (Str.ofString "lt;"))
  else if c = 62 then (if which = 0 then none else some (Str.ofString "gt;"))
  else if c = 34 then (if which = 2 then none else some (Str.ofString "quot;"))
  else if c = 9 then (if which = 0 then some (Str.ofString "#x9;") else none)
  else if c = 10 then (if which = 0 then some (Str.ofString "#xA;") else none)
  else if c = 13 then (if which = 1 then none else some (Str.ofString "#xD;"))
  else none
/-- the dict o tells the words of which, for the eight signs -/
noncomputable def TabFor (prog : Program) (w : World) (o : Obj) (which : Int) : Prop :=
  ∃ kvs : List (Str × Value), o.IsDictOf (PySem.strKind prog w) kvs ∧ ∀ c ∈ signs, match word which c with | none => valueAt kvs ⟨#[c]⟩ = none | some x => ∃ t, valueAt kvs ⟨#[c]⟩ = some (.str x t)
theorem sign_cases {P : Nat → Prop} (h1 : P 38) (h2 : P 60) (h3 : P 34) (h4 : P 62) (h5 : P 9) (h6 : P 10) (h7 : P 13) (h8 : P 97) : ∀ c ∈ signs, P c := by
  intro c hc
  simp only [signs, List.mem_cons, List.not_mem_nil, or_false] at hc
  rcases hc with rfl | rfl | rfl | rfl | rfl | rfl | rfl | rfl <;> assumption
local macro_rules | `(tactic| walk_at "ite") => `(tactic| refine held ?_)
set_option maxRecDepth 100000 in
set_option maxHeartbeats 8000000 in
theorem table_spec {R : Result → Shared → Prop} {x : Int} {tx : Tok} (h3 : x = 0 ∨ x = 1 ∨ x = 2)
    (F : Fr h₀ L s.heap m) (N : News h₀ L s.heap news) (X : (hd.heap_1 w.params).In h₀) (T : Top p loose mean mg mb h₀) (hroom : A.depth + 5 < recursionLimit)
    (k : ∀ h' tk D o, TabFor prog w o x → (D == sysModules) = false → Fr h₀ L h' m → News h₀ L h' ((D, o) :: news) → (∀ q ∈ news, q.1 < D) → R (.ok (.ret (.ref D))) { s with heap := h', toks := tk }) :
    codeAny (model prog w) A (.call (.ref 212) ⟨[.int x tx], []⟩) R s := by
  k_enter
  k_steps
  unfold Hold
  rcases h3 with rfl | rfl | rfl
  · rw [if_pos (by decide)]
    k_steps
    refine k _ _ _ _ ⟨_, by assumption, ?_⟩ (by assumption) (by assumption) (by assumption) (by assumption)
    apply sign_cases
    · exact ⟨_, rfl⟩
    · exact ⟨_, rfl⟩
    · exact ⟨_, rfl⟩
    · exact rfl
    · exact ⟨_, rfl⟩
    · exact ⟨_, rfl⟩
    · exact ⟨_, rfl⟩
    · exact rfl
  · rw [if_neg (by decide)]
    k_steps
    unfold Hold
    rw [if_pos (by decide)]
    k_steps
    refine k _ _ _ _ ⟨_, by assumption, ?_⟩ (by assumption) (by assumption) (by assumption) (by assumption)
    apply sign_cases
    · exact ⟨_, rfl⟩
    · exact rfl
    · exact ⟨_, rfl⟩
    · exact ⟨_, rfl⟩
    · exact rfl
    · exact rfl
    · exact rfl
    · exact rfl
  · rw [if_neg (by decide)]
    k_steps
    unfold Hold
    rw [if_neg (by decide)]
    k_steps
    refine k _ _ _ _ ⟨_, by assumption, ?_⟩ (by assumption) (by assumption) (by assumption) (by assumption)
    apply sign_cases
    · exact ⟨_, rfl⟩
    · exact ⟨_, rfl⟩
    · exact rfl
    · exact ⟨_, rfl⟩
    · exact rfl
    · exact rfl
    · exact ⟨_, rfl⟩
    · exact rfl

end

section
open PyProof.Rows.LCg PyProof.Rows.LCt in
theorem rest_inv {prog : Program} {w : World} {A : Around} {h₀ : Heap} {L : Addr} {m : Str → Option Value} {env : Env} {elt : PySem.Expr} {x : Str} {scope : Scope} {cl : List (Str × Addr)} {s : Shared} {S : List (Addr × Obj) → Prop} {P : Nat → Value → Prop}
    {Fin : List Value → List (Addr × Obj) → Prop} {n : Nat} {news : List (Addr × Obj)} (Inv : Nat → List Value → List (Addr × Obj) → Prop)
    (h0 : Inv 0 [] news)
    (turn : ∀ i ys news v I oI C oC D m₂ h tk (E' : Value → Shared → Prop), i < n → Inv i ys news → P i v → NsObj oC m₂ → m₂ x = some v → Fr h₀ L h m → News h₀ L h ((I, oI) :: (C, oC) :: (D, lst ys) :: news) → Off3 I C D news → ((@Ne Nat I C) ∧ (@Ne Nat I D) ∧ (@Ne Nat C D)) →
      wpAny (model prog w) A (eval elt (compEnvC scope cl C env)) (CompEnd h₀ L m { s with heap := h, toks := tk } I oI C oC D (lst ys) S (fun y news' => Inv (i + 1) (ys ++ [y]) news')) E' { s with heap := h, toks := tk })
    (fin : ∀ ys news, Inv n ys news → Fin ys news) : CompRest prog w A h₀ L m env elt x scope cl s S P Fin n 0 [] news := by
  have key : ∀ (j i : Nat) (ys : List Value) (news : List (Addr × Obj)), i + j = n → Inv i ys news → CompRest prog w A h₀ L m env elt x scope cl s S P Fin j i ys news := by
    intro j
    induction j with
    | zero => intro i ys news hi hI; obtain rfl : i = n := by omega
              exact CompRest.zero (fin _ _ hI)
    | succ j ih =>
      intro i ys news hi hI
      refine CompRest.succ ?_
      intro v I oI C oC D m₂ h tk E' hv hC hx F N off ne
      refine wpAny_mono (turn i ys news v I oI C oC D m₂ h tk E' (by omega) hI hv hC hx F N off ne) (fun y s₂ hq => ?_) fun _ _ e => e
      obtain ⟨h', tk', nw, e, F', N', off', hS, hI'⟩ := hq
      exact ⟨h', tk', nw, e, F', N', off', hS, ih (i + 1) _ _ (by omega) hI'⟩
  exact key n 0 [] news (by omega) h0
open PyProof.Rows.LCg PyProof.Rows.LCt in
theorem restT_inv {prog : Program} {w : World} {A : Around} {h₀ : Heap} {L : Addr} {m : Str → Option Value} {env : Env} {ct elt : PySem.Expr} {x : Str} {scope : Scope} {cl : List (Str × Addr)} {s : Shared} {S : List (Addr × Obj) → Prop} {P : Nat → Value → Prop}
    {Fin : List Value → List (Addr × Obj) → Prop} {n : Nat} {news : List (Addr × Obj)} (Inv : Nat → List Value → List (Addr × Obj) → Prop)
    (h0 : Inv 0 [] news)
    (turn : ∀ i ys news v I oI C oC D m₂ h tk (E' : Value → Shared → Prop), i < n → Inv i ys news → P i v → NsObj oC m₂ → m₂ x = some v → Fr h₀ L h m → News h₀ L h ((I, oI) :: (C, oC) :: (D, lst ys) :: news) → Off3 I C D news → ((@Ne Nat I C) ∧ (@Ne Nat I D) ∧ (@Ne Nat C D)) →
      wpAny (model prog w) A (isTrue ct (compEnvC scope cl C env) (eval ct (compEnvC scope cl C env))) (fun ok s' => if ok = true then
        wpAny (model prog w) A (eval elt (compEnvC scope cl C env)) (CompEnd h₀ L m { s with heap := h, toks := tk } I oI C oC D (lst ys) S (fun y news' => Inv (i + 1) (ys ++ [y]) news')) E' s'
        else CompEnd h₀ L m { s with heap := h, toks := tk } I oI C oC D (lst ys) S (fun _ news' => Inv (i + 1) ys news') Value.none s') E' { s with heap := h, toks := tk })
    (fin : ∀ ys news, Inv n ys news → Fin ys news) : CompRestT prog w A h₀ L m env ct elt x scope cl s S P Fin n 0 [] news := by
  have key : ∀ (j i : Nat) (ys : List Value) (news : List (Addr × Obj)), i + j = n → Inv i ys news → CompRestT prog w A h₀ L m env ct elt x scope cl s S P Fin j i ys news := by
    intro j
    induction j with
    | zero => intro i ys news hi hI; obtain rfl : i = n := by omega
              exact CompRestT.zero (fin _ _ hI)
    | succ j ih =>
      intro i ys news hi hI
      refine CompRestT.succ ?_
      intro v I oI C oC D m₂ h tk E' hv hC hx F N off ne
      refine wpAny_mono (turn i ys news v I oI C oC D m₂ h tk E' (by omega) hI hv hC hx F N off ne) (fun ok s₂ hq => ?_) fun _ _ e => e
      cases ok with
      | true =>
        simp only [if_true] at hq ⊢
        refine wpAny_mono hq (fun y s₃ hq => ?_) fun _ _ e => e
        obtain ⟨h', tk', nw, e, F', N', off', hS, hI'⟩ := hq
        exact ⟨h', tk', nw, e, F', N', off', hS, ih (i + 1) _ _ (by omega) hI'⟩
      | false =>
        simp only [Bool.false_eq_true, if_false] at hq ⊢
        obtain ⟨h', tk', nw, e, F', N', off', hS, hI'⟩ := hq
        exact ⟨h', tk', nw, e, F', N', off', hS, ih (i + 1) _ _ (by omega) hI'⟩
  exact key n 0 [] news (by omega) h0
open PyProof.Rows.LCg PyProof.Rows.LCt in
theorem str_st {h₀ : Heap} {L I : Addr} {x : Str} {t : Tok} : ∀ i (h h' : Heap) (o : Obj) (nw : List (Addr × Obj)), h.IsStrIter I "str_ascii_iterator" x t i → h.get? I = some o → h'.get? I = some o → (∀ b o, h₀.get? b = some o → h'.get? b = some o) → News h₀ L h' nw → True → h'.IsStrIter I "str_ascii_iterator" x t i :=
  fun i h h' o nw st e e' _ _ _ => by obtain ⟨o', q, r⟩ := st; rw [e] at q; cases q; exact ⟨o, e', r⟩
section
open PyProof.Rows.LCg PyProof.Rows.LCt
variable {prog : Program} {w : World} {A : Around} {E : Value → Shared → Prop} {s : Shared} {h₀ : Heap} {L : Addr} {m : Str → Option Value} {env : Env}
/-- a list comprehension over an ascii text -/
theorem comp_S {elt iter : PySem.Expr} {x : Str} {px : Pos} {scope : Scope} {cl : List (Str × Addr)} {pos : Pos} {Q : Value → Shared → Prop} (_ : Fr h₀ L s.heap m)
    (hclos : closureFor scope env = pure cl) (hcell : ∀ y ∈ scope.names, y.2 ≠ .cell) (hkind : scope.kind = .function)
    (hnames : ∀ y ∈ scope.names, y.2 = .local → scope.names.lookup y.1 = some .local) (hx : scope.names.lookup x = some .local)
    (h : wpAny (model prog w) A (eval iter env) (fun xv s₁ => ∃ X t news, xv = .str X t ∧ A.handled = none ∧ Fr h₀ L s₁.heap m ∧ News h₀ L s₁.heap news ∧ X.cps.size ≤ sizeLine ∧ X.cps.all (· < 128) = true ∧
      ∀ s₂ : Shared, (∃ h, s₂ = { s₁ with heap := h }) → CompRest prog w A h₀ L m env elt x scope cl s₂ (fun _ => True) (SignAt X) (FinE h₀ L m s₂ Q) X.cps.size 0 [] news) E s)
    (hs : ∀ x, foldedSetIterable iter env x = pure x := by intro _; rfl) :
    wpAny (model prog w) A (eval (.ListComp elt [⟨.Name x px, iter, [], 0⟩] scope pos) env) Q E s := by
  rw [eval_ListComp]
  refine wpAny_comprehension_free (use := none) rfl hs hclos hkind hnames (wpAny_mono h (fun xv s₁ h₁ => ?_) fun _ _ e => e)
  rcases h₁ with ⟨X, t, news, rfl, hh, F, N, hsz, ha, R⟩
  refine wpAny_pyIter_ascii ha ?_
  refine block_U (Walks.strAscii hh s₁.heap.objs.size X t) hsz (fun i h st => by obtain ⟨o, e, _⟩ := st; exact ⟨o, e⟩) str_st hcell hkind hx ⟨_, Heap.get?_push_size _ rfl, rfl, rfl⟩ (fun b hb => ?_)
    (F.keeps fun _ _ e => Heap.get?_push_of_some _ e) (N.grown fun _ _ e => Heap.get?_push_of_some _ e) (Nat.ne_of_lt F.ns.lt) (next_is_new F) (fun p hp => Nat.ne_of_lt (Heap.lt_size (N p hp).1)) trivial (R _ ⟨_, rfl⟩) ?_
  · rw [List.mem_singleton.mp hb]
    show s₁.heap.objs.size < (s₁.heap.push _).objs.size
    rw [Heap.size_push]; exact Nat.lt_succ_self _
  · intro D C h tk m' ys news' F' N' o1 hn hC₀ hD₀ hCL hDL hCD offC fin
    refine ⟨m', hn, fun h'' hs'' => fin D h'' tk (F'.change hs'' hCL hC₀) (fun p hp => ?_) o1⟩
    refine ⟨hs''.extBut _ _ ?_ (N' p hp).1, (N' p hp).2⟩
    rcases List.mem_cons.mp hp with rfl | hp
    · exact Ne.symm hCD
    · exact offC p hp
/-- the same, with a test -/
theorem comp_ST {ct elt iter : PySem.Expr} {x : Str} {px : Pos} {scope : Scope} {cl : List (Str × Addr)} {pos : Pos} {Q : Value → Shared → Prop} (_ : Fr h₀ L s.heap m)
    (hclos : closureFor scope env = pure cl) (hcell : ∀ y ∈ scope.names, y.2 ≠ .cell) (hkind : scope.kind = .function)
    (hnames : ∀ y ∈ scope.names, y.2 = .local → scope.names.lookup y.1 = some .local) (hx : scope.names.lookup x = some .local)
    (h : wpAny (model prog w) A (eval iter env) (fun xv s₁ => ∃ X t news, xv = .str X t ∧ A.handled = none ∧ Fr h₀ L s₁.heap m ∧ News h₀ L s₁.heap news ∧ X.cps.size ≤ sizeLine ∧ X.cps.all (· < 128) = true ∧
      ∀ s₂ : Shared, (∃ h, s₂ = { s₁ with heap := h }) → CompRestT prog w A h₀ L m env ct elt x scope cl s₂ (fun _ => True) (SignAt X) (FinE h₀ L m s₂ Q) X.cps.size 0 [] news) E s)
    (hs : ∀ x, foldedSetIterable iter env x = pure x := by intro _; rfl) :
    wpAny (model prog w) A (eval (.ListComp elt [⟨.Name x px, iter, [ct], 0⟩] scope pos) env) Q E s := by
  rw [eval_ListComp]
  refine wpAny_comprehension_free (use := none) rfl hs hclos hkind hnames (wpAny_mono h (fun xv s₁ h₁ => ?_) fun _ _ e => e)
  rcases h₁ with ⟨X, t, news, rfl, hh, F, N, hsz, ha, R⟩
  refine wpAny_pyIter_ascii ha ?_
  refine block_T (Walks.strAscii hh s₁.heap.objs.size X t) hsz (fun i h st => by obtain ⟨o, e, _⟩ := st; exact ⟨o, e⟩) str_st hcell hkind hx ⟨_, Heap.get?_push_size _ rfl, rfl, rfl⟩ (fun b hb => ?_)
    (F.keeps fun _ _ e => Heap.get?_push_of_some _ e) (N.grown fun _ _ e => Heap.get?_push_of_some _ e) (Nat.ne_of_lt F.ns.lt) (next_is_new F) (fun p hp => Nat.ne_of_lt (Heap.lt_size (N p hp).1)) trivial (R _ ⟨_, rfl⟩) ?_
  · rw [List.mem_singleton.mp hb]
    show s₁.heap.objs.size < (s₁.heap.push _).objs.size
    rw [Heap.size_push]; exact Nat.lt_succ_self _
  · intro D C h tk m' ys news' F' N' o1 hn hC₀ hD₀ hCL hDL hCD offC fin
    refine ⟨m', hn, fun h'' hs'' => fin D h'' tk (F'.change hs'' hCL hC₀) (fun p hp => ?_) o1⟩
    refine ⟨hs''.extBut _ _ ?_ (N' p hp).1, (N' p hp).2⟩
    rcases List.mem_cons.mp hp with rfl | hp
    · exact Ne.symm hCD
    · exact offC p hp
end
theorem off3_l1 {I C D D' : Addr} {o : Obj} {news : List (Addr × Obj)} (off : PyProof.Rows.LCg.Off3 I C D news) (hI : I < D') (hC : C < D') (hD : D < D') : PyProof.Rows.LCg.Off3 I C D ((D', o) :: news) := ⟨⟨Nat.ne_of_gt hI, Nat.ne_of_gt hC, Nat.ne_of_gt hD⟩, off⟩
open PyProof.Rows.LCg in
/-- a comprehension over a list of the ledger, with an invariant -/
theorem src_inv {prog : Program} {w : World} {A : Around} {h₀ : Heap} {L : Addr} {m : Str → Option Value} {env : Env} {elt : PySem.Expr} {x : Str} {scope : Scope} {cl : List (Str × Addr)} {Fin : Shared → List Value → List (Addr × Obj) → Prop} {ax : Addr} {vs : List Value} {k : Nat} {news : List (Addr × Obj)} {s₁ : Shared}
    (Inv : List (Addr × Obj) → Nat → List Value → List (Addr × Obj) → Prop)
    (hh : A.handled = none) (F : Fr h₀ L s₁.heap m) (N : News h₀ L s₁.heap news) (hm : (ax, listOf vs.toArray k) ∈ news) (hsz : vs.length ≤ sizeLine) (h0 : Inv news 0 [] news)
    (turn : ∀ g i ys nw v I oI C oC D m₂ h tk (E' : Value → Shared → Prop), i < vs.length → Inv news i ys nw → vs[i]? = some v → NsObj oC m₂ → m₂ x = some v → Fr h₀ L h m → News h₀ L h ((I, oI) :: (C, oC) :: (D, lst ys) :: nw) → Off3 I C D nw → ((@Ne Nat I C) ∧ (@Ne Nat I D) ∧ (@Ne Nat C D)) →
      wpAny (model prog w) A (eval elt (compEnvC scope cl C env)) (CompEnd h₀ L m { { s₁ with heap := g } with heap := h, toks := tk } I oI C oC D (lst ys) (SrcAt h₀ ax vs.toArray) (fun y nw' => Inv news (i + 1) (ys ++ [y]) nw')) E' { { s₁ with heap := g } with heap := h, toks := tk })
    (fin : ∀ g ys nw, Inv news vs.length ys nw → Fin { s₁ with heap := g } ys nw) : CompSrc prog w A h₀ L m env elt x scope cl Fin (.ref ax) s₁ := by
  refine CompSrc.ledger hh F N hm (by rw [List.size_toArray]; exact hsz) fun g => ?_
  have e : vs.toArray.size = vs.length := List.size_toArray
  rw [e]
  exact rest_inv (Inv news) h0 (fun i ys nw v I oI C oC D m₂ h tk E' hi hI hP => turn g i ys nw v I oI C oC D m₂ h tk E' hi hI (by simpa using hP)) (fin g)
theorem end_one {h₀ : Heap} {L I C D : Addr} {m : Str → Option Value} {s₁ : Shared} {oI oC oD : Obj} {S : List (Addr × Obj) → Prop} {rest : Value → List (Addr × Obj) → Prop} {y : Value} {h' : Heap} {tk : Nat} {nw : List (Addr × Obj)} {D9 : Addr} {o9 : Obj}
    (F : Fr h₀ L h' m) (N : News h₀ L h' ((D9, o9) :: (I, oI) :: (C, oC) :: (D, oD) :: nw)) (off : PyProof.Rows.LCg.Off3 I C D nw) (l9 : ∀ q ∈ (I, oI) :: (C, oC) :: (D, oD) :: nw, q.1 < D9) (hS : S ((D9, o9) :: nw)) (r : rest y ((D9, o9) :: nw)) :
    PyProof.Rows.LCg.CompEnd h₀ L m s₁ I oI C oC D oD S rest y { s₁ with heap := h', toks := tk } :=
  PyProof.Rows.LCg.CompEnd.intro F N ((D9, o9) :: nw) (fun p hp => by
    simp only [List.mem_cons] at hp ⊢
    rcases hp with h | h | h | h | h
    · exact .inr (.inl h)
    · exact .inr (.inr (.inl h))
    · exact .inr (.inr (.inr (.inl h)))
    · exact .inl h
    · exact .inr (.inr (.inr (.inr h)))) (off3_l1 off (l9 (I, oI) (.head _)) (l9 (C, oC) (.tail _ (.head _))) (l9 (D, oD) (.tail _ (.tail _ (.head _))))) hS r

end

section
local macro_rules | `(tactic| k_enter) => `(tactic| walk_at "my enterC")
local macro_rules | `(tactic| walk_at "eval ListComp") => `(tactic| refine held ?_)
local macro_rules | `(tactic| walk_at "compareOp In str ref") => `(tactic| refine held ?_)
local macro_rules | `(tactic| walk_at "subscriptTail") => `(tactic| refine held ?_)
local macro_rules | `(tactic| walk_at "subscriptTail Name Name ref str") => `(tactic| refine held ?_)
local macro_rules | `(tactic| walk_at "binaryOp Mult str int") => `(tactic| refine held ?_)
local macro_rules | `(tactic| walk_at "binaryOp Add str str") => `(tactic| refine held ?_)
local macro_rules | `(tactic| walk_at "CompEnd") => `(tactic| refine held ?_)
theorem name_ascii {x : Str} (h : OkName x) : x.cps.all (· < 128) = true := by
  rw [Array.all_eq_true']
  intro c hc
  have := h.2 c (by simpa using hc)
  simp only [signs, List.mem_cons, List.not_mem_nil, or_false] at this
  rcases this with rfl | rfl | rfl | rfl | rfl | rfl | rfl | rfl <;> decide
noncomputable def spellC (which : Int) (turn : Nat) (c : Nat) : List Nat := match word which c with | none => [c] | some wd => 38 :: ((List.replicate turn [97, 109, 112, 59]).flatten ++ wd.cps.toList)
noncomputable def spell (which : Int) (turn : Nat) (x : Str) : Str := ⟨(x.cps.toList.flatMap (spellC which turn)).toArray⟩
theorem amp_mul {turn : Nat} (h : turn ≤ 3) : Txt.mul (Str.ofString "amp;") turn = ⟨(List.replicate turn [97, 109, 112, 59]).flatten.toArray⟩ := by
  have : turn = 0 ∨ turn = 1 ∨ turn = 2 ∨ turn = 3 := by omega
  rcases this with rfl | rfl | rfl | rfl <;> rfl
theorem amp_len {turn : Nat} : (⟨(List.replicate turn [97, 109, 112, 59]).flatten.toArray⟩ : Str).length = 4 * turn := by
  show (List.replicate turn [97, 109, 112, 59]).flatten.toArray.size = 4 * turn
  simp; omega
theorem word_len {which : Int} {c : Nat} {wd : Str} (h : word which c = some wd) : wd.length ≤ 5 := by
  unfold word at h
  repeat' split at h
  all_goals first
    | (cases h; done)
    | (injection h with h; subst h; decide)
theorem spell_short1 {turn : Nat} (h : turn ≤ 3) : (Str.ofString "&").length + (⟨(List.replicate turn [97, 109, 112, 59]).flatten.toArray⟩ : Str).length ≤ 16777216 := by
  rw [amp_len]; show 1 + _ ≤ _; omega
theorem spell_short2 {turn : Nat} (h : turn ≤ 3) {which : Int} {c : Nat} {wd : Str} (hw : word which c = some wd) : (Str.ofString "&" ++ (⟨(List.replicate turn [97, 109, 112, 59]).flatten.toArray⟩ : Str)).length + wd.length ≤ 16777216 := by
  rw [Str.length_append, amp_len]; have := word_len hw; show 1 + _ + _ ≤ _; omega
theorem strValues_snoc (l : List (Str × Tok)) (x : Str) (u : Tok) : strValues l ++ [.str x u] = strValues (l ++ [(x, u)]) := by simp [strValues]
theorem spellC_len {which : Int} {turn : Nat} (h : turn ≤ 3) (c : Nat) : (spellC which turn c).length ≤ 18 := by
  unfold spellC
  cases hw : word which c with
  | none => simp
  | some wd =>
    have := word_len hw
    have e : wd.cps.toList.length = wd.length := by simp [Str.length]
    simp only [List.length_cons, List.length_append, List.length_flatten, List.map_replicate, List.sum_replicate_nat, e]
    simp; omega
theorem spell_joinOk {which : Int} {turn : Nat} {x : Str} (hx : OkName x) (h : turn ≤ 3) : JoinOk (Str.ofString "") (x.cps.toList.map fun c => (⟨(spellC which turn c).toArray⟩ : Str)) = true := by
  unfold JoinOk
  rw [Bool.not_eq_true']
  refine StrLaws.joinFits (B := 18) (fun y hy => ?_) ?_
  · obtain ⟨c, _, rfl⟩ := List.mem_map.mp hy
    show (spellC which turn c).toArray.size ≤ 18
    rw [List.size_toArray]; exact spellC_len h c
  · have : x.cps.toList.length ≤ 6 := by rw [Array.length_toList]; exact hx.1
    show _ * 18 + _ * 0 ≤ _
    rw [List.length_map]; omega
theorem join_empty : ∀ (l : List Str), Str.join (Str.ofString "") l = ⟨(l.flatMap (·.cps.toList)).toArray⟩
  | [] => rfl
  | [x] => Str.ext' (by simp [Str.join])
  | x :: y :: l => by
    show x ++ Str.ofString "" ++ Str.join (Str.ofString "") (y :: l) = _
    rw [join_empty (y :: l)]
    refine Str.ext' ?_
    have e : (Str.ofString "").cps = #[] := rfl
    simp only [Str.cps_append, e, List.flatMap_cons]
    apply Array.toList_inj.mp
    simp
theorem spell_join {which : Int} {turn : Nat} {x : Str} : Txt.join (Str.ofString "") (x.cps.toList.map fun c => (⟨(spellC which turn c).toArray⟩ : Str)) = spell which turn x := by
  show PySem.Builtin.Str.glued _ _ = _
  rw [StrLaws.glued_eq_join, join_empty, List.flatMap_map]; rfl
set_option maxRecDepth 100000 in
set_option maxHeartbeats 8000000 in
theorem spelled_spec {R : Result → Shared → Prop} {x : Str} {tx tt : Tok} {D : Addr} {o : Obj} {turn : Nat} {which : Int} (hx : OkName x) (hturn : turn ≤ 3) (hm : (D, o) ∈ news) (ht : TabFor prog w o which) (hD : (D == sysModules) = false)
    (F : Fr h₀ L s.heap m) (N : News h₀ L s.heap news) (X : (hd.heap_1 w.params).In h₀) (T : Top p loose mean mg mb h₀) (hh : A.handled = none) (hroom : A.depth + 5 < recursionLimit)
    (k : ∀ h' tk t, Fr h₀ L h' m → News h₀ L h' news → R (.ok (.ret (.str (spell which turn x) t))) { s with heap := h', toks := tk }) :
    codeAny (model prog w) A (.call (.ref 217) ⟨[.str x tx, .ref D, .int turn tt], []⟩) R s := by
  obtain ⟨kvs, hd9, hkv⟩ := ht
  k_enter
  k_steps
  rename_i g1 L1 h1 tk1 F1 X1 T1 l1 st1 o1 o2 d1 d2 N1
  unfold Hold
  refine comp_S F1 (by with_unfolding_all rfl) (by decide) rfl (by decide) rfl ?_
  walk1
  refine ⟨x, _, _, rfl, hh, F1, N1, by rw [sizeLine_eq]; exact Nat.le_trans hx.1 (by decide), name_ascii hx, ?_⟩
  rintro s₂ ⟨g2, rfl⟩
  refine rest_inv (fun i ys nw => nw = (L1 + 1 + 1, o1) :: (L1 + 1, o2) :: news ∧ ∃ l : List (Str × Tok), ys = strValues l ∧ l.map (·.1) = (x.cps.toList.take i).map fun c => (⟨(spellC which turn c).toArray⟩ : Str)) ⟨rfl, [], rfl, rfl⟩ ?_ ?_
  · rintro i ys nw v I oI C oC D' m₂ h tk E' hi ⟨rfl, l, rfl, hl⟩ ⟨c, u, hc, rfl⟩ hC hx2 F2 N2 off ne
    have hcs : c ∈ signs := hx.2 c (Array.mem_toList_iff.mpr (Array.mem_of_getElem? hc))
    have hCm : (C, oC) ∈ (I, oI) :: (C, oC) :: (D', PyProof.Rows.LCg.lst (strValues l)) :: (L1 + 1 + 1, o1) :: (L1 + 1, o2) :: news := .tail _ (.head _)
    have hc1 : (L1 + 1 + 1, o1) ∈ (I, oI) :: (C, oC) :: (D', PyProof.Rows.LCg.lst (strValues l)) :: (L1 + 1 + 1, o1) :: (L1 + 1, o2) :: news := .tail _ (.tail _ (.tail _ (.head _)))
    have hc2 : (L1 + 1, o2) ∈ (I, oI) :: (C, oC) :: (D', PyProof.Rows.LCg.lst (strValues l)) :: (L1 + 1 + 1, o1) :: (L1 + 1, o2) :: news := .tail _ (.tail _ (.tail _ (.tail _ (.head _))))
    have hDm : (D, o) ∈ (I, oI) :: (C, oC) :: (D', PyProof.Rows.LCg.lst (strValues l)) :: (L1 + 1 + 1, o1) :: (L1 + 1, o2) :: news := .tail _ (.tail _ (.tail _ (.tail _ (.tail _ hm))))
    have hw := hkv c hcs
    have hlt : (x.cps.toList.take (i + 1)) = x.cps.toList.take i ++ [c] := by
      rw [List.take_add_one]; congr 1; simp [hc]
    k_steps
    unfold Hold
    cases hwc : word which c with
    | none =>
      rw [hwc] at hw; dsimp only at hw
      refine kda_in (knd := PySem.strKind _ _) N2 hDm hd9 hD (strKind_is _ _ _ _) false (by rw [hw]; rfl) ?_
      k_steps
      unfold Hold
      refine PyProof.Rows.LCg.CompEnd.intro F2 N2 _ (fun q hq => hq) off trivial ⟨rfl, l ++ [(⟨#[c]⟩, u)], ?_, ?_⟩
      · simp [strValues]
      · rw [hlt]; simp [hl, spellC, hwc]
    | some wd =>
      rw [hwc] at hw; dsimp only at hw
      obtain ⟨tv, hw⟩ := hw
      refine kda_in (knd := PySem.strKind _ _) N2 hDm hd9 hD (strKind_is _ _ _ _) true (by rw [hw]; rfl) ?_
      k_steps
      refine SB.mul (mulOk_of 8 8 (by exact Nat.le_of_ble_eq_true rfl) (by omega) (by omega) (by decide) (by decide)) ?_
      intro t3 k3
      k_steps
      refine SB.add (fun t4 k4 => ?_) (by rw [amp_mul hturn, sizeLine_eq]; exact spell_short1 hturn)
      k_steps
      refine kda_item (knd := PySem.strKind _ _) N2 hDm hd9 (strKind_is _ _ _ _) hw ?_
      k_steps
      refine SB.add (fun t5 k5 => ?_) (by rw [amp_mul hturn, sizeLine_eq]; exact spell_short2 hturn hwc)
      k_steps
      refine PyProof.Rows.LCg.CompEnd.intro F2 N2 _ (fun q hq => hq) off trivial ⟨rfl, l ++ [(_, _)], strValues_snoc l _ _, ?_⟩
      · rw [hlt]; simp only [List.map_append, hl, List.map_cons, List.map_nil, spellC, hwc, amp_mul hturn]
        congr 2
        exact Str.ext' (by simp [Str.cps_append]; rfl)
  · rintro ys nw ⟨rfl, l, rfl, hl⟩
    k_steps
    rename_i D5 h5 tk5 F5 N5 o5
    have hl' : l.map (·.1) = x.cps.toList.map fun c => (⟨(spellC which turn c).toArray⟩ : Str) := by rw [hl, ← Array.length_toList, List.take_length]
    refine SC.join (x := Str.ofString "") (l := l) (News.isList N5 (.head _)) hl' (spell_joinOk hx hturn) ?_
    intro t6 k6
    rw [spell_join]
    k_steps
    exact k _ _ _ (by assumption) (fun q hq => (by assumption : News h₀ L _ ((D5, _) :: _ :: _ :: news)) q (.tail _ (.tail _ (.tail _ hq))))

end

section
noncomputable def mapT (T : List (Str × Str)) (d : Nat) : List Nat := match T.lookup (⟨#[d]⟩ : Str) with | some r => r.cps.toList | none => [d]
noncomputable def escT (T : List (Str × Str)) (x : Str) : Str := ⟨(x.cps.toList.flatMap (mapT T)).toArray⟩
noncomputable def subl (c : Nat) (r : List Nat) (l : List Nat) : List Nat := l.flatMap fun d => if d = c then r else [d]
theorem subl_free (c : Nat) (r : List Nat) : ∀ l : List Nat, c ∉ l → subl c r l = l
  | [], _ => rfl
  | k :: l, h => by
    have h1 : ¬ k = c := fun e => h (e ▸ List.mem_cons_self ..)
    show (if k = c then r else [k]) ++ subl c r l = _
    rw [if_neg h1, subl_free c r l (fun m => h (List.mem_cons_of_mem _ m))]; rfl
theorem subl_append (c : Nat) (r a b : List Nat) : subl c r (a ++ b) = subl c r a ++ subl c r b := by simp [subl]
theorem subl_join (c : Nat) (z : Str) : ∀ parts : List Str, (∀ p ∈ parts, c ∉ p.cps.toList) → subl c z.cps.toList (Str.join ⟨#[c]⟩ parts).cps.toList = (Str.join z parts).cps.toList
  | [], _ => rfl
  | [p], h => subl_free c _ _ (h p (List.mem_singleton.mpr rfl))
  | p :: q :: r, h => by
    have ih := subl_join c z (q :: r) fun a ha => h a (List.mem_cons_of_mem _ ha)
    show subl c z.cps.toList (p ++ ⟨#[c]⟩ ++ Str.join ⟨#[c]⟩ (q :: r)).cps.toList = (p ++ z ++ Str.join z (q :: r)).cps.toList
    simp only [Str.cps_append, Array.toList_append]
    rw [subl_append, subl_append, ih, subl_free c _ _ (h p (List.mem_cons_self ..))]
    have : subl c z.cps.toList [c] = z.cps.toList := by simp [subl]
    rw [this]
theorem replace_subl (x z : Str) (c : Nat) : Txt.replace x ⟨#[c]⟩ z = ⟨(subl c z.cps.toList x.cps.toList).toArray⟩ := by
  refine Str.ext' (Array.toList_inj.mp ?_)
  rw [StrLaws.replace_one, ← subl_join c z _ (StrLaws.split_free x c), StrLaws.join_split]
noncomputable def okT (T : List (Str × Str)) (cc : Str) : Bool := cc.cps.size == 1 && T.all fun p => p.1 != cc && !p.2.cps.toList.contains (cc.cps[0]!)
theorem okT_one {T : List (Str × Str)} {cc : Str} (h : okT T cc = true) : ∃ c, cc = ⟨#[c]⟩ := by
  unfold okT at h
  rw [Bool.and_eq_true] at h
  obtain ⟨⟨l⟩⟩ := cc
  match l, h with
  | [c], _ => exact ⟨c, rfl⟩
theorem okT_map {T : List (Str × Str)} {c : Nat} (r : Str) (h : okT T ⟨#[c]⟩ = true) (d : Nat) : subl c r.cps.toList (mapT T d) = mapT ((⟨#[c]⟩, r) :: T) d := by
  unfold okT at h
  rw [Bool.and_eq_true, List.all_eq_true] at h
  unfold mapT
  by_cases hd : d = c
  · subst hd
    have e : T.lookup (⟨#[d]⟩ : Str) = none := by
      rw [List.lookup_eq_none_iff]
      intro p hp
      have := h.2 p hp
      simp only [Bool.and_eq_true, bne_iff_ne, ne_eq] at this
      simp only [bne_iff_ne, ne_eq]
      exact fun e => this.1 e.symm
    rw [e, List.lookup_cons]; simp [subl]
  · have hne : ((⟨#[d]⟩ : Str) == (⟨#[c]⟩ : Str)) = false := by
      rw [beq_eq_false_iff_ne]; intro e; injection e with e; injection e with e; injection e with e; exact hd e
    rw [List.lookup_cons, hne]
    cases hl : T.lookup (⟨#[d]⟩ : Str) with
    | none => simp [subl, hd]
    | some z =>
      refine subl_free c _ _ ?_
      have : ((⟨#[d]⟩ : Str), z) ∈ T := by
        have := List.lookup_eq_some_iff.mp hl
        obtain ⟨l1, l2, e, _⟩ := this
        rw [e]; simp
      have := h.2 _ this
      simp at this
      simpa using this.2
theorem escT_step {T : List (Str × Str)} {cc r x : Str} (h : okT T cc = true) : Txt.replace (escT T x) cc r = escT ((cc, r) :: T) x := by
  obtain ⟨c, rfl⟩ := okT_one h
  rw [replace_subl]
  refine Str.ext' (Array.toList_inj.mp ?_)
  show subl c r.cps.toList (x.cps.toList.flatMap (mapT T)) = x.cps.toList.flatMap (mapT _)
  unfold subl
  rw [List.flatMap_assoc]
  congr 1
  funext d
  exact okT_map r h d
theorem escT_nil (x : Str) : escT [] x = x := Str.ext' (Array.toList_inj.mp (by
  show x.cps.toList.flatMap (fun d => [d]) = _
  simp))
theorem escT_len {T : List (Str × Str)} {x : Str} (h : T.all (fun p => decide (p.2.length ≤ 6)) = true) (hx : x.length ≤ 1000) : (escT T x).length ≤ 6000 := by
  have key : ∀ l : List Nat, (l.flatMap (mapT T)).length ≤ 6 * l.length := by
    intro l
    induction l with
    | nil => simp
    | cons d l ih =>
      have : (mapT T d).length ≤ 6 := by
        unfold mapT
        cases hl : T.lookup (⟨#[d]⟩ : Str) with
        | none => simp
        | some z =>
          have : ((⟨#[d]⟩ : Str), z) ∈ T := by
            obtain ⟨l1, l2, e, _⟩ := List.lookup_eq_some_iff.mp hl
            rw [e]; simp
          have := List.all_eq_true.mp h _ this
          simp only [decide_eq_true_eq] at this
          simpa [Str.length] using this
      rw [List.flatMap_cons, List.length_append, List.length_cons]; omega
  have := key x.cps.toList
  show (x.cps.toList.flatMap (mapT T)).toArray.size ≤ 6000
  rw [List.size_toArray]
  have e : x.cps.toList.length = x.length := by simp [Str.length]
  omega
inductive EscMid (h₀ : Heap) (L : Addr) (m : Str → Option Value) (news : List (Addr × Obj)) (s : Shared) (y x : Str) (fl : Flow) (s' : Shared) : Prop
  | mk (f1 : fl = .next) (h' tk t') (f2 : s' = { s with heap := h', toks := tk }) (f3 : Fr h₀ L h' (fun z => if z = y then some (.str x t') else m z)) (f4 : News h₀ L h' news)
section
local macro_rules | `(tactic| walk_at "eval Name") => `(tactic| (refine ld (by k_asm) (by assumption) ?_ (by assumption) (by assumption) (by assumption)))
local macro_rules | `(tactic| walk_at "ite") => `(tactic| refine held ?_)
local macro_rules | `(tactic| walk_at "compareOp In str str") => `(tactic| refine held ?_)
set_option maxRecDepth 100000 in
set_option maxHeartbeats 8000000 in
theorem esc_if {T : List (Str × Str)} {cc rr y x : Str} {t : Tok} {v0 : Value} {name : Str} {scope : Scope} {a : Addr} {cd : Value} {Q : Flow → Shared → Prop} {E : Value → Shared → Prop} {p1 p2 p3 p4 p5 p6 p7 p8 p9 p10 p11 : Pos}
    (F : Fr h₀ L s.heap m) (N : News h₀ L s.heap news) (hm : m y = some v0) (hv0 : v0 = .str (escT T x) t) (hok : okT T cc = true) (hk : scope.kind = .function) (hl : (envOf name scope L a cd).kindOf y = some .local) (hdd : (y == ("__debug__" : Str)) = false)
    (hb : ∀ k, wpAny (model prog w) A (exec (.Assign [.Name y p4] (.Call (.Attribute (.Name y p5) (Str.ofString "replace") p6) [.Constant (.str cc) 0 p7, .Constant (.str rr) 0 p8] [] p9) p10) (envOf name scope L a cd)) (EscMid h₀ L m news s y (Txt.replace (escT T x) cc rr)) E { s with toks := k + 1 })
    (h : ∀ h' tk t', Fr h₀ L h' (fun z => if z = y then some (.str (escT ((cc, rr) :: T) x) t') else m z) → News h₀ L h' news → Q .next { s with heap := h', toks := tk }) :
    wpAny (model prog w) A (exec (.If (.Compare (.Constant (.str cc) 0 p1) [.In] [.Name y p2] p3) [.Assign [.Name y p4] (.Call (.Attribute (.Name y p5) (Str.ofString "replace") p6) [.Constant (.str cc) 0 p7, .Constant (.str rr) 0 p8] [] p9) p10] [] p11) (envOf name scope L a cd)) Q E s := by
  rw [← escT_step hok] at h
  subst hv0
  k_steps
  refine SB.contains ?_
  k_steps
  unfold Hold
  cases hc : Txt.contains (escT T x) cc with
  | false =>
    rw [if_neg (by decide)]
    k_steps
    refine h _ _ t ?_ N
    obtain ⟨c, rfl⟩ := okT_one hok
    have hc' : c ∉ (escT T x).cps.toList := by
      have := StrLaws.found_one (escT T x) c
      unfold Txt.contains at hc
      rw [hc] at this
      exact of_decide_eq_false this.symm
    have e : Txt.replace (escT T x) ⟨#[c]⟩ rr = escT T x := by
      rw [replace_subl, subl_free _ _ _ hc']
    rw [e]
    have : (fun z => if z = y then some (.str (escT T x) t) else m z) = m := by
      funext z; by_cases hz : z = y
      · subst hz; rw [if_pos rfl, hm]
      · rw [if_neg hz]
    rw [this]; exact F
  | true =>
    rw [if_pos rfl]
    walk1
    refine wpAny_mono (hb _) (fun fl s' hq => ?_) fun _ _ e => e
    obtain ⟨rfl, h', tk, t', rfl, F', N'⟩ := hq
    show wpAny _ _ (execs [] _) _ _ _
    k_steps
    exact h h' tk t' F' N'
end

end

section
local macro_rules | `(tactic| walk_at "no such key") => `(tactic| skip)
local macro_rules | `(tactic| walk_at "exec If") => `(tactic| (k_here; k_dflt (refine esc_if (by k_asm) (by k_asm) (by rfl) (by rfl) (by decide +kernel) (by rfl) (by rfl) (by decide) (fun k => ?_) (fun h' tk' t' F' N' => ?_))))
local macro_rules | `(tactic| walk_at "EscMid") => `(tactic| exact ⟨rfl, _, _, _, rfl, by assumption, by assumption⟩)
local macro_rules | `(tactic| walk_at "call builtin:str.replace") => `(tactic| (k_here; k_dflt (refine SC.replaceW (Nat.succ_ne_zero _) (Nat.succ_ne_zero _) (Nat.ne_of_lt (Nat.lt_succ_self _)) (by decide +kernel) (Nat.le_trans (escT_len (by decide +kernel) (by assumption)) (by decide)) (by decide) ?_); intro t' k'))
noncomputable def tabE0 : List (Str × Str) := [(Str.ofString "\x0d", Str.ofString "&#xD;"), (Str.ofString "\n", Str.ofString "&#xA;"), (Str.ofString "\t", Str.ofString "&#x9;"), (Str.ofString "\"", Str.ofString "&quot;"), (Str.ofString "<", Str.ofString "&lt;"), (Str.ofString "&", Str.ofString "&amp;")]
noncomputable def tabE1 : List (Str × Str) := [(Str.ofString "\"", Str.ofString "&quot;"), (Str.ofString ">", Str.ofString "&gt;"), (Str.ofString "&", Str.ofString "&amp;")]
noncomputable def tabE2 : List (Str × Str) := [(Str.ofString "\x0d", Str.ofString "&#xD;"), (Str.ofString ">", Str.ofString "&gt;"), (Str.ofString "<", Str.ofString "&lt;"), (Str.ofString "&", Str.ofString "&amp;")]
set_option maxRecDepth 100000 in
set_option maxHeartbeats 8000000 in
theorem attrib_spec {R : Result → Shared → Prop} {x : Str} {tx : Tok} (hx : x.length ≤ 1000)
    (F : Fr h₀ L s.heap m) (N : News h₀ L s.heap news) (X : (hd.heap_1 w.params).In h₀) (T : Top p loose mean mg mb h₀) (hroom : A.depth + 5 < recursionLimit)
    (k : ∀ h' tk t, Fr h₀ L h' m → News h₀ L h' news → R (.ok (.ret (.str (escT tabE0 x) t))) { s with heap := h', toks := tk }) :
    codeAny (model prog w) A (.call (.ref 198) ⟨[.str (escT [] x) tx], []⟩) R s := by
  k_enter
  k_steps
  exact k _ _ _ (by assumption) (by assumption)
set_option maxRecDepth 100000 in
set_option maxHeartbeats 8000000 in
theorem html_spec {R : Result → Shared → Prop} {x : Str} {tx : Tok} (hx : x.length ≤ 1000)
    (F : Fr h₀ L s.heap m) (N : News h₀ L s.heap news) (X : (hd.heap_1 w.params).In h₀) (T : Top p loose mean mg mb h₀) (hroom : A.depth + 5 < recursionLimit)
    (k : ∀ h' tk t, Fr h₀ L h' m → News h₀ L h' news → R (.ok (.ret (.str (escT tabE1 x) t))) { s with heap := h', toks := tk }) :
    codeAny (model prog w) A (.call (.ref 184) ⟨[.str (escT [] x) tx], []⟩) R s := by
  k_enter
  k_steps
  exact k _ _ _ (by assumption) (by assumption)
set_option maxRecDepth 100000 in
set_option maxHeartbeats 8000000 in
theorem cdata_spec {R : Result → Shared → Prop} {x : Str} {tx : Tok} (hx : x.length ≤ 1000)
    (F : Fr h₀ L s.heap m) (N : News h₀ L s.heap news) (X : (hd.heap_1 w.params).In h₀) (T : Top p loose mean mg mb h₀) (hroom : A.depth + 5 < recursionLimit)
    (k : ∀ h' tk t, Fr h₀ L h' m → News h₀ L h' news → R (.ok (.ret (.str (escT tabE2 x) t))) { s with heap := h', toks := tk }) :
    codeAny (model prog w) A (.call (.ref 191) ⟨[.str (escT [] x) tx], []⟩) R s := by
  k_enter
  k_steps
  exact k _ _ _ (by assumption) (by assumption)

end

section
noncomputable def escW (which : Int) (x : Str) : Str := escT (if which = 0 then tabE0 else if which = 1 then tabE1 else tabE2) x
local macro_rules | `(tactic| walk_at "call ref") => `(tactic| refine held ?_)
local macro_rules | `(tactic| walk_at "ite") => `(tactic| refine held ?_)
set_option maxRecDepth 100000 in
set_option maxHeartbeats 8000000 in
theorem written_spec {R : Result → Shared → Prop} {x : Str} {tx tw : Tok} {which : Int} (hx : x.length ≤ 1000) (h3 : which = 0 ∨ which = 1 ∨ which = 2)
    (F : Fr h₀ L s.heap m) (N : News h₀ L s.heap news) (X : (hd.heap_1 w.params).In h₀) (T : Top p loose mean mg mb h₀) (hroom : A.depth + 10 < recursionLimit)
    (k : ∀ h' tk t, Fr h₀ L h' m → News h₀ L h' news → R (.ok (.ret (.str (escW which x) t))) { s with heap := h', toks := tk }) :
    codeAny (model prog w) A (.call (.ref 224) ⟨[.str x tx, .int which tw], []⟩) R s := by
  rw [← escT_nil x]
  k_enter
  k_steps
  unfold Hold
  rcases h3 with rfl | rfl | rfl
  · rw [if_pos (by decide)]
    k_steps
    refine wpAny_call (attrib_spec (x := x) hx (by assumption) (by assumption) (by assumption) (by assumption) (by k_room) ?_)
    intro h2 tk2 t2 F2 N2
    k_steps
    exact k _ _ _ (by assumption) (by assumption)
  · rw [if_neg (by decide)]
    k_steps
    unfold Hold
    rw [if_pos (by decide)]
    k_steps
    refine wpAny_call (html_spec (x := x) hx (by assumption) (by assumption) (by assumption) (by assumption) (by k_room) ?_)
    intro h2 tk2 t2 F2 N2
    k_steps
    exact k _ _ _ (by assumption) (by assumption)
  · rw [if_neg (by decide)]
    k_steps
    unfold Hold
    rw [if_neg (by decide)]
    k_steps
    refine wpAny_call (cdata_spec (x := x) hx (by assumption) (by assumption) (by assumption) (by assumption) (by k_room) ?_)
    intro h2 tk2 t2 F2 N2
    k_steps
    exact k _ _ _ (by assumption) (by assumption)
noncomputable def tabE (which : Int) : List (Str × Str) := if which = 0 then tabE0 else if which = 1 then tabE1 else tabE2
theorem lookup_other {T : List (Str × Str)} {d : Nat} (ks : List Nat) (hk : T.map (·.1) = ks.map fun c => (⟨#[c]⟩ : Str)) (hd : d ∉ ks) : mapT T d = [d] := by
  unfold mapT
  have : T.lookup (⟨#[d]⟩ : Str) = none := by
    rw [List.lookup_eq_none_iff]
    intro p hp
    have hm : p.1 ∈ T.map (·.1) := List.mem_map_of_mem hp
    rw [hk] at hm
    obtain ⟨c, hc, e⟩ := List.mem_map.mp hm
    rw [bne_iff_ne]
    rw [← e]
    intro h
    injection h with h; injection h with h; injection h with h
    exact hd (h ▸ hc)
  rw [this]
theorem word_other {which : Int} {d : Nat} (h : d ∉ [38, 60, 62, 34, 9, 10, 13]) : word which d = none := by
  simp only [List.mem_cons, List.not_mem_nil, or_false, not_or] at h
  obtain ⟨h1, h2, h3, h4, h5, h6, h7⟩ := h
  simp [word, h1, h2, h3, h4, h5, h6, h7]
theorem mapT_spellC {which : Int} (h3 : which = 0 ∨ which = 1 ∨ which = 2) (d : Nat) : mapT (tabE which) d = spellC which 0 d := by
  by_cases hd : d ∈ [38, 60, 62, 34, 9, 10, 13]
  · simp only [List.mem_cons, List.not_mem_nil, or_false] at hd
    rcases h3 with rfl | rfl | rfl <;> rcases hd with rfl | rfl | rfl | rfl | rfl | rfl | rfl <;> decide +kernel
  · have e : spellC which 0 d = [d] := by unfold spellC; rw [word_other hd]
    rw [e]
    simp only [List.mem_cons, List.not_mem_nil, or_false, not_or] at hd
    rcases h3 with rfl | rfl | rfl
    · exact lookup_other [13, 10, 9, 34, 60, 38] (by decide +kernel) (by simp [hd])
    · exact lookup_other [34, 62, 38] (by decide +kernel) (by simp [hd])
    · exact lookup_other [13, 62, 60, 38] (by decide +kernel) (by simp [hd])
theorem escW_eq {which : Int} (h3 : which = 0 ∨ which = 1 ∨ which = 2) (x : Str) : escW which x = spell which 0 x := by
  refine Str.ext' (Array.toList_inj.mp ?_)
  show x.cps.toList.flatMap (mapT (tabE which)) = x.cps.toList.flatMap (spellC which 0)
  congr 1; funext d; exact mapT_spellC h3 d
theorem plainE {which : Int} : ∀ l : List Nat, (∀ d ∈ l, d ∉ [38, 60, 62, 34, 9, 10, 13]) → l.flatMap (spellC which 0) = l
  | [], _ => rfl
  | d :: l, h => by
    rw [List.flatMap_cons, plainE l fun a ha => h a (List.mem_cons_of_mem _ ha)]
    have : spellC which 0 d = [d] := by unfold spellC; rw [word_other (h d (List.mem_cons_self ..))]
    rw [this]; rfl
theorem word_plain {which : Int} {c : Nat} {wd : Str} (h : word which c = some wd) : ∀ d ∈ wd.cps.toList, d ∉ [38, 60, 62, 34, 9, 10, 13] := by
  unfold word at h
  repeat' split at h
  all_goals first
    | (cases h; done)
    | (injection h with h; subst h; decide +kernel)
theorem spellC_step {which : Int} (turn d : Nat) : (spellC which turn d).flatMap (spellC which 0) = spellC which (turn + 1) d := by
  unfold spellC
  cases hw : word which d with
  | none =>
    show List.flatMap _ [d] = _
    rw [List.flatMap_cons, hw]; rfl
  | some wd =>
    show List.flatMap (spellC which 0) _ = _
    rw [List.flatMap_cons, List.flatMap_append, plainE _ (word_plain hw), plainE]
    · have e : spellC which 0 38 = [38, 97, 109, 112, 59] := by unfold spellC; rfl
      rw [e, List.replicate_succ]; rfl
    · intro a ha
      simp only [List.mem_flatten, List.mem_replicate] at ha
      obtain ⟨l, ⟨_, rfl⟩, hl⟩ := ha
      simp only [List.mem_cons, List.not_mem_nil, or_false] at hl
      rcases hl with rfl | rfl | rfl | rfl <;> decide
theorem escW_step {which : Int} (h3 : which = 0 ∨ which = 1 ∨ which = 2) (x : Str) (turn : Nat) : escW which (spell which turn x) = spell which (turn + 1) x := by
  rw [escW_eq h3]
  refine Str.ext' (Array.toList_inj.mp ?_)
  show (x.cps.toList.flatMap (spellC which turn)).flatMap (spellC which 0) = x.cps.toList.flatMap (spellC which (turn + 1))
  rw [List.flatMap_assoc]
  congr 1; funext d; exact spellC_step turn d
theorem spell_len {which : Int} {turn : Nat} (h : turn ≤ 3) {x : Str} (hx : OkName x) : (spell which turn x).length ≤ 108 := by
  have key : ∀ l : List Nat, (l.flatMap (spellC which turn)).length ≤ 18 * l.length := by
    intro l
    induction l with
    | nil => simp
    | cons d l ih => have := spellC_len (which := which) h d; rw [List.flatMap_cons, List.length_append, List.length_cons]; omega
  have := key x.cps.toList
  show (x.cps.toList.flatMap (spellC which turn)).toArray.size ≤ 108
  rw [List.size_toArray]
  have e : x.cps.toList.length = x.length := by simp [Str.length]
  have := hx.1
  omega
/-- how many signs of x are in the table -/
noncomputable def hits (which : Int) (x : Str) : Nat := (x.cps.toList.filter fun c => (word which c).isSome).length
theorem spell_grow {which : Int} (x : Str) (t : Nat) : (spell which (t + 1) x).length = (spell which t x).length + 4 * hits which x := by
  have key : ∀ l : List Nat, (l.flatMap (spellC which (t + 1))).length = (l.flatMap (spellC which t)).length + 4 * (l.filter fun c => (word which c).isSome).length := by
    intro l
    induction l with
    | nil => simp
    | cons d l ih =>
      rw [List.flatMap_cons, List.length_append, ih, List.flatMap_cons, List.length_append, List.filter_cons]
      unfold spellC
      cases hw : word which d with
      | none => simp; omega
      | some wd => simp; omega
  have := key x.cps.toList
  show (x.cps.toList.flatMap (spellC which (t + 1))).toArray.size = (x.cps.toList.flatMap (spellC which t)).toArray.size + _
  rw [List.size_toArray, List.size_toArray, this]; rfl
theorem hits_le {which : Int} {x : Str} (hx : OkName x) : hits which x ≤ 6 := by
  unfold hits
  have h1 := List.length_filter_le (fun c => (word which c).isSome) x.cps.toList
  have e : x.cps.toList.length = x.length := by simp [Str.length]
  have := hx.1
  omega

end

section
local macro_rules | `(tactic| walk_at "no such key") => `(tactic| skip)
local macro_rules | `(tactic| walk_at "no such key") => `(tactic| skip)
local macro_rules | `(tactic| walk_at "no such key") => `(tactic| skip)
theorem item_cp {prog : Program} {w : World} {A : Around} {E : Value → Shared → Prop} {s : Shared} {value slice : PySem.Expr} {Y : Str} {ty u : Tok} {q c : Nat} {Q : Value → Shared → Prop} (h : Y.cps.toList[q]? = some c) (hY : Y.length ≤ 1000)
    (hQ : Q (.str ⟨#[c]⟩ s.toks) { s with toks := s.toks + 1 })
    (hs : subscripted slice false (.str Y ty) (.int q u) = operate [.str Y ty, .int q u] (getItem (.str Y ty) (.int q u)) := by with_unfolding_all rfl)
    (ht : ∀ r, letTemporaryGo value (.str Y ty) r = pure () := by intro _; with_unfolding_all rfl) :
    wpAny (model prog w) A (subscriptTail value slice (.str Y ty) (.int q u)) Q E s := by
  have hq : q < Y.length := by
    have := List.getElem?_eq_some_iff.mp h
    obtain ⟨h1, _⟩ := this
    simpa [Str.length] using h1
  refine item_str (fitsSsize_of (N := 9223372036854775808) (by omega) (by omega) (Int.le_refl _)) (by omega) (by omega) (fun _ => ?_) hs ht
  have e : Txt.item Y (q : Int) = ⟨#[c]⟩ := by
    unfold Txt.item Txt.charAt
    have : seqIndex? (q : Int) Y.length = some q := by
      unfold seqIndex?
      have h1 : ¬ ((q : Int) < 0) := by omega
      simp only [h1, if_false]
      rw [if_pos (by simp only [Bool.and_eq_true, decide_eq_true_eq]; omega)]
      rw [Int.toNat_natCast]
    rw [this]
    show (⟨#[(Y.cps[q]?).getD 0]⟩ : Str) = _
    have : Y.cps[q]? = some c := by simpa using h
    rw [this]; rfl
  rw [e]; exact hQ
theorem one_beq (c d : Nat) : ((⟨#[c]⟩ : Str) == (⟨#[d]⟩ : Str)) = decide (c = d) := by
  rw [Bool.eq_iff_iff, beq_iff_eq, decide_eq_true_iff]
  exact ⟨fun e => by injection e with e; injection e with e; injection e with e, fun e => by rw [e]⟩
theorem dbl_cons34 (l : List Nat) : StrLaws.dbl 34 (34 :: l) = 34 :: 34 :: StrLaws.dbl 34 l := rfl
theorem dbl_cons_ne {c : Nat} (h : c ≠ 34) (l : List Nat) : StrLaws.dbl 34 (c :: l) = c :: StrLaws.dbl 34 l := by
  show (if c = 34 then _ else _) = _
  rw [if_neg h]
theorem dbl_len : ∀ l : List Nat, l.length ≤ (StrLaws.dbl 34 l).length
  | [] => Nat.le_refl _
  | c :: l => by
    have := dbl_len l
    by_cases h : c = 34
    · subst h; rw [dbl_cons34]; simp only [List.length_cons]; omega
    · rw [dbl_cons_ne h]; simp only [List.length_cons]; omega
theorem str_snoc (l : List Nat) (c : Nat) : (⟨l.toArray⟩ : Str) ++ (⟨#[c]⟩ : Str) = ⟨(l ++ [c]).toArray⟩ := Str.ext' (Array.toList_inj.mp (by simp [Str.cps_append]))
local macro_rules | `(tactic| walk_at "binaryOp Add str str") => `(tactic| refine held ?_)
local macro_rules | `(tactic| walk_at "ite") => `(tactic| refine held ?_)
local macro_rules | `(tactic| walk_at "subscriptTail Name Name str int") => `(tactic| refine held ?_)
inductive P257J (Y : Str) (ty : Tok) (tl l : List Nat) (news : List (Addr × Obj)) (k : Nat) (m : Str → Option Value) (nw : List (Addr × Obj)) : Prop
  | mk (f1 : nw = news) (f2 : m (Str.ofString "resp") = some (.str Y ty)) (q : Nat) (a b : List Nat) (ti tn td : Tok) (f3 : m (Str.ofString "i") = some (.int q ti)) (f4 : m (Str.ofString "n") = some (.int Y.length tn)) (f5 : m (Str.ofString "dirname") = some (.str ⟨a.toArray⟩ td)) (f6 : l = a ++ b) (f7 : Y.cps.toList.drop q = StrLaws.dbl 34 b ++ 34 :: tl) (f8 : k = Y.length - q)
set_option maxRecDepth 100000 in
set_option maxHeartbeats 8000000 in
theorem p257_spec {R : Result → Shared → Prop} {Y : Str} {tx : Tok} {l tl : List Nat} (hY : Y.cps.toList = [50, 53, 55, 32, 34] ++ StrLaws.dbl 34 l ++ 34 :: tl) (hYl : Y.length ≤ 1000) (htl : tl.head? ≠ some 34)
    (F : Fr h₀ L s.heap m) (N : News h₀ L s.heap news) (X : (hd.heap_1 w.params).In h₀) (T : Top p loose mean mg mb h₀) (hroom : A.depth + 10 < recursionLimit)
    (k : ∀ h' tk t, Fr h₀ L h' m → News h₀ L h' news → R (.ok (.ret (.str ⟨l.toArray⟩ t))) { s with heap := h', toks := tk }) :
    codeAny (model prog w) A (.call (.ref 92) ⟨[.str Y tx], []⟩) R s := by
  have hlen : Y.length = Y.cps.toList.length := by simp [Str.length]
  have e1 : Txt.slice Y none (some 3) = Str.ofString "257" := by
    rw [show Txt.slice Y none (some 3) = StrLaws.sliceText Y none (some 3) from rfl, StrLaws.sliceText_to ⟨by decide, by rw [hY]; simp; omega⟩, hY]
    rfl
  have e2 : Txt.slice Y (some 3) (some 5) = Str.ofString " \"" := by
    rw [show Txt.slice Y (some 3) (some 5) = StrLaws.sliceText Y (some 3) (some 5) from rfl, StrLaws.sliceText_plain ⟨by decide, by decide, by rw [hY]; simp; omega⟩, hY]
    rfl
  k_enter
  k_steps
  unfold Hold
  rw [e1, if_neg (by decide)]
  k_steps
  unfold Hold
  rw [e2, if_neg (by decide)]
  k_steps
  refine While_inv2 (P257J Y tx tl l news) (n₀ := Y.length - 5) (by assumption) (by assumption) ⟨rfl, rfl, 5, [], l, _, _, _, rfl, rfl, rfl, rfl, by rw [hY]; rfl, rfl⟩ ?_ PassesOwn.never
  rintro n m₁ _ h₁ tk₁ F₁ N₁ ⟨rfl, hr, q, a, b, ti, tn, td, hi, hn, hdn, hl, hq, rfl⟩
  have hlt : q < Y.length := by
    have : 0 < (Y.cps.toList.drop q).length := by rw [hq, List.length_append, List.length_cons]; omega
    rw [List.length_drop] at this; omega
  have hget : ∀ d, Y.cps.toList[q + d]? = (StrLaws.dbl 34 b ++ 34 :: tl)[d]? := fun d => by rw [← hq, List.getElem?_drop]
  k_steps
  unfold Hold
  rw [if_pos (by rw [decide_eq_true_iff]; omega)]
  k_steps
  have eq1 : (q : Int) + 1 = ((q + 1 : Nat) : Int) := by omega
  have ell : Y.length = q + (StrLaws.dbl 34 b ++ 34 :: tl).length := by rw [← hq, List.length_drop]; omega
  have hal : (⟨a.toArray⟩ : Str).length ≤ 1000 := by
    have h1 : l.length ≤ (StrLaws.dbl 34 l).length := dbl_len l
    have h2 : Y.length = ([50, 53, 55, 32, 34] ++ StrLaws.dbl 34 l ++ 34 :: tl).length := by rw [hlen, hY]
    simp only [List.length_append, List.length_cons] at h2
    have h3 : l.length = a.length + b.length := by rw [hl, List.length_append]
    show a.toArray.size ≤ 1000
    rw [List.size_toArray]; omega
  have hal2 : ∀ c : Nat, (⟨a.toArray⟩ : Str).length + (⟨#[c]⟩ : Str).length ≤ sizeLine := fun c => by
    rw [sizeLine_eq]; show _ + 1 ≤ 16777216; omega
  cases b with
  | nil =>
    have ea : a = l := by rw [hl]; simp
    refine item_cp (c := 34) (by have := hget 0; simpa [StrLaws.dbl] using this) hYl ?_
    k_steps
    unfold Hold
    rw [if_pos (by rfl)]
    k_steps
    unfold Hold
    cases tl with
    | nil =>
      rw [if_pos (by rw [decide_eq_true_iff, ell]; simp [StrLaws.dbl]), if_pos rfl]
      k_steps
      dsimp only [WhileStep2]
      k_steps
      rw [ea]
      exact k _ _ _ (by assumption) (by assumption)
    | cons d tl =>
      have hd : d ≠ 34 := fun e => htl (by rw [e]; rfl)
      rw [if_neg (by rw [decide_eq_true_iff, ell]; simp [StrLaws.dbl]; omega)]
      rename Fr _ _ _ _ => F9; simp only [eq1] at F9
      k_steps
      refine item_cp (c := d) (by have := hget 1; simpa [StrLaws.dbl] using this) hYl ?_
      k_steps
      unfold Hold
      rw [if_pos (by rw [show Str.ofString "\"" = (⟨#[34]⟩ : Str) from rfl]; simp only [bne, one_beq, decide_eq_false hd, Bool.not_false])]
      k_steps
      unfold Hold
      rw [if_pos rfl]
      k_steps
      dsimp only [WhileStep2]
      k_steps
      rw [ea]
      exact k _ _ _ (by assumption) (by assumption)
  | cons c b =>
    by_cases hc : c = 34
    · subst hc
      rw [dbl_cons34] at hget ell hq
      refine item_cp (c := 34) (by have := hget 0; simpa using this) hYl ?_
      k_steps
      unfold Hold
      rw [if_pos (by rfl)]
      k_steps
      unfold Hold
      rw [if_neg (by rw [decide_eq_true_iff, ell]; simp; omega)]
      rename Fr _ _ _ _ => F9; simp only [eq1] at F9
      k_steps
      refine item_cp (c := 34) (by have := hget 1; simpa using this) hYl ?_
      k_steps
      unfold Hold
      rw [if_neg (by decide)]
      k_steps
      unfold Hold
      rw [if_neg (by decide)]
      k_steps
      refine SB.add (fun t7 k7 => ?_) (hal2 _)
      k_steps
      rename Fr _ _ _ _ => F8; rename News _ _ _ _ => N8
      rw [show Str.ofString "\"" = (⟨#[34]⟩ : Str) from rfl, str_snoc] at F8
      refine whileStep2_next (n' := Y.length - (q + 2)) F8 N8 (by omega) ⟨rfl, hr, q + 2, a ++ [34], b, _, tn, _, rfl, hn, rfl, by rw [hl]; simp, by rw [show q + 2 = q + 1 + 1 from rfl, ← List.drop_drop, ← List.drop_drop, hq]; rfl, rfl⟩
    · rw [dbl_cons_ne hc] at hget ell hq
      refine item_cp (c := c) (by have := hget 0; simpa using this) hYl ?_
      k_steps
      unfold Hold
      rw [if_neg (by rw [show Str.ofString "\"" = (⟨#[34]⟩ : Str) from rfl, one_beq]; simpa using hc)]
      k_steps
      refine SB.add (fun t7 k7 => ?_) (hal2 _)
      k_steps
      rename Fr _ _ _ _ => F8; rename News _ _ _ _ => N8
      rw [str_snoc] at F8
      refine whileStep2_next (n' := Y.length - (q + 1)) F8 N8 (by omega) ⟨rfl, hr, q + 1, a ++ [c], b, _, tn, _, rfl, hn, rfl, by rw [hl]; simp, by rw [← List.drop_drop, hq]; rfl, rfl⟩

end

section
local macro_rules | `(tactic| k_mem) => `(tactic| first | assumption | exact List.mem_cons_self .. | exact List.mem_cons_of_mem _ (by assumption))
local macro_rules | `(tactic| walk_at "subscriptTail Name Constant ref int") => `(tactic| first | walk_at "my tup" | (k_here; k_dflt (refine' item_news (by k_asm) (by k_mem) (by decide) (by decide) (by rfl) ?_; k_whole)))
local macro_rules | `(tactic| walk_at "ite") => `(tactic| refine held ?_)
theorem five {l : List (Str × Tok)} {a b c d e : Str} (h : List.map (fun x => x.1) l = [a, b, c, d, e]) : ∃ u0 u1 u2 u3 u4, l = [(a, u0), (b, u1), (c, u2), (d, u3), (e, u4)] := by
  match l, h with
  | [(_, u0), (_, u1), (_, u2), (_, u3), (_, u4)], h =>
    simp only [List.map_cons, List.map_nil, List.cons.injEq, and_true] at h
    obtain ⟨rfl, rfl, rfl, rfl, rfl⟩ := h
    exact ⟨u0, u1, u2, u3, u4, rfl⟩
set_option maxRecDepth 100000 in
set_option maxHeartbeats 8000000 in
theorem p229_spec {R : Result → Shared → Prop} {Y : Str} {ty t1 t2 : Tok} {P : Addr} {nP : Nat} {a b : Int} (hYl : Y.length ≤ 100) (e1 : Txt.slice Y none (some 3) = Str.ofString "229") (e2 : Txt.find Y (Str.ofString "(") = 13) {r : Nat} (hr : r < 30) (hr0 : 15 ≤ r) (hrY : r < Y.length) (e3 : Txt.find3 Y (Str.ofString ")") 14 = r) {mk seg : Str} (e4 : Txt.item Y 14 = mk) (e5 : Txt.item Y ((r : Int) - 1) = mk) (e6 : Txt.slice Y (some 14) (some (r : Int)) = seg) {p0 p1 p2 p4 : Str} {toll : Int} (e7 : Txt.split seg mk = [p0, p1, p2, Str.ofString (toString toll), p4]) (ht0 : 0 ≤ toll) (ht1 : toll < 100) (hP : (P, tupO [.int a t1, .int b t2] nP) ∈ news)
    (F : Fr h₀ L s.heap m) (N : News h₀ L s.heap news) (X : (hd.heap_1 w.params).In h₀) (T : Top p loose mean mg mb h₀) (hroom : A.depth + 10 < recursionLimit)
    (k : ∀ h' tk D nD t3 t4, Fr h₀ L h' m → News h₀ L h' ((D, tupO [.int a t3, .int toll t4] nD) :: news) → (∀ q ∈ news, q.1 < D) → R (.ok (.ret (.ref D))) { s with heap := h', toks := tk }) :
    codeAny (model prog w) A (.call (.ref 85) ⟨[.str Y ty, .ref P], []⟩) R s := by
  k_enter
  k_steps
  unfold Hold
  rw [e1, if_neg (by decide)]
  k_steps
  rename Fr _ _ _ _ => F9; rw [e2] at F9
  unfold Hold
  rw [e2, if_neg (by decide)]
  k_steps
  rename Fr _ _ _ _ => F8; rw [show (13 : Int) + 1 = 14 from rfl, e3] at F8
  unfold Hold
  rw [show (13 : Int) + 1 = 14 from rfl, e3, if_neg (by rw [decide_eq_true_iff]; omega)]
  k_steps
  unfold Hold
  rw [show (13 : Int) + 1 = 14 from rfl, e4, e5, if_neg (by simp)]
  k_steps
  unfold Hold
  rename List (Str × Tok) => l9
  rename (List.map _ _ = _) => hl9
  rw [show (13 : Int) + 1 = 14 from rfl, e6, e4, e7] at hl9
  obtain ⟨u0, u1, u2, u3, u4, rfl⟩ := five hl9
  rw [if_neg (by simp)]
  k_steps
  rename_i D h9 F9 N9 l9 kF kN Tc kX
  exact k _ _ _ _ _ _ kF (fun q hq => kN q (by
    rcases List.mem_cons.mp hq with rfl | hq
    · exact List.mem_cons_self ..
    · exact List.mem_cons_of_mem _ (List.mem_cons_of_mem _ hq))) (fun q hq => tb_ltOf l9.2 q hq)

end

section
noncomputable def digs (n : Nat) : Str := ⟨((Nat.toDigits 10 n).map Char.toNat).toArray⟩
noncomputable def markOf (n : Nat) : Str := Txt.item (Str.ofString "|!;/") ((n : Int).fmod 4)
noncomputable def replyD (n : Nat) : Str := Str.ofString "229 Extended (" ++ Txt.mul (markOf n) 3 ++ digs n ++ markOf n ++ Str.ofString ")"
noncomputable def repR (n : Nat) : Nat := if n < 10 then 19 else 20
noncomputable def repOk (n : Nat) : Bool :=
  let Y := replyD n
  decide (Y.length ≤ 22) && Txt.slice Y none (some 3) == Str.ofString "229" && Txt.find Y (Str.ofString "(") == 13 && decide (repR n < Y.length) && Txt.find3 Y (Str.ofString ")") 14 == (repR n : Int) &&
  Txt.item Y 14 == markOf n && Txt.item Y ((repR n : Int) - 1) == markOf n && Txt.split (Txt.slice Y (some 14) (some (repR n : Int))) (markOf n) == [Str.ofString "", Str.ofString "", Str.ofString "", digs n, Str.ofString ""]
set_option maxRecDepth 100000 in
theorem rep_all : ∀ n : Fin 100, repOk n.1 = true := by decide +kernel
theorem digs_eq (n : Nat) : Str.ofString (toString ((n : Nat) : Int)) = digs n := Str.ext' (Array.toList_inj.mp (by rw [PySem.W.KIN.signs_num]; simp [digs]))
noncomputable def replyOf (toll : Int) : Str := Str.ofString "229 Extended (" ++ Txt.mul (Txt.item (Str.ofString "|!;/") (toll.fmod 4)) 3 ++ Str.ofString (toString toll) ++ Txt.item (Str.ofString "|!;/") (toll.fmod 4) ++ Str.ofString ")"
theorem replyOf_eq (n : Nat) : replyOf (n : Int) = replyD n := by unfold replyOf replyD; rw [digs_eq]; rfl
theorem reply_spec {R : Result → Shared → Prop} {ty t1 t2 : Tok} {P : Addr} {nP : Nat} {a b toll : Int} (ht0 : 0 ≤ toll) (ht1 : toll < 100) (hP : (P, tupO [.int a t1, .int b t2] nP) ∈ news)
    (F : Fr h₀ L s.heap m) (N : News h₀ L s.heap news) (X : (hd.heap_1 w.params).In h₀) (T : Top p loose mean mg mb h₀) (hroom : A.depth + 10 < recursionLimit)
    (k : ∀ h' tk D nD t3 t4, Fr h₀ L h' m → News h₀ L h' ((D, tupO [.int a t3, .int toll t4] nD) :: news) → (∀ q ∈ news, q.1 < D) → R (.ok (.ret (.ref D))) { s with heap := h', toks := tk }) :
    codeAny (model prog w) A (.call (.ref 85) ⟨[.str (replyOf toll) ty, .ref P], []⟩) R s := by
  obtain ⟨n, rfl⟩ := Int.eq_ofNat_of_zero_le ht0
  have hn : n < 100 := by omega
  have h := rep_all ⟨n, hn⟩
  unfold repOk at h
  simp only [Bool.and_eq_true, decide_eq_true_eq, beq_iff_eq] at h
  obtain ⟨⟨⟨⟨⟨⟨⟨h1, h2⟩, h3⟩, h4⟩, h5⟩, h6⟩, h7⟩, h8⟩ := h
  rw [replyOf_eq]
  have hr : repR n < 30 ∧ 15 ≤ repR n := by unfold repR; split <;> omega
  exact p229_spec (by omega) h2 h3 hr.1 hr.2 h4 h5 h6 h7 rfl (h8.trans (by rw [digs_eq])) ht0 ht1 hP F N X T hroom k
theorem reply_len {toll : Int} (ht0 : 0 ≤ toll) (ht1 : toll < 100) : (replyOf toll).length ≤ 22 := by
  obtain ⟨n, rfl⟩ := Int.eq_ofNat_of_zero_le ht0
  have h := rep_all ⟨n, by omega⟩
  unfold repOk at h
  simp only [Bool.and_eq_true, decide_eq_true_eq, beq_iff_eq] at h
  rw [replyOf_eq]; exact h.1.1.1.1.1.1.1

end

section
local macro_rules | `(tactic| walk_at "no such key") => `(tactic| skip)
section
variable {prog : Program} {w : World} {A : Around} {E : Value → Shared → Prop} {s : Shared} {env : Env} {h₀ : Heap} {target : PySem.Expr} {body : List Stmt} {Q : Flow → Shared → Prop}
/-- what a turn of a loop leaves -/
inductive Turned (h₀ : Heap) (L I : Addr) (oI : Obj) (s : Shared) (J : (Str → Option Value) → List (Addr × Obj) → Prop) (f : Flow) (s' : Shared) : Prop
  | mk (f1 : f = .next) (h' tk m₂ news₂) (f2 : s' = { s with heap := h', toks := tk }) (f3 : Fr h₀ L h' m₂) (f4 : News h₀ L h' ((I, oI) :: news₂)) (f5 : (∀ p ∈ news₂, p.1 ≠ I)) (f6 : J m₂ news₂)
theorem Turned.intro {h₀ h' : Heap} {L I : Addr} {oI : Obj} {s : Shared} {J : (Str → Option Value) → List (Addr × Obj) → Prop} {tk : Nat} {m₂ : Str → Option Value} {news₂ : List (Addr × Obj)}
    (F : Fr h₀ L h' m₂) (N : News h₀ L h' ((I, oI) :: news₂)) (ha : ∀ p ∈ news₂, p.1 ≠ I) (hJ : J m₂ news₂) : Turned h₀ L I oI s J .next { s with heap := h', toks := tk } := ⟨rfl, h', tk, m₂, news₂, rfl, F, N, ha, hJ⟩
theorem loopAtT_of {I : Addr} {fp : List Addr} {n : Nat} {P : Nat → Value → Prop} {St : Nat → Heap → Prop} {m : Str → Option Value} {news keep : List (Addr × Obj)}
    (J : Nat → (Str → Option Value) → List (Addr × Obj) → Prop) (W : Walks prog w A I fp [I] n P St) (nm : String) (hIo : ∀ i h, St i h → ∃ o, h.get? I = some o ∧ o.cls = .type nm) (hfp : ∀ b ∈ fp, b ≠ I → ∃ o, (b, o) ∈ keep)
    (hgo : ∀ i (s' : Shared) v (Q' : Unit → Shared → Prop), St i s'.heap → Q' () s' → wpAny (model prog w) A (letOwnedTupleGo target (.ref I) v) Q' E s')
    (hst : St 0 s.heap) (F : Fr h₀ env.locals s.heap m) (N : News h₀ env.locals s.heap news) (hIL : I ≠ env.locals) (hI0 : h₀.get? I = none) (hoff : ∀ p ∈ news, p.1 ≠ I) (hk : ∀ p ∈ keep, p ∈ news) (h0 : J 0 m news)
    (turn : ∀ i v m₁ news₁ s₁ oI, oI.cls = .type nm → i < n → P i v → J i m₁ news₁ → (∀ p ∈ keep, p ∈ news₁) → (∀ p ∈ news₁, p.1 ≠ I) → Fr h₀ env.locals s₁.heap m₁ → News h₀ env.locals s₁.heap ((I, oI) :: news₁) →
      wpAny (model prog w) A (assign target env v) (fun _ s₃ => wpAny (model prog w) A (execs body env) (Turned h₀ env.locals I oI s₁ fun m' nx => (∀ p ∈ keep, p ∈ nx) ∧ J (i + 1) m' nx) E s₃) E s₁)
    (done : ∀ h' tk m' news', Fr h₀ env.locals h' m' → News h₀ env.locals h' news' → (∀ p ∈ keep, p ∈ news') → J n m' news' → Q .next { s with heap := h', toks := tk }) :
    LoopAtT prog w A h₀ env target body Q E (.ref I) s := by
  refine ⟨I, fp, [I], n, P, St, m, news, fun i m nx => (∀ p ∈ keep, p ∈ nx) ∧ J i m nx, rfl, W, ?_, ?_, ?_, hst, F, N, hgo, ⟨hk, h0⟩, ?_, ?_⟩
  · intro hm
    by_cases e : env.locals = I
    · exact hIL e.symm
    · obtain ⟨o, ho⟩ := hfp _ hm e
      exact (N _ (hk _ ho)).2.1 rfl
  · intro b hb; rw [List.mem_singleton.mp hb]; exact hI0
  · intro p hp hm; exact hoff p hp (List.mem_singleton.mp hm)
  · rintro i v m₁ news₁ s₁ own hi hP ⟨hk₁, hJ⟩ hoff₁ hown hget hall hst₁ F₁ N₁
    obtain ⟨oI, heI, hcI⟩ := hIo _ _ hst₁
    have hIf : I ∈ fp := W.sub I (List.mem_singleton.mpr rfl)
    have hIown : (I, oI) ∈ own := hall I hIf hI0 oI heI
    have hoff₁' : ∀ p ∈ news₁, p.1 ≠ I := fun p hp e => hoff₁ p hp (List.mem_singleton.mpr e)
    refine wpAny_mono (turn i v m₁ news₁ s₁ oI hcI hi hP hJ hk₁ hoff₁' F₁ fun p hp => ?_) (fun _ s₃ h₃ => wpAny_mono h₃ (fun f s₄ h₄ => ?_) fun _ _ e => e) fun _ _ e => e
    · rcases List.mem_cons.mp hp with rfl | hp
      · exact N₁ _ (List.mem_append_left _ hIown)
      · exact N₁ _ (List.mem_append_right _ hp)
    · obtain ⟨rfl, h', tk, m₂, news₂, rfl, F₂, N₂, ha₂, hk₂, hJ₂⟩ := h₄
      refine ⟨rfl, h', tk, m₂, news₂, rfl, F₂, fun p hp => ?_, fun p hp hm => ha₂ p hp (List.mem_singleton.mp hm), hk₂, hJ₂⟩
      rcases List.mem_append.mp hp with hp | hp
      · by_cases e : p.1 = I
        · have e2 : p.2 = oI := by have := hget p hp; rw [e, heI] at this; exact (Option.some.inj this).symm
          have : p = (I, oI) := by rw [← e, ← e2]
          rw [this]; exact N₂ _ (List.mem_cons_self ..)
        · obtain ⟨o, ho⟩ := hfp _ (hown p hp) e
          have e1 := (N₁ _ (List.mem_append_right _ (hk₁ _ ho))).1
          have e2 := hget p hp
          have : p.2 = o := by rw [e1] at e2; exact (Option.some.inj e2).symm
          have : p = (p.1, o) := by rw [← this]
          rw [this]; exact N₂ _ (List.mem_cons_of_mem _ (hk₂ _ ho))
      · exact N₂ _ (List.mem_cons_of_mem _ hp)
  · rintro h' tk m' news' F' N' _ ⟨hk', hJ'⟩
    exact done h' tk m' news' F' N' hk' hJ'
/-- a loop over a list of the ledger -/
theorem for_list {L l : Addr} {vs : List Value} {nn : Nat} {m : Str → Option Value} {news : List (Addr × Obj)}
    (J : Nat → (Str → Option Value) → List (Addr × Obj) → Prop) (hL : env.locals = L) (hh : A.handled = none) (F : Fr h₀ L s.heap m) (N : News h₀ L s.heap news) (hl : (l, listOf vs.toArray nn) ∈ news) (h0 : J 0 m news)
    (turn : ∀ i v m₁ news₁ s₁ I oI, oI.cls = .type "list_iterator" → vs[i]? = some v → J i m₁ news₁ → (l, listOf vs.toArray nn) ∈ news₁ → (∀ p ∈ news₁, p.1 ≠ I) → Fr h₀ L s₁.heap m₁ → News h₀ L s₁.heap ((I, oI) :: news₁) →
      wpAny (model prog w) A (assign target env v) (fun _ s₃ => wpAny (model prog w) A (execs body env) (Turned h₀ L I oI s₁ fun m' nx => (l, listOf vs.toArray nn) ∈ nx ∧ J (i + 1) m' nx) E s₃) E s₁)
    (done : ∀ h' tk m' news', Fr h₀ L h' m' → News h₀ L h' news' → (l, listOf vs.toArray nn) ∈ news' → J vs.length m' news' → Q .next { s with heap := h', toks := tk }) :
    wpAny (model prog w) A (pyIter (.ref l)) (fun it s₂ => LoopAtT prog w A h₀ env target body Q E it s₂) E s := by
  subst hL
  have hol : s.heap.get? l = some (listOf vs.toArray nn) := (N _ hl).1
  have hls : s.heap.IsList l vs.toArray := ⟨_, hol, rfl, nn, rfl⟩
  have hne : l ≠ s.heap.objs.size := Nat.ne_of_lt (Heap.lt_size hol)
  refine wpAny_pyIter_list hls ?_
  have W := Walks.list (prog := prog) (w := w) hh s.heap.objs.size l hne vs.toArray
  have hlen : vs.toArray.size = vs.length := by simp
  rw [hlen] at W
  refine loopAtT_of (keep := [(l, listOf vs.toArray nn)]) J W "list_iterator" (fun i h st => by obtain ⟨o, e, c, _⟩ := st.1; exact ⟨o, e, c⟩) (fun b hb hI => ?_) (fun i s' v Q' st hQ' => letGo_listiter st.1 hQ')
    ⟨⟨_, Heap.get?_push_size _ rfl, rfl, rfl⟩, hls.at fun o e => Heap.get?_push_of_some _ e⟩ (F.push _) (fun p hp => ⟨Heap.get?_push_of_some _ (N p hp).1, (N p hp).2⟩) (Ne.symm (Nat.ne_of_lt F.ns.lt)) (next_is_new F) (fun p hp => Nat.ne_of_lt (Heap.lt_size (N p hp).1)) (fun p hp => by rw [List.mem_singleton.mp hp]; exact hl) h0 ?_ ?_
  · rcases List.mem_cons.mp hb with rfl | hb
    · exact absurd rfl hI
    · rw [List.mem_singleton.mp hb]; exact ⟨_, List.mem_singleton.mpr rfl⟩
  · intro i v m₁ news₁ s₁ oI hcI hi hP hJ hk hoff F₁ N₁
    refine wpAny_mono (turn i v m₁ news₁ s₁ _ oI hcI (by simpa using hP) hJ (hk _ (List.mem_singleton.mpr rfl)) hoff F₁ N₁) (fun _ s₃ h₃ => wpAny_mono h₃ (fun f s₄ h₄ => ?_) fun _ _ e => e) fun _ _ e => e
    obtain ⟨rfl, h', tk, m₂, news₂, rfl, F₂, N₂, ha₂, hk₂, hJ₂⟩ := h₄
    exact ⟨rfl, h', tk, m₂, news₂, rfl, F₂, N₂, ha₂, fun p hp => by rw [List.mem_singleton.mp hp]; exact hk₂, hJ₂⟩
  · intro h' tk m' news' F' N' hk hJ
    exact done h' tk m' news' F' N' (hk _ (List.mem_singleton.mpr rfl)) hJ
/-- a loop over a range, its target a name -/
theorem for_range {L : Addr} {x : Str} {px : Pos} {r : Addr} {a b : Int} {tr ur vr : Tok} {n : Nat} {m : Str → Option Value} {news : List (Addr × Obj)}
    (J : Nat → (Str → Option Value) → List (Addr × Obj) → Prop) (hL : env.locals = L) (hh : A.handled = none) (F : Fr h₀ L s.heap m) (N : News h₀ L s.heap news) (hr : IsRange s.heap r a b 1 tr ur vr) (hsm : Builtin.Range.small a b 1 = true) (hn : Builtin.Range.rangeSize a b 1 = ((n : Nat) : Int)) (h0 : J 0 m news)
    (turn : ∀ i t m₁ news₁ s₁ I oI, oI.cls = .type "range_iterator" → i < n → J i m₁ news₁ → (∀ p ∈ news₁, p.1 ≠ I) → Fr h₀ L s₁.heap m₁ → News h₀ L s₁.heap ((I, oI) :: news₁) →
      wpAny (model prog w) A (assign (.Name x px) env (.int (a + (i : Int)) t)) (fun _ s₃ => wpAny (model prog w) A (execs body env) (Turned h₀ L I oI s₁ fun m' nx => J (i + 1) m' nx) E s₃) E s₁)
    (done : ∀ h' tk m' news', Fr h₀ L h' m' → News h₀ L h' news' → J n m' news' → Q .next { s with heap := h', toks := tk }) :
    wpAny (model prog w) A (pyIter (.ref r)) (fun it s₂ => LoopAtT prog w A h₀ env (.Name x px) body Q E it s₂) E s := by
  subst hL
  refine wpAny_pyIter_range hr hsm ?_
  refine loopAtT_of (keep := []) J (PyProof.Rows.LCg.range_walks hh a n) "range_iterator" (fun i h st => ⟨_, st, rfl⟩) (fun b hb hI => absurd (List.mem_singleton.mp hb) hI) (fun i s' v Q' st hQ' => wpAny_of_eq rfl hQ')
    (by show IsRangeIter _ _ _ _ _; rw [hn]; simpa using Heap.get?_push_size _ rfl) (F.push _) (fun p hp => ⟨Heap.get?_push_of_some _ (N p hp).1, (N p hp).2⟩) (Ne.symm (Nat.ne_of_lt F.ns.lt)) (next_is_new F) (fun p hp => Nat.ne_of_lt (Heap.lt_size (N p hp).1)) (fun p hp => nomatch hp) h0 ?_ ?_
  · rintro i v m₁ news₁ s₁ oI hcI hi ⟨t, rfl⟩ hJ hk hoff F₁ N₁
    refine wpAny_mono (turn i t m₁ news₁ s₁ _ oI hcI hi hJ hoff F₁ N₁) (fun _ s₃ h₃ => wpAny_mono h₃ (fun f s₄ h₄ => ?_) fun _ _ e => e) fun _ _ e => e
    obtain ⟨rfl, h', tk, m₂, news₂, rfl, F₂, N₂, ha₂, hJ₂⟩ := h₄
    refine ⟨rfl, h', tk, m₂, news₂, rfl, F₂, N₂, ha₂, ⟨fun p hp => ?_, hJ₂⟩⟩
    cases hp
  · intro h' tk m' news' F' N' hk hJ
    exact done h' tk m' news' F' N' hJ
end
theorem store_cell {M : Model} {A : Around} {E : Value → Shared → Prop} {s : Shared} {h₀ : Heap} {L a : Addr} {m : Str → Option Value} {cn : Str} {cs : Scope} {ccd : Value} {cl : List (Str × Addr)}
    {x : Str} {v : Value} {Q : Unit → Shared → Prop} {led : List (Addr × Obj)} {c : Addr} {o : Obj} {v₀ : Option Value} (rest : List (Addr × Obj))
    (F : Fr h₀ L s.heap m) (N : News h₀ L s.heap led) (hc : cl.lookup x = some c) (hm : (c, o) ∈ led) (hd : o.data = .cell v₀) (hsub : ∀ q ∈ rest, q ∈ led ∧ q.1 ≠ c)
    (h : ∀ h' o', Fr h₀ L h' m → News h₀ L h' ((c, o') :: rest) → o'.data = .cell (some v) → Q () { s with heap := h' })
    (hk : cs.kind = .function := by rfl) (hx : (envX cn cs L a ccd cl).kindOf x = some .cell := by rfl) : wpAny M A (storeName (envX cn cs L a ccd cl) x v) Q E s :=
  storeX_C F (news := (c, o) :: rest) (fun q hq => by
    rcases List.mem_cons.mp hq with rfl | hq
    · exact N _ hm
    · exact N _ (hsub q hq).1) hc (.head fun q hq => (hsub q hq).2) hd h hk hx
section
variable {prog : Program} {w : World} {A : Around} {E : Value → Shared → Prop} {s : Shared} {h₀ : Heap} {L D : Addr} {m : Str → Option Value}
theorem append_news {led : List (Addr × Obj)} {vs : List Value} {n : Nat} {v : Value} {Q : Value → Shared → Prop} (F : Fr h₀ L s.heap m) (N : News h₀ L s.heap ((D, listOf vs.toArray n) :: led)) (hled : ∀ q ∈ led, q.1 ≠ D) (hz : vs.length ≤ 1000)
    (h : ∀ h', Fr h₀ L h' m → News h₀ L h' ((D, listOf (vs ++ [v]).toArray (n + 1)) :: led) → Q .none { s with heap := h' }) : wpAny (model prog w) A (call (.builtin "list.append") [.ref D, v]) Q E s := by
  have z := N _ (List.mem_cons_self ..)
  refine append_at (hsz := by rw [List.size_toArray, sizeLine_eq]; omega) z.1 fun h' hs hD => h h' (F.change hs z.2.1 z.2.2) fun q hq => ?_
  rcases List.mem_cons.mp hq with rfl | hq
  · refine ⟨hD.trans ?_, z.2⟩
    rw [show vs.toArray.push v = (vs ++ [v]).toArray by simp]
  · have zq := N q (List.mem_cons_of_mem _ hq)
    exact ⟨hs.extBut _ _ (hled q hq) zq.1, zq.2⟩
theorem method_append {news : List (Addr × Obj)} {its : Array Value} {n : Nat} {pl : Sem Bool} {Q : Value × List Value → Shared → Prop} (N : News h₀ L s.heap news) (hm : (D, listOf its n) ∈ news) (h : Q (.builtin "list.append", [.ref D]) s) :
    wpAny (model prog w) A (getMethod (.ref D) (Str.ofString "append") pl) Q E s := kl_method N hm PySem.F.slot_list_append PySem.F.type_list_append h
end

end

section
noncomputable def fnPieces {K : Frag} {f : Addr} {name qual : Str} {params : Arguments} {body : List Stmt} {scope : Scope} {dV kV doc pm cdv ct oc : Value} {an od : Option Addr} {osl : Array (Option Value)}
    (_ : K.lookup f = some ⟨oc, od, .func (fnOf name qual params body scope dV kV doc pm an cdv ct), osl⟩) : List Stmt × Scope := (body, scope)
set_option maxRecDepth 100000 in
set_option maxHeartbeats 8000000 in
noncomputable def lawPieces (P : Params) : List Stmt × Scope := by
  refine' fnPieces (K := hd.heap_1 P) (f := 257) ?k1
  case k1 => k_is
noncomputable def lawRest (P : Params) (n : Nat) : List Stmt := (lawPieces P).1.drop n
noncomputable def lawEnv (P : Params) (q : Str) (L fa : Addr) (cd : Value) : Env := envOfC q (lawPieces P).2 L fa cd

end

section
theorem pruneL_sub (p : Int × Int) : ∀ l : List (Int × Int), (pruneL p l).Sublist l
  | [] => by simp [pruneL]
  | [a] => by simp [pruneL]
  | a :: b :: r => by
    unfold pruneL
    split
    · exact List.Sublist.refl _
    · exact (pruneL_sub p (b :: r)).trans (List.sublist_cons_self _ _)
theorem pruneR_sub (p : Int × Int) : ∀ l : List (Int × Int), (pruneR p l).Sublist l
  | [] => by simp [pruneR]
  | [a] => by simp [pruneR]
  | a :: b :: r => by
    unfold pruneR
    split
    · exact List.Sublist.refl _
    · exact (pruneR_sub p (b :: r)).trans (List.sublist_cons_self _ _)
noncomputable def Srt (l : List (Int × Int)) : Prop := l.Pairwise fun a b => a.1 < b.1
theorem laidFin_ok {pre suf : List (Int × Int)} {p : Int × Int} (h1 : Srt pre) (h2 : Srt suf) (h3 : ∀ a ∈ pre, a.1 < p.1) (h4 : ∀ a ∈ suf, p.1 < a.1) :
    Srt (laidFin pre suf p) ∧ (∀ a ∈ laidFin pre suf p, a ∈ pre ∨ a = p ∨ a ∈ suf) ∧ (laidFin pre suf p).length ≤ pre.length + suf.length + 1 := by
  have hL : ((pruneL p pre.reverse).reverse).Sublist pre := by
    have := (pruneL_sub p pre.reverse).reverse
    rwa [List.reverse_reverse] at this
  have hR := pruneR_sub p suf
  unfold laidFin
  refine ⟨?_, ?_, ?_⟩
  · unfold Srt
    rw [List.pairwise_append, List.pairwise_cons]
    refine ⟨h1.sublist hL, ⟨fun a ha => h4 a (hR.subset ha), h2.sublist hR⟩, fun a ha b hb => ?_⟩
    have ha' := h3 a (hL.subset ha)
    rcases List.mem_cons.mp hb with rfl | hb
    · exact ha'
    · exact Int.lt_trans ha' (h4 b (hR.subset hb))
  · intro a ha
    rcases List.mem_append.mp ha with ha | ha
    · exact .inl (hL.subset ha)
    · rcases List.mem_cons.mp ha with rfl | ha
      · exact .inr (.inl rfl)
      · exact .inr (.inr (hR.subset ha))
  · have a1 := hL.length_le
    have a2 := hR.length_le
    rw [List.length_append, List.length_cons]; omega
theorem split_lt {hull : List (Int × Int)} (h : Srt hull) (p : Int × Int) :
    Srt (hull.takeWhile fun q => q.1 < p.1) ∧ Srt (hull.dropWhile fun q => q.1 < p.1) ∧ (∀ a ∈ hull.takeWhile fun q => q.1 < p.1, a.1 < p.1) ∧ (∀ a ∈ hull.dropWhile fun q => q.1 < p.1, p.1 ≤ a.1) ∧
      (hull.takeWhile fun q => q.1 < p.1) ++ (hull.dropWhile fun q => q.1 < p.1) = hull := by
  induction hull with
  | nil => simp [Srt]
  | cons a l ih =>
    have hl : Srt l := (List.pairwise_cons.mp h).2
    have ha := (List.pairwise_cons.mp h).1
    obtain ⟨i1, i2, i3, i4, i5⟩ := ih hl
    by_cases hc : a.1 < p.1
    · rw [List.takeWhile_cons_of_pos (by simpa using hc), List.dropWhile_cons_of_pos (by simpa using hc)]
      refine ⟨List.pairwise_cons.mpr ⟨fun b hb => ha b ((List.takeWhile_sublist _).subset hb), i1⟩, i2, fun b hb => ?_, i4, by rw [List.cons_append, i5]⟩
      rcases List.mem_cons.mp hb with rfl | hb
      · exact hc
      · exact i3 b hb
    · rw [List.takeWhile_cons_of_neg (by simpa using hc), List.dropWhile_cons_of_neg (by simpa using hc)]
      refine ⟨List.Pairwise.nil, h, fun b hb => (nomatch hb), fun b hb => ?_, rfl⟩
      rcases List.mem_cons.mp hb with rfl | hb
      · omega
      · have := ha b hb; omega
theorem laid_ok {hull : List (Int × Int)} (h : Srt hull) (p : Int × Int) : Srt (laid hull p) ∧ (∀ a ∈ laid hull p, a ∈ hull ∨ a = p) ∧ (laid hull p).length ≤ hull.length + 1 := by
  obtain ⟨i1, i2, i3, i4, i5⟩ := split_lt h p
  unfold laid
  generalize hp : (hull.takeWhile fun q => q.1 < p.1) = pre at *
  generalize hs : (hull.dropWhile fun q => q.1 < p.1) = suf at *
  have hlen : pre.length + suf.length = hull.length := by rw [← i5, List.length_append]
  have hin : ∀ a, a ∈ pre ∨ a ∈ suf → a ∈ hull := fun a ha => by rw [← i5]; exact List.mem_append.mpr ha
  have fin : ∀ suf', Srt suf' → (∀ a ∈ suf', p.1 < a.1) → (∀ a ∈ suf', a ∈ suf) → suf'.length ≤ suf.length → Srt (laidFin pre suf' p) ∧ (∀ a ∈ laidFin pre suf' p, a ∈ hull ∨ a = p) ∧ (laidFin pre suf' p).length ≤ hull.length + 1 := fun suf' a1 a2 a3 a4 => by
    obtain ⟨b1, b2, b3⟩ := laidFin_ok i1 a1 i3 a2
    refine ⟨b1, fun a ha => ?_, by omega⟩
    rcases b2 a ha with h | h | h
    · exact .inl (hin a (.inl h))
    · exact .inr h
    · exact .inl (hin a (.inr (a3 a h)))
  have same : Srt (pre ++ suf) ∧ (∀ a ∈ pre ++ suf, a ∈ hull ∨ a = p) ∧ (pre ++ suf).length ≤ hull.length + 1 := by
    rw [i5]; exact ⟨h, fun a ha => .inl ha, Nat.le_succ _⟩
  unfold laidAt
  cases suf with
  | nil => exact fin [] List.Pairwise.nil (fun a ha => nomatch ha) (fun a ha => ha) (Nat.le_refl _)
  | cons b r =>
    have hb := i4 b (List.mem_cons_self ..)
    have hr := (List.pairwise_cons.mp i2)
    dsimp only
    split
    · rename_i e
      split
      · exact same
      · exact fin r hr.2 (fun a ha => by have := hr.1 a ha; omega) (fun a ha => List.mem_cons_of_mem _ ha) (Nat.le_succ _)
    · rename_i e
      have hall : ∀ a ∈ b :: r, p.1 < a.1 := fun a ha => by
        rcases List.mem_cons.mp ha with rfl | ha
        · omega
        · have := hr.1 a ha; omega
      split
      · exact fin _ i2 hall (fun a ha => ha) (Nat.le_refl _)
      · split
        · exact fin _ i2 hall (fun a ha => ha) (Nat.le_refl _)
        · exact same
theorem foldl_ok : ∀ (ps acc : List (Int × Int)), Srt acc → Srt (ps.foldl laid acc) ∧ (∀ a ∈ ps.foldl laid acc, a ∈ acc ∨ a ∈ ps) ∧ (ps.foldl laid acc).length ≤ acc.length + ps.length
  | [], acc, h => ⟨h, fun a ha => .inl ha, Nat.le_refl _⟩
  | p :: ps, acc, h => by
    obtain ⟨b1, b2, b3⟩ := laid_ok h p
    obtain ⟨c1, c2, c3⟩ := foldl_ok ps (laid acc p) b1
    refine ⟨c1, fun a ha => ?_, ?_⟩
    · rcases c2 a ha with h | h
      · rcases b2 a h with h | h
        · exact .inl h
        · exact .inr (h ▸ List.mem_cons_self ..)
      · exact .inr (List.mem_cons_of_mem _ h)
    · rw [List.foldl_cons, List.length_cons]; omega
noncomputable def hullOf (ps : List (Int × Int)) : List (Int × Int) := ps.foldl laid []
theorem hullOf_ok (ps : List (Int × Int)) : Srt (hullOf ps) ∧ (∀ a ∈ hullOf ps, a ∈ ps) ∧ (hullOf ps).length ≤ ps.length := by
  obtain ⟨a, b, c⟩ := foldl_ok ps [] List.Pairwise.nil
  exact ⟨a, fun x hx => (b x hx).resolve_left (fun h => nomatch h), by have := c; rw [List.length_nil, Nat.zero_add] at this; exact this⟩
theorem hullOf_snoc (ps : List (Int × Int)) (p : Int × Int) : hullOf (ps ++ [p]) = laid (hullOf ps) p := by
  unfold hullOf; rw [List.foldl_append]; rfl

end

section
theorem vert (A C U V du dv x y : Int) (hA : 0 < A) (hC : 0 < C) (hU : 0 < U) (hV : 0 < V) (h1 : U * x ≤ du * A) (h2 : dv * C ≤ V * y) (h3 : du * V < U * dv) : C * x < A * y := by
  have hUV : 0 < U * V := Int.mul_pos hU hV
  have e1 : (C * V) * (U * x) ≤ (C * V) * (du * A) := Int.mul_le_mul_of_nonneg_left h1 (Int.le_of_lt (Int.mul_pos hC hV))
  have e2 : (C * A) * (du * V) < (C * A) * (U * dv) := Int.mul_lt_mul_of_pos_left h3 (Int.mul_pos hC hA)
  have e3 : (A * U) * (dv * C) ≤ (A * U) * (V * y) := Int.mul_le_mul_of_nonneg_left h2 (Int.le_of_lt (Int.mul_pos hA hU))
  have e : (U * V) * (C * x) < (U * V) * (A * y) := by grind
  exact Int.lt_of_mul_lt_mul_left e (Int.le_of_lt hUV)
noncomputable def Ln (u v q : Int × Int) : Int := (v.1 - u.1) * (q.2 - u.2) - (v.2 - u.2) * (q.1 - u.1)
theorem vertE {u b v a c : Int × Int} (h1 : u.1 < b.1) (h2 : b.1 < v.1) (ha : a.1 < b.1) (hc : b.1 < c.1) (hl : 0 < Ln u b v) (h3 : 0 ≤ Ln u b a) (h4 : 0 ≤ Ln b v c) : Ln a c b < 0 := by
  have := vert (b.1 - a.1) (c.1 - b.1) (b.1 - u.1) (v.1 - b.1) (b.2 - u.2) (v.2 - b.2) (b.2 - a.2) (c.2 - b.2) (by omega) (by omega) (by omega) (by omega) (by unfold Ln at h3; grind) (by unfold Ln at h4; grind) (by unfold Ln at hl; grind)
  unfold Ln; grind
theorem supL {K L p q : Int × Int} (h1 : K.1 < L.1) (h2 : L.1 < p.1) (hq : q.1 ≤ L.1) (a : 0 ≤ Ln K L q) (b : 0 < Ln K L p) : 0 ≤ Ln L p q := by
  have hU : 0 < L.1 - K.1 := by omega
  have e1 : 0 ≤ (p.1 - L.1) * Ln K L q := Int.mul_nonneg (by omega) a
  have e2 : 0 ≤ (L.1 - q.1) * Ln K L p := Int.mul_nonneg (by omega) (Int.le_of_lt b)
  have e3 : (L.1 - K.1) * Ln L p q = (p.1 - L.1) * Ln K L q + (L.1 - q.1) * Ln K L p := by unfold Ln; grind
  have e4 : 0 ≤ (L.1 - K.1) * Ln L p q := by omega
  exact Int.nonneg_of_mul_nonneg_right e4 hU
theorem supR {L M p q : Int × Int} (h1 : L.1 < M.1) (h2 : L.1 < p.1) (hq : L.1 ≤ q.1) (a : 0 ≤ Ln L M q) (b : Ln L M p ≤ 0) : 0 ≤ Ln L p q := by
  have hV : 0 < M.1 - L.1 := by omega
  have e1 : 0 ≤ (p.1 - L.1) * Ln L M q := Int.mul_nonneg (by omega) a
  have e2 : (q.1 - L.1) * Ln L M p ≤ 0 := Int.mul_nonpos_of_nonneg_of_nonpos (by omega) b
  have e3 : (M.1 - L.1) * Ln L p q = (p.1 - L.1) * Ln L M q - (q.1 - L.1) * Ln L M p := by unfold Ln; grind
  have e4 : 0 ≤ (M.1 - L.1) * Ln L p q := by omega
  exact Int.nonneg_of_mul_nonneg_right e4 hV
theorem supL' {R S p q : Int × Int} (h1 : R.1 < S.1) (h2 : p.1 < R.1) (hq : R.1 ≤ q.1) (a : 0 ≤ Ln R S q) (b : 0 < Ln R S p) : 0 ≤ Ln p R q := by
  have hU : 0 < S.1 - R.1 := by omega
  have e1 : 0 ≤ (R.1 - p.1) * Ln R S q := Int.mul_nonneg (by omega) a
  have e2 : 0 ≤ (q.1 - R.1) * Ln R S p := Int.mul_nonneg (by omega) (Int.le_of_lt b)
  have e3 : (S.1 - R.1) * Ln p R q = (R.1 - p.1) * Ln R S q + (q.1 - R.1) * Ln R S p := by unfold Ln; grind
  have e4 : 0 ≤ (S.1 - R.1) * Ln p R q := by omega
  exact Int.nonneg_of_mul_nonneg_right e4 hU
theorem supR' {M R p q : Int × Int} (h1 : M.1 < R.1) (h2 : p.1 < R.1) (hq : q.1 ≤ R.1) (a : 0 ≤ Ln M R q) (b : Ln M R p ≤ 0) : 0 ≤ Ln p R q := by
  have hV : 0 < R.1 - M.1 := by omega
  have e1 : 0 ≤ (R.1 - p.1) * Ln M R q := Int.mul_nonneg (by omega) a
  have e2 : (R.1 - q.1) * Ln M R p ≤ 0 := Int.mul_nonpos_of_nonneg_of_nonpos (by omega) b
  have e3 : (R.1 - M.1) * Ln p R q = (R.1 - p.1) * Ln M R q - (R.1 - q.1) * Ln M R p := by unfold Ln; grind
  have e4 : 0 ≤ (R.1 - M.1) * Ln p R q := by omega
  exact Int.nonneg_of_mul_nonneg_right e4 hV
theorem bel_iff (a b c : Int × Int) : bel a b c = true ↔ Ln a c b < 0 := by
  unfold bel Ln; rw [decide_eq_true_iff]; grind
noncomputable def Adj {α : Type} (l : List α) (u v : α) : Prop := ∃ l1 l2, l = l1 ++ u :: v :: l2
theorem Adj.mid {α : Type} {u v p : α} : ∀ {X Y : List α}, Adj (X ++ p :: Y) u v → Adj X u v ∨ (X.getLast? = some u ∧ v = p) ∨ (u = p ∧ Y.head? = some v) ∨ Adj Y u v
  | [], Y, ⟨l1, l2, h⟩ => by
    cases l1 with
    | nil => simp at h; exact .inr (.inr (.inl ⟨h.1.symm, by rw [h.2]; rfl⟩))
    | cons a l1 => simp at h; exact .inr (.inr (.inr ⟨l1, l2, h.2⟩))
  | x :: X, Y, ⟨l1, l2, h⟩ => by
    cases l1 with
    | nil =>
      simp at h
      obtain ⟨rfl, h⟩ := h
      cases X with
      | nil => simp at h; exact .inr (.inl ⟨rfl, h.1.symm⟩)
      | cons y X => simp at h; exact .inl ⟨[], X, by rw [h.1]; rfl⟩
    | cons a l1 =>
      simp at h
      rcases Adj.mid (X := X) (Y := Y) ⟨l1, l2, h.2⟩ with ⟨m1, m2, e⟩ | ⟨e, f⟩ | e | e
      · exact .inl ⟨x :: m1, m2, by rw [e]; rfl⟩
      · refine .inr (.inl ⟨?_, f⟩)
        cases X with
        | nil => simp at e
        | cons y X => rw [List.getLast?_cons_cons]; exact e
      · exact .inr (.inr (.inl e))
      · exact .inr (.inr (.inr e))
noncomputable def Tri {α : Type} (l : List α) (u v w : α) : Prop := ∃ l1 l2, l = l1 ++ u :: v :: w :: l2
theorem Tri.mid {α : Type} {u v w p : α} : ∀ {X Y : List α}, Tri (X ++ p :: Y) u v w → Tri X u v w ∨ ((∃ X', X = X' ++ [u, v]) ∧ w = p) ∨ (X.getLast? = some u ∧ v = p ∧ Y.head? = some w) ∨ (u = p ∧ ∃ Y', Y = v :: w :: Y') ∨ Tri Y u v w
  | [], Y, ⟨l1, l2, h⟩ => by
    cases l1 with
    | nil => simp at h; exact .inr (.inr (.inr (.inl ⟨h.1.symm, l2, h.2⟩)))
    | cons a l1 => simp at h; exact .inr (.inr (.inr (.inr ⟨l1, l2, h.2⟩)))
  | x :: X, Y, ⟨l1, l2, h⟩ => by
    cases l1 with
    | nil =>
      simp at h
      obtain ⟨rfl, h⟩ := h
      cases X with
      | nil => simp at h; exact .inr (.inr (.inl ⟨rfl, h.1.symm, by rw [h.2]; rfl⟩))
      | cons y X =>
        simp at h
        obtain ⟨rfl, h⟩ := h
        cases X with
        | nil => simp at h; exact .inr (.inl ⟨⟨[], rfl⟩, h.1.symm⟩)
        | cons z X => simp at h; exact .inl ⟨[], X, by rw [h.1]; rfl⟩
    | cons a l1 =>
      simp at h
      rcases Tri.mid (X := X) (Y := Y) ⟨l1, l2, h.2⟩ with ⟨m1, m2, e⟩ | ⟨⟨X', e⟩, f⟩ | ⟨e, f, g⟩ | e | e
      · exact .inl ⟨x :: m1, m2, by rw [e]; rfl⟩
      · exact .inr (.inl ⟨⟨x :: X', by rw [e]; rfl⟩, f⟩)
      · refine .inr (.inr (.inl ⟨?_, f, g⟩))
        cases X with
        | nil => simp at e
        | cons y X => rw [List.getLast?_cons_cons]; exact e
      · exact .inr (.inr (.inr (.inl e)))
      · exact .inr (.inr (.inr (.inr e)))
structure Inv (hull pts : List (Int × Int)) : Prop where
  srt : Srt hull
  mem : ∀ h ∈ hull, h ∈ pts
  cvx : ∀ u v w, Tri hull u v w → 0 < Ln u v w
  abv : ∀ u v, Adj hull u v → ∀ q ∈ pts, 0 ≤ Ln u v q
  lo : ∀ h, hull.head? = some h → ∀ q ∈ pts, h.1 ≤ q.1
  hi : ∀ h, hull.getLast? = some h → ∀ q ∈ pts, q.1 ≤ h.1
  low : ∀ b ∈ hull, ∀ q ∈ pts, q.1 = b.1 → b.2 ≤ q.2
noncomputable def IsRim (pts : List (Int × Int)) (b : Int × Int) : Prop :=
  b ∈ pts ∧ (∀ a ∈ pts, a.1 = b.1 → b.2 ≤ a.2) ∧ ∀ a ∈ pts, ∀ c ∈ pts, a.1 < b.1 → b.1 < c.1 → Ln a c b < 0
theorem Inv.rim {hull pts : List (Int × Int)} (I : Inv hull pts) {b : Int × Int} (hb : b ∈ hull) : IsRim pts b := by
  refine ⟨I.mem b hb, fun a ha e => I.low b hb a ha e, fun a ha c hc h1 h2 => ?_⟩
  obtain ⟨l1, l2, e⟩ := List.append_of_mem hb
  cases hl : l1.getLast? with
  | none =>
    have : l1 = [] := List.getLast?_eq_none_iff.mp hl
    subst this
    have := I.lo b (by rw [e]; rfl) a ha
    omega
  | some u =>
    obtain ⟨l1', rfl⟩ := List.getLast?_eq_some_iff.mp hl
    cases l2 with
    | nil =>
      have := I.hi b (by rw [e]; simp) c hc
      omega
    | cons v l2 =>
      have ht : Tri hull u b v := ⟨l1', l2, by rw [e]; simp⟩
      have hub : u.1 < b.1 ∧ b.1 < v.1 := by
        have := I.srt
        unfold Srt at this
        rw [e, List.append_assoc, List.pairwise_append] at this
        have h3 := this.2.1
        simp only [List.cons_append, List.nil_append, List.pairwise_cons] at h3
        exact ⟨h3.1 b (List.mem_cons_self ..), h3.2.1 v (List.mem_cons_self ..)⟩
      exact vertE hub.1 hub.2 h1 h2 (I.cvx u b v ht) (I.abv u b ⟨l1', v :: l2, by rw [e]; simp⟩ a ha) (I.abv b v ⟨l1' ++ [u], l2, by rw [e]⟩ c hc)
theorem around (x : Int) : ∀ {l : List (Int × Int)} {h g : Int × Int}, l.head? = some h → l.getLast? = some g → h.1 ≤ x → x ≤ g.1 → (∃ a ∈ l, a.1 = x) ∨ ∃ u v, Adj l u v ∧ u.1 < x ∧ x < v.1
  | [], _, _, e, _, _, _ => by simp at e
  | [a], h, g, e1, e2, h1, h2 => by
    simp at e1 e2; subst e1; subst e2
    exact .inl ⟨a, List.mem_cons_self .., by omega⟩
  | a :: b :: r, h, g, e1, e2, h1, h2 => by
    simp at e1; subst e1
    by_cases hx : x = a.1
    · exact .inl ⟨a, List.mem_cons_self .., hx.symm⟩
    · by_cases hb : x < b.1
      · exact .inr ⟨a, b, ⟨[], r, rfl⟩, by omega, hb⟩
      · rcases around x (l := b :: r) (h := b) (g := g) rfl (by rw [List.getLast?_cons_cons] at e2; exact e2) (by omega) h2 with ⟨c, hc, e⟩ | ⟨u, v, ⟨l1, l2, e⟩, f⟩
        · exact .inl ⟨c, List.mem_cons_of_mem _ hc, e⟩
        · exact .inr ⟨u, v, ⟨a :: l1, l2, by rw [e]; rfl⟩, f⟩
theorem Inv.of_rim {hull pts : List (Int × Int)} (I : Inv hull pts) (hne : hull ≠ []) {b : Int × Int} (hb : IsRim pts b) : b ∈ hull := by
  obtain ⟨h1, h2, h3⟩ := hb
  obtain ⟨h, hh⟩ : ∃ h, hull.head? = some h := by cases hull with | nil => exact absurd rfl hne | cons a l => exact ⟨a, rfl⟩
  obtain ⟨g, hg⟩ : ∃ g, hull.getLast? = some g := ⟨hull.getLast hne, List.getLast?_eq_some_getLast hne⟩
  rcases around b.1 hh hg (I.lo h hh b h1) (I.hi g hg b h1) with ⟨a, ha, e⟩ | ⟨u, v, ha, f1, f2⟩
  · have e1 := I.low a ha b h1 e.symm
    have e2 := h2 a (I.mem a ha) e
    have : a = b := Prod.ext e (by omega)
    exact this ▸ ha
  · have e1 := I.abv u v ha b h1
    obtain ⟨l1, l2, e⟩ := ha
    have e2 := h3 u (I.mem u (by rw [e]; simp)) v (I.mem v (by rw [e]; simp)) f1 f2
    omega
theorem pruneL_spec (p : Int × Int) : ∀ l : List (Int × Int), ∃ D, l = D ++ pruneL p l ∧ (∀ a b r, pruneL p l = a :: b :: r → bel b a p = true) ∧ (∀ D' m, D = D' ++ [m] → ∀ a r, pruneL p l = a :: r → bel a m p = false) ∧ (l ≠ [] → pruneL p l ≠ [])
  | [] => ⟨[], by simp [pruneL], by simp [pruneL], by simp, by simp⟩
  | [a] => ⟨[], by simp [pruneL], by simp [pruneL], by simp, by simp [pruneL]⟩
  | a :: b :: r => by
    by_cases hc : bel b a p = true
    · have e : pruneL p (a :: b :: r) = a :: b :: r := by unfold pruneL; rw [if_pos hc]
      rw [e]
      exact ⟨[], rfl, fun a' b' r' h => by injection h with h1 h; injection h with h2 h; subst h1; subst h2; exact hc, by simp, by simp⟩
    · have e : pruneL p (a :: b :: r) = pruneL p (b :: r) := by
        conv => lhs; unfold pruneL
        rw [if_neg hc]
      rw [e]
      obtain ⟨D, h1, h2, h3, h4⟩ := pruneL_spec p (b :: r)
      refine ⟨a :: D, by rw [List.cons_append, ← h1], h2, fun D' m hD a' r' ha => ?_, fun _ => h4 (by simp)⟩
      cases D' with
      | nil =>
        simp at hD
        obtain ⟨rfl, rfl⟩ := hD
        rw [List.nil_append] at h1
        rw [← h1] at ha
        injection ha with ha _
        subst ha
        exact Bool.eq_false_iff.mpr hc
      | cons x D' =>
        simp at hD
        exact h3 D' m hD.2 a' r' ha
theorem pruneR_spec (p : Int × Int) : ∀ l : List (Int × Int), ∃ D, l = D ++ pruneR p l ∧ (∀ a b r, pruneR p l = a :: b :: r → bel p a b = true) ∧ (∀ D' m, D = D' ++ [m] → ∀ a r, pruneR p l = a :: r → bel p m a = false) ∧ (l ≠ [] → pruneR p l ≠ [])
  | [] => ⟨[], by simp [pruneR], by simp [pruneR], by simp, by simp⟩
  | [a] => ⟨[], by simp [pruneR], by simp [pruneR], by simp, by simp [pruneR]⟩
  | a :: b :: r => by
    by_cases hc : bel p a b = true
    · have e : pruneR p (a :: b :: r) = a :: b :: r := by unfold pruneR; rw [if_pos hc]
      rw [e]
      exact ⟨[], rfl, fun a' b' r' h => by injection h with h1 h; injection h with h2 h; subst h1; subst h2; exact hc, by simp, by simp⟩
    · have e : pruneR p (a :: b :: r) = pruneR p (b :: r) := by
        conv => lhs; unfold pruneR
        rw [if_neg hc]
      rw [e]
      obtain ⟨D, h1, h2, h3, h4⟩ := pruneR_spec p (b :: r)
      refine ⟨a :: D, by rw [List.cons_append, ← h1], h2, fun D' m hD a' r' ha => ?_, fun _ => h4 (by simp)⟩
      cases D' with
      | nil =>
        simp at hD
        obtain ⟨rfl, rfl⟩ := hD
        rw [List.nil_append] at h1
        rw [← h1] at ha
        injection ha with ha _
        subst ha
        exact Bool.eq_false_iff.mpr hc
      | cons x D' =>
        simp at hD
        exact h3 D' m hD.2 a' r' ha
theorem Ln.step {u v w p : Int × Int} (h1 : u.1 < v.1) (h2 : v.1 < w.1) (h3 : w.1 < p.1) (a : 0 < Ln u v w) (b : 0 < Ln v w p) : 0 < Ln u v p := by
  have hw : 0 < w.1 - v.1 := by omega
  have e1 : 0 < (p.1 - v.1) * Ln u v w := Int.mul_pos (by omega) a
  have e2 : 0 < (v.1 - u.1) * Ln v w p := Int.mul_pos (by omega) b
  have e3 : (w.1 - v.1) * Ln u v p = (p.1 - v.1) * Ln u v w + (v.1 - u.1) * Ln v w p := by unfold Ln; grind
  have e4 : 0 < (w.1 - v.1) * Ln u v p := by omega
  exact Int.lt_of_mul_lt_mul_left (by rw [Int.mul_zero]; exact e4) (Int.le_of_lt hw)
theorem Ln.step' {u v w p : Int × Int} (h1 : p.1 < u.1) (h2 : u.1 < v.1) (h3 : v.1 < w.1) (a : 0 < Ln u v w) (b : 0 < Ln u v p) : 0 < Ln v w p := by
  have hw : 0 < v.1 - u.1 := by omega
  have e1 : 0 < (v.1 - p.1) * Ln u v w := Int.mul_pos (by omega) a
  have e2 : 0 < (w.1 - v.1) * Ln u v p := Int.mul_pos (by omega) b
  have e3 : (v.1 - u.1) * Ln v w p = (v.1 - p.1) * Ln u v w + (w.1 - v.1) * Ln u v p := by unfold Ln; grind
  have e4 : 0 < (v.1 - u.1) * Ln v w p := by omega
  exact Int.lt_of_mul_lt_mul_left (by rw [Int.mul_zero]; exact e4) (Int.le_of_lt hw)
theorem Tri.tail {α : Type} {a : α} {l : List α} {u v w : α} (h : Tri l u v w) : Tri (a :: l) u v w := by
  obtain ⟨l1, l2, e⟩ := h; exact ⟨a :: l1, l2, by rw [e]; rfl⟩
theorem Adj.tail {α : Type} {a : α} {l : List α} {u v : α} (h : Adj l u v) : Adj (a :: l) u v := by
  obtain ⟨l1, l2, e⟩ := h; exact ⟨a :: l1, l2, by rw [e]; rfl⟩
/-- above the last edge of a chain, to the right: above all its edges -/
theorem leftAbove {p : Int × Int} : ∀ {X : List (Int × Int)}, Srt X → (∀ a ∈ X, a.1 < p.1) → (∀ u v w, Tri X u v w → 0 < Ln u v w) → (∀ X' u v, X = X' ++ [u, v] → 0 < Ln u v p) → ∀ u v, Adj X u v → 0 < Ln u v p
  | [], _, _, _, _, u, v, ⟨l1, l2, e⟩ => by simp at e
  | [a], _, _, _, _, u, v, ⟨l1, l2, e⟩ => by
    cases l1 with
    | nil => simp at e
    | cons b l1 => simp at e
  | [a, b], _, _, _, hl, u, v, ⟨l1, l2, e⟩ => by
    cases l1 with
    | nil => simp at e; obtain ⟨rfl, rfl, rfl⟩ := e; exact hl [] _ _ rfl
    | cons c l1 =>
      cases l1 with
      | nil => simp at e
      | cons d l1 => simp at e
  | a :: b :: c :: r, hs, hx, ht, hl, u, v, ⟨l1, l2, e⟩ => by
    have hs2 := (List.pairwise_cons.mp hs)
    have hs3 := (List.pairwise_cons.mp hs2.2)
    have ih := leftAbove (X := b :: c :: r) hs2.2 (fun a ha => hx a (List.mem_cons_of_mem _ ha)) (fun u v w h => ht u v w h.tail) (fun X' u v h => hl (a :: X') u v (by rw [h]; rfl))
    cases l1 with
    | nil =>
      simp at e
      obtain ⟨rfl, rfl, rfl⟩ := e
      exact Ln.step (hs2.1 _ (List.mem_cons_self ..)) (hs3.1 _ (List.mem_cons_self ..)) (hx c (by simp)) (ht _ _ _ ⟨[], r, rfl⟩) (ih b c ⟨[], r, rfl⟩)
    | cons d l1 =>
      simp at e
      exact ih u v ⟨l1, l2, e.2⟩
/-- above the first edge of a chain, to the left: above all its edges -/
theorem rightAbove {p : Int × Int} : ∀ {Y : List (Int × Int)}, Srt Y → (∀ a ∈ Y, p.1 < a.1) → (∀ u v w, Tri Y u v w → 0 < Ln u v w) → (∀ Y' u v, Y = u :: v :: Y' → 0 < Ln u v p) → ∀ u v, Adj Y u v → 0 < Ln u v p
  | [], _, _, _, _, u, v, ⟨l1, l2, e⟩ => by simp at e
  | [a], _, _, _, _, u, v, ⟨l1, l2, e⟩ => by
    cases l1 with
    | nil => simp at e
    | cons b l1 => simp at e
  | a :: b :: r, hs, hx, ht, hl, u, v, ⟨l1, l2, e⟩ => by
    have hs2 := (List.pairwise_cons.mp hs)
    have h0 := hl r a b rfl
    cases l1 with
    | nil => simp at e; obtain ⟨rfl, rfl, rfl⟩ := e; exact h0
    | cons d l1 =>
      simp at e
      refine rightAbove (Y := b :: r) hs2.2 (fun a ha => hx a (List.mem_cons_of_mem _ ha)) (fun u v w h => ht u v w h.tail) (fun Y' u' v' h => ?_) u v ⟨l1, l2, e.2⟩
      injection h with h1 h2
      subst h1; subst h2
      have hs3 := (List.pairwise_cons.mp hs2.2)
      exact Ln.step' (hx a (by simp)) (hs2.1 _ (List.mem_cons_self ..)) (hs3.1 _ (List.mem_cons_self ..)) (ht _ _ _ ⟨[], Y', rfl⟩) h0
theorem bel_false {a b c : Int × Int} (h : bel a b c = false) : Ln a b c ≤ 0 := by
  have : ¬ Ln a c b < 0 := fun q => by rw [(bel_iff a b c).mpr q] at h; cases h
  have e : Ln a b c = - Ln a c b := by unfold Ln; grind
  omega
theorem bel_true {a b c : Int × Int} (h : bel a b c = true) : 0 < Ln a b c := by
  have := (bel_iff a b c).mp h
  have e : Ln a b c = - Ln a c b := by unfold Ln; grind
  omega
theorem srt_get {l1 l2 : List (Int × Int)} {u v : Int × Int} (h : Srt (l1 ++ u :: v :: l2)) : u.1 < v.1 := by
  unfold Srt at h
  rw [List.pairwise_append] at h
  exact (List.pairwise_cons.mp h.2.1).1 v (List.mem_cons_self ..)
/-- what stands right of the last point that stays on the left -/
theorem leftNext {pre mid suf X D : List (Int × Int)} {p L M : Int × Int} {Z : List (Int × Int)} (hpre : pre = X ++ D) (hX : ∃ X', X = X' ++ [L]) (hD : ∀ m D', D = m :: D' → Ln L m p ≤ 0)
    (hmid : (mid = [] ∧ ∀ a b, pre.getLast? = some a → suf.head? = some b → Ln a b p < 0) ∨ ∃ h, mid = [h] ∧ h.1 = p.1 ∧ p.2 < h.2) (hL : L.1 < p.1) (hZ : D ++ mid ++ suf = M :: Z) : Ln L M p ≤ 0 := by
  obtain ⟨X', rfl⟩ := hX
  cases D with
  | cons m D' =>
    simp at hZ
    exact hZ.1 ▸ hD m D' rfl
  | nil =>
    rcases hmid with ⟨rfl, h⟩ | ⟨h, rfl, e1, e2⟩
    · simp at hZ
      exact Int.le_of_lt (h L M (by rw [hpre]; simp) (by rw [hZ]; rfl))
    · simp at hZ
      obtain ⟨rfl, _⟩ := hZ
      have e : Ln L h p = (p.1 - L.1) * (p.2 - h.2) := by unfold Ln; rw [e1]; grind
      rw [e]
      exact Int.mul_nonpos_of_nonneg_of_nonpos (by omega) (by omega)

end

section
theorem Ln.cyc (a b c : Int × Int) : Ln a b c = Ln b c a := by unfold Ln; grind
theorem farAbove {A B C : List (Int × Int)} {L M R : Int × Int} (hs : Srt (A ++ L :: M :: (B ++ R :: C))) (ht : ∀ u v w, Tri (A ++ L :: M :: (B ++ R :: C)) u v w → 0 < Ln u v w) : 0 < Ln L M R := by
  have e0 : A ++ L :: M :: (B ++ R :: C) = A ++ ((L :: M :: B) ++ R :: C) := by simp
  rw [e0] at hs
  unfold Srt at hs
  have h1 := (List.pairwise_append.mp hs).2.1
  have h2 := List.pairwise_append.mp h1
  refine leftAbove (X := L :: M :: B) h2.1 (fun a ha => h2.2.2 a ha R (List.mem_cons_self ..)) (fun u v w h => ?_) (fun X' u v h => ?_) L M ⟨[], B, rfl⟩
  · obtain ⟨l1, l2, e⟩ := h
    exact ht u v w ⟨A ++ l1, l2 ++ R :: C, by rw [e0, e]; simp⟩
  · exact ht u v R ⟨A ++ X', C, by rw [e0, h]; simp⟩
theorem Srt.app {A B : List (Int × Int)} (h : Srt (A ++ B)) : Srt A ∧ Srt B ∧ ∀ a ∈ A, ∀ b ∈ B, a.1 < b.1 := List.pairwise_append.mp h
theorem Tri.pre {α : Type} {A l : List α} {u v w : α} (h : Tri l u v w) : Tri (A ++ l) u v w := by
  obtain ⟨l1, l2, e⟩ := h; exact ⟨A ++ l1, l2, by rw [e]; simp⟩
theorem Tri.suf {α : Type} {A l : List α} {u v w : α} (h : Tri l u v w) : Tri (l ++ A) u v w := by
  obtain ⟨l1, l2, e⟩ := h; exact ⟨l1, l2 ++ A, by rw [e]; simp⟩
theorem Adj.pre {α : Type} {A l : List α} {u v : α} (h : Adj l u v) : Adj (A ++ l) u v := by
  obtain ⟨l1, l2, e⟩ := h; exact ⟨A ++ l1, l2, by rw [e]; simp⟩
theorem Adj.suf {α : Type} {A l : List α} {u v : α} (h : Adj l u v) : Adj (l ++ A) u v := by
  obtain ⟨l1, l2, e⟩ := h; exact ⟨l1, l2 ++ A, by rw [e]; simp⟩
theorem Inv.put {X W Y pts : List (Int × Int)} {p : Int × Int} (I : Inv (X ++ W ++ Y) pts)
    (hX : ∀ a ∈ X, a.1 < p.1) (hY : ∀ a ∈ Y, p.1 < a.1)
    (hXl : ∀ X' u v, X = X' ++ [u, v] → 0 < Ln u v p) (hYl : ∀ Y' u v, Y = u :: v :: Y' → 0 < Ln u v p)
    (w1 : ∀ X' L M Z, X = X' ++ [L] → W ++ Y = M :: Z → Ln L M p ≤ 0)
    (w2 : ∀ Y' R N Z, Y = R :: Y' → X ++ W = Z ++ [N] → Ln N R p ≤ 0)
    (w3 : ∀ X' L R Y', W = [] → X = X' ++ [L] → Y = R :: Y' → Ln L R p < 0)
    (w4 : X = [] → ∀ q ∈ pts, p.1 ≤ q.1) (w4' : Y = [] → ∀ q ∈ pts, q.1 ≤ p.1)
    (w5 : ∀ q ∈ pts, q.1 = p.1 → p.2 ≤ q.2) : Inv (X ++ p :: Y) (p :: pts) := by
  have hs : Srt (X ++ (W ++ Y)) := by have := I.srt; rwa [List.append_assoc] at this
  have ht : ∀ u v w, Tri (X ++ (W ++ Y)) u v w → 0 < Ln u v w := fun u v w h => I.cvx u v w (by rw [List.append_assoc]; exact h)
  have ha : ∀ u v, Adj (X ++ (W ++ Y)) u v → ∀ q ∈ pts, 0 ≤ Ln u v q := fun u v h => I.abv u v (by rw [List.append_assoc]; exact h)
  have sX : Srt X := hs.app.1
  have sWY : Srt (W ++ Y) := hs.app.2.1
  have sY : Srt Y := sWY.app.2.1
  have tX : ∀ u v w, Tri X u v w → 0 < Ln u v w := fun u v w h => ht u v w h.suf
  have tY : ∀ u v w, Tri Y u v w → 0 < Ln u v w := fun u v w h => ht u v w h.pre.pre
  have aX := leftAbove sX hX tX hXl
  have aY := rightAbove sY hY tY hYl
  have mH : ∀ h ∈ X ++ (W ++ Y), h ∈ pts := fun h hh => I.mem h (by rw [List.append_assoc]; exact hh)
  have hXY : ∀ a ∈ X, ∀ b ∈ Y, a.1 < b.1 := fun a h b h' => hs.app.2.2 a h b (List.mem_append.mpr (.inr h'))
  refine ⟨?_, ?_, ?_, ?_, ?_, ?_, ?_⟩
  · unfold Srt
    rw [List.pairwise_append, List.pairwise_cons]
    refine ⟨sX, ⟨hY, sY⟩, fun a h b h' => ?_⟩
    rcases List.mem_cons.mp h' with rfl | h'
    · exact hX a h
    · exact hXY a h b h'
  · intro h hh
    rcases List.mem_append.mp hh with hh | hh
    · exact List.mem_cons_of_mem _ (mH h (List.mem_append.mpr (.inl hh)))
    · rcases List.mem_cons.mp hh with rfl | hh
      · exact List.mem_cons_self ..
      · exact List.mem_cons_of_mem _ (mH h (by simp [hh]))
  · intro u v w hT
    rcases Tri.mid hT with h | ⟨⟨X', h⟩, rfl⟩ | ⟨h1, rfl, h2⟩ | ⟨rfl, Y', h⟩ | h
    · exact tX u v w h
    · exact hXl X' u v h
    · obtain ⟨X', rfl⟩ := List.getLast?_eq_some_iff.mp h1
      cases Y with
      | nil => simp at h2
      | cons R Y' =>
        simp at h2
        subst h2
        have hu : u.1 < v.1 := hX u (by simp)
        have hR : v.1 < R.1 := hY R (by simp)
        cases W with
        | nil =>
          have := w3 X' u R Y' rfl rfl rfl
          have e : Ln u v R = - Ln u R v := by unfold Ln; grind
          omega
        | cons M W' =>
          have e1 := w1 X' u M (W' ++ R :: Y') rfl rfl
          have hM : u.1 < M.1 := hs.app.2.2 u (by simp) M (by simp)
          have e2 : 0 < Ln u M R := farAbove (A := X') (B := W') (C := Y') (by simpa using hs) (fun a b c h => ht a b c (by simpa using h))
          have e3 : 0 < (v.1 - u.1) * Ln u M R := Int.mul_pos (by omega) e2
          have e4 : (R.1 - u.1) * Ln u M v ≤ 0 := Int.mul_nonpos_of_nonneg_of_nonpos (by omega) e1
          have e5 : (M.1 - u.1) * Ln u v R = (v.1 - u.1) * Ln u M R - (R.1 - u.1) * Ln u M v := by unfold Ln; grind
          have e6 : 0 < (M.1 - u.1) * Ln u v R := by omega
          exact Int.lt_of_mul_lt_mul_left (by rw [Int.mul_zero]; exact e6) (show (0 : Int) ≤ M.1 - u.1 by omega)
    · have := hYl Y' v w h
      rw [Ln.cyc]; exact this
    · exact tY u v w h
  · intro u v hT
    rcases Adj.mid hT with h | ⟨h, rfl⟩ | ⟨rfl, h⟩ | h
    · intro q hq
      rcases List.mem_cons.mp hq with rfl | hq
      · exact Int.le_of_lt (aX u v h)
      · exact ha u v h.suf q hq
    · intro q hq
      rcases List.mem_cons.mp hq with rfl | hq
      · have : Ln u q q = 0 := by unfold Ln; grind
        omega
      · obtain ⟨X', rfl⟩ := List.getLast?_eq_some_iff.mp h
        have hu : u.1 < v.1 := hX u (by simp)
        have huH : u ∈ X' ++ [u] ++ W ++ Y := by simp
        rcases Int.lt_trichotomy q.1 u.1 with c | c | c
        · cases hk : X'.getLast? with
          | none =>
            have : X' = [] := List.getLast?_eq_none_iff.mp hk
            subst this
            have := I.lo u rfl q hq
            omega
          | some K =>
            obtain ⟨X'', rfl⟩ := List.getLast?_eq_some_iff.mp hk
            have hKu : K.1 < u.1 := srt_get (l1 := X'') (l2 := []) (by simpa using sX)
            exact supL hKu hu (Int.le_of_lt c) (ha K u ⟨X'', W ++ Y, by simp⟩ q hq) (hXl X'' K u (by simp))
        · have e1 := I.low u huH q hq c
          have e2 : Ln u v q = (v.1 - u.1) * (q.2 - u.2) := by unfold Ln; rw [c]; grind
          rw [e2]
          exact Int.mul_nonneg (by omega) (by omega)
        · cases hw : W ++ Y with
          | nil =>
            have := I.hi u (by rw [List.append_assoc, hw]; simp) q hq
            omega
          | cons M Z =>
            have hM : u.1 < M.1 := hs.app.2.2 u (by simp) M (by rw [hw]; simp)
            exact supR hM hu (Int.le_of_lt c) (ha u M ⟨X', Z, by rw [hw]; simp⟩ q hq) (w1 X' u M Z rfl hw)
    · intro q hq
      rcases List.mem_cons.mp hq with rfl | hq
      · have : Ln q v q = 0 := by unfold Ln; grind
        omega
      · cases Y with
        | nil => simp at h
        | cons R Y' =>
          simp at h
          subst h
          have hu : u.1 < R.1 := hY R (by simp)
          have huH : R ∈ X ++ W ++ R :: Y' := by simp
          rcases Int.lt_trichotomy q.1 R.1 with c | c | c
          · cases hk : (X ++ W).getLast? with
            | none =>
              have e0 : X ++ W = [] := List.getLast?_eq_none_iff.mp hk
              have := I.lo R (by rw [e0]; rfl) q hq
              omega
            | some N =>
              obtain ⟨Z, e0⟩ := List.getLast?_eq_some_iff.mp hk
              have hN : N.1 < R.1 := srt_get (l1 := Z) (l2 := Y') (by have := I.srt; rw [e0] at this; simpa using this)
              exact supR' hN hu (Int.le_of_lt c) (I.abv N R ⟨Z, Y', by rw [e0]; simp⟩ q hq) (w2 Y' R N Z rfl e0)
          · have e1 := I.low R huH q hq c
            have e2 : Ln u R q = (R.1 - u.1) * (q.2 - R.2) := by unfold Ln; rw [c]; grind
            rw [e2]
            exact Int.mul_nonneg (by omega) (by omega)
          · cases Y' with
            | nil =>
              have := I.hi R (by simp) q hq
              omega
            | cons S Y'' =>
              have hRS : R.1 < S.1 := srt_get (l1 := []) (l2 := Y'') sY
              exact supL' hRS hu (Int.le_of_lt c) (I.abv R S ⟨X ++ W, Y'', by simp⟩ q hq) (hYl Y'' R S rfl)
    · intro q hq
      rcases List.mem_cons.mp hq with rfl | hq
      · exact Int.le_of_lt (aY u v h)
      · exact ha u v h.pre.pre q hq
  · intro h hh q hq
    cases X with
    | nil =>
      simp at hh
      subst hh
      rcases List.mem_cons.mp hq with rfl | hq
      · exact Int.le_refl _
      · exact w4 rfl q hq
    | cons x X =>
      simp at hh
      subst hh
      rcases List.mem_cons.mp hq with rfl | hq
      · exact Int.le_of_lt (hX _ (by simp))
      · exact I.lo x rfl q hq
  · intro h hh q hq
    cases hy : Y.getLast? with
    | none =>
      have : Y = [] := List.getLast?_eq_none_iff.mp hy
      subst this
      simp at hh
      subst hh
      rcases List.mem_cons.mp hq with rfl | hq
      · exact Int.le_refl _
      · exact w4' rfl q hq
    | some y =>
      obtain ⟨Y', rfl⟩ := List.getLast?_eq_some_iff.mp hy
      have e0 : X ++ p :: (Y' ++ [y]) = (X ++ p :: Y') ++ [y] := by simp
      rw [e0, List.getLast?_concat] at hh
      injection hh with hh
      subst hh
      rcases List.mem_cons.mp hq with rfl | hq
      · exact Int.le_of_lt (hY _ (by simp))
      · exact I.hi y (by rw [← List.append_assoc]; simp) q hq
  · intro b hB q hq e
    rcases List.mem_append.mp hB with hb | hB
    · rcases List.mem_cons.mp hq with rfl | hq
      · have := hX b hb; omega
      · exact I.low b (by simp [hb]) q hq e
    · rcases List.mem_cons.mp hB with rfl | hb
      · rcases List.mem_cons.mp hq with rfl | hq
        · exact Int.le_refl _
        · exact w5 q hq e
      · rcases List.mem_cons.mp hq with rfl | hq
        · have := hY b hb; omega
        · exact I.low b (by simp [hb]) q hq e
theorem Inv.fin {pre mid suf pts : List (Int × Int)} {p : Int × Int} (I : Inv (pre ++ mid ++ suf) pts) (hne : pre ++ mid ++ suf = [] → pts = [])
    (h3 : ∀ a ∈ pre, a.1 < p.1) (h4 : ∀ a ∈ suf, p.1 < a.1)
    (hmid : (mid = [] ∧ ∀ a b, pre.getLast? = some a → suf.head? = some b → Ln a b p < 0) ∨ ∃ h, mid = [h] ∧ h.1 = p.1 ∧ p.2 < h.2) : Inv (laidFin pre suf p) (p :: pts) := by
  obtain ⟨D₀, d1, d2, d3, d4⟩ := pruneL_spec p pre.reverse
  obtain ⟨E, e1, e2, e3, e4⟩ := pruneR_spec p suf
  unfold laidFin
  generalize pruneL p pre.reverse = XL at *
  generalize pruneR p suf = Y at *
  have hpre : pre = XL.reverse ++ D₀.reverse := by
    have := congrArg List.reverse d1
    rwa [List.reverse_reverse, List.reverse_append] at this
  have hX0 : XL.reverse = [] → pre = [] := fun h => by
    have h : XL = [] := by simpa using h
    exact Decidable.byContradiction fun q => d4 (by simpa using q) h
  have hY0 : Y = [] → suf = [] := fun h => Decidable.byContradiction fun q => e4 q h
  have hXl : ∀ X' u v, XL.reverse = X' ++ [u, v] → 0 < Ln u v p := fun X' u v h => by
    have := congrArg List.reverse h
    rw [List.reverse_reverse, List.reverse_append] at this
    exact bel_true (d2 v u X'.reverse (by simpa using this))
  have hYl : ∀ Y' u v, Y = u :: v :: Y' → 0 < Ln u v p := fun Y' u v h => by
    have := bel_true (e2 u v Y' h)
    rw [Ln.cyc] at this; exact this
  have hD : ∀ X' L m D', XL.reverse = X' ++ [L] → D₀.reverse = m :: D' → Ln L m p ≤ 0 := fun X' L m D' h h' => by
    have a1 := congrArg List.reverse h
    have a2 := congrArg List.reverse h'
    rw [List.reverse_reverse, List.reverse_append] at a1
    rw [List.reverse_reverse, List.reverse_cons] at a2
    exact bel_false (d3 D'.reverse m a2 L X'.reverse (by simpa using a1))
  have hE : ∀ Y' R m E', Y = R :: Y' → E = E' ++ [m] → Ln m R p ≤ 0 := fun Y' R m E' h h' => by
    have := bel_false (e3 E' m h' R Y' h)
    rw [Ln.cyc] at this; exact this
  generalize XL.reverse = X at *
  generalize D₀.reverse = D at *
  have I' : Inv (X ++ (D ++ mid ++ E) ++ Y) pts := by rw [hpre, e1] at I; simpa using I
  refine Inv.put I' (fun a ha => h3 a (by rw [hpre]; simp [ha])) (fun a ha => h4 a (by rw [e1]; simp [ha])) hXl hYl ?_ ?_ ?_ ?_ ?_ ?_
  · intro X' L M Z hx hz
    have hL : L.1 < p.1 := h3 L (by rw [hpre, hx]; simp)
    cases D with
    | cons m D' =>
      simp at hz
      rw [← hz.1]
      exact hD X' L m D' hx rfl
    | nil =>
      rcases hmid with ⟨rfl, h⟩ | ⟨h, rfl, f1, f2⟩
      · exact Int.le_of_lt (h L M (by rw [hpre, hx]; simp) (by rw [e1]; simp at hz; rw [hz]; rfl))
      · simp at hz
        obtain ⟨rfl, _⟩ := hz
        have e : Ln L h p = (p.1 - L.1) * (p.2 - h.2) := by unfold Ln; rw [f1]; grind
        rw [e]
        exact Int.mul_nonpos_of_nonneg_of_nonpos (by omega) (by omega)
  · intro Y' R N Z hy hz
    have hR : p.1 < R.1 := h4 R (by rw [e1, hy]; simp)
    cases hE' : E.getLast? with
    | some m =>
      obtain ⟨E', rfl⟩ := List.getLast?_eq_some_iff.mp hE'
      have e : X ++ (D ++ mid ++ (E' ++ [m])) = (X ++ (D ++ mid ++ E')) ++ [m] := by simp
      rw [e] at hz
      have := List.append_inj_right' hz rfl
      simp at this
      rw [← this]
      exact hE Y' R m E' hy rfl
    | none =>
      have : E = [] := List.getLast?_eq_none_iff.mp hE'
      subst this
      rcases hmid with ⟨rfl, h⟩ | ⟨h, rfl, f1, f2⟩
      · refine Int.le_of_lt (h N R ?_ (by rw [e1, hy]; rfl))
        rw [hpre]
        simp at hz
        rw [hz]; simp
      · have e : X ++ (D ++ [h] ++ []) = (X ++ D) ++ [h] := by simp
        rw [e] at hz
        have := List.append_inj_right' hz rfl
        simp at this
        rw [← this]
        have e : Ln h R p = (R.1 - h.1) * (p.2 - h.2) := by unfold Ln; rw [f1]; grind
        rw [e]
        exact Int.mul_nonpos_of_nonneg_of_nonpos (by omega) (by omega)
  · intro X' L R Y' hw hx hy
    simp at hw
    obtain ⟨rfl, rfl, rfl⟩ := hw
    rcases hmid with ⟨_, h⟩ | ⟨h, e, _⟩
    · exact h L R (by rw [hpre, hx]; simp) (by rw [e1, hy]; rfl)
    · cases e
  · intro hx q hq
    have := hX0 hx
    rw [this] at I hne
    rcases hmid with ⟨rfl, _⟩ | ⟨h, rfl, f1, f2⟩
    · cases suf with
      | nil => rw [hne rfl] at hq; cases hq
      | cons b r =>
        have a1 := I.lo b rfl q hq
        have a2 := h4 b (by simp)
        omega
    · have := I.lo h rfl q hq
      omega
  · intro hy q hq
    have := hY0 hy
    rw [this] at I hne
    rw [List.append_nil] at I hne
    rcases hmid with ⟨rfl, _⟩ | ⟨h, rfl, f1, f2⟩
    · rw [List.append_nil] at I hne
      cases hl : pre.getLast? with
      | none =>
        rw [hne (List.getLast?_eq_none_iff.mp hl)] at hq; cases hq
      | some a =>
        have a1 := I.hi a hl q hq
        have a2 := h3 a (List.mem_of_getLast? hl)
        omega
    · have := I.hi h (by simp) q hq
      omega
  · intro q hq e
    rcases hmid with ⟨rfl, h⟩ | ⟨h, rfl, f1, f2⟩
    · rw [List.append_nil] at I hne
      cases hl : pre.getLast? with
      | none =>
        have e0 := List.getLast?_eq_none_iff.mp hl
        rw [e0] at I hne
        cases suf with
        | nil => rw [hne rfl] at hq; cases hq
        | cons b r =>
          have a1 := I.lo b rfl q hq
          have a2 := h4 b (by simp)
          omega
      | some a =>
        have a2 := h3 a (List.mem_of_getLast? hl)
        cases suf with
        | nil =>
          rw [List.append_nil] at I
          have a1 := I.hi a hl q hq
          omega
        | cons b r =>
          have a3 := h4 b (by simp)
          have a4 := h a b hl rfl
          obtain ⟨l1, rfl⟩ := List.getLast?_eq_some_iff.mp hl
          have a5 := I.abv a b ⟨l1, r, by simp⟩ q hq
          have a6 : Ln a b q = Ln a b p + (b.1 - a.1) * (q.2 - p.2) := by unfold Ln; rw [e]; grind
          have a7 : 0 < (b.1 - a.1) * (q.2 - p.2) := by omega
          have a8 : 0 < q.2 - p.2 := Int.pos_of_mul_pos_right a7 (by omega)
          omega
    · have := I.low h (by simp) q hq (by omega)
      omega
theorem Inv.keep {hull pts : List (Int × Int)} {p : Int × Int} (I : Inv hull pts) (ha : ∀ u v, Adj hull u v → 0 ≤ Ln u v p) (hlo : ∃ a ∈ hull, a.1 ≤ p.1) (hhi : ∃ b ∈ hull, p.1 ≤ b.1) (hw : ∀ b ∈ hull, p.1 = b.1 → b.2 ≤ p.2) : Inv hull (p :: pts) := by
  refine ⟨I.srt, fun h hh => List.mem_cons_of_mem _ (I.mem h hh), I.cvx, fun u v h q hq => ?_, fun h hh q hq => ?_, fun h hh q hq => ?_, fun b hb q hq e => ?_⟩
  · rcases List.mem_cons.mp hq with rfl | hq
    · exact ha u v h
    · exact I.abv u v h q hq
  · rcases List.mem_cons.mp hq with rfl | hq
    · obtain ⟨a, h1, h2⟩ := hlo
      have := I.lo h hh a (I.mem a h1)
      omega
    · exact I.lo h hh q hq
  · rcases List.mem_cons.mp hq with rfl | hq
    · obtain ⟨a, h1, h2⟩ := hhi
      have := I.hi h hh a (I.mem a h1)
      omega
    · exact I.hi h hh q hq
  · rcases List.mem_cons.mp hq with rfl | hq
    · exact hw b hb e
    · exact I.low b hb q hq e
theorem Adj.srt {l : List (Int × Int)} {u v : Int × Int} (h : Adj l u v) (s : Srt l) : u.1 < v.1 := by
  obtain ⟨l1, l2, rfl⟩ := h; exact srt_get s
theorem Inv.laid {hull pts : List (Int × Int)} (I : Inv hull pts) (hne : hull = [] → pts = []) (p : Int × Int) : Inv (laid hull p) (p :: pts) := by
  obtain ⟨i1, i2, i3, i4, i5⟩ := split_lt I.srt p
  unfold Mine.laid
  generalize (hull.takeWhile fun q => q.1 < p.1) = pre at *
  generalize (hull.dropWhile fun q => q.1 < p.1) = suf at *
  subst i5
  unfold laidAt
  cases suf with
  | nil => exact Inv.fin (mid := []) (by simpa using I) (by simpa using hne) i3 (by simp) (.inl ⟨rfl, by simp⟩)
  | cons b r =>
    have hb := i4 b (List.mem_cons_self ..)
    have hr := List.pairwise_cons.mp i2
    have hbm : b ∈ pre ++ b :: r := by simp
    dsimp only
    split
    · rename_i e
      split
      · rename_i e'
        refine I.keep (fun u v h => ?_) ⟨b, hbm, by omega⟩ ⟨b, hbm, by omega⟩ (fun b' hb' h => ?_)
        · have a1 := I.abv u v h b (I.mem b hbm)
          have a2 : Ln u v p = Ln u v b + (v.1 - u.1) * (p.2 - b.2) := by unfold Ln; rw [e]; grind
          have a3 : 0 ≤ (v.1 - u.1) * (p.2 - b.2) := Int.mul_nonneg (by have := h.srt I.srt; omega) (by omega)
          omega
        · have := I.low b' hb' b (I.mem b hbm) (by omega)
          omega
      · rename_i e'
        exact Inv.fin (mid := [b]) (by simpa using I) (by simp) i3 (fun a ha => by have := hr.1 a ha; omega) (.inr ⟨b, rfl, e, by omega⟩)
    · rename_i e
      have h4 : ∀ a ∈ b :: r, p.1 < a.1 := fun a ha => by
        rcases List.mem_cons.mp ha with rfl | ha
        · omega
        · have := hr.1 a ha; omega
      cases hl : pre.getLast? with
      | none => exact Inv.fin (mid := []) (by simpa using I) (by simp) i3 h4 (.inl ⟨rfl, by simp [hl]⟩)
      | some a =>
        dsimp only
        have ha := i3 a (List.mem_of_getLast? hl)
        split
        · rename_i hc
          refine Inv.fin (mid := []) (by simpa using I) (by simp) i3 h4 (.inl ⟨rfl, fun a' b' h h' => ?_⟩)
          rw [hl] at h
          injection h with h
          injection h' with h'
          subst h; subst h'
          exact (bel_iff _ _ _).mp hc
        · rename_i hc
          have h0 : 0 ≤ Ln a b p := by
            have : ¬ Ln a b p < 0 := fun q => hc ((bel_iff _ _ _).mpr q)
            omega
          have ham : a ∈ pre ++ b :: r := List.mem_append.mpr (.inl (List.mem_of_getLast? hl))
          have hbp := h4 b (by simp)
          refine I.keep (fun u v h => ?_) ⟨a, ham, by omega⟩ ⟨b, hbm, by omega⟩ (fun b' hb' h => ?_)
          · have a1 := I.abv u v h a (I.mem a ham)
            have a2 := I.abv u v h b (I.mem b hbm)
            have huv := h.srt I.srt
            have b1 : 0 ≤ (v.1 - u.1) * Ln a b p := Int.mul_nonneg (by omega) h0
            have b2 : 0 ≤ (b.1 - p.1) * Ln u v a := Int.mul_nonneg (by omega) a1
            have b3 : 0 ≤ (p.1 - a.1) * Ln u v b := Int.mul_nonneg (by omega) a2
            have b4 : (b.1 - a.1) * Ln u v p = (v.1 - u.1) * Ln a b p + (b.1 - p.1) * Ln u v a + (p.1 - a.1) * Ln u v b := by unfold Ln; grind
            have b5 : 0 ≤ (b.1 - a.1) * Ln u v p := by omega
            exact Int.nonneg_of_mul_nonneg_right b5 (by omega)
          · rcases List.mem_append.mp hb' with hb' | hb'
            · have := i3 b' hb'; omega
            · have := h4 b' hb'; omega
theorem laid_ne (hull : List (Int × Int)) (p : Int × Int) : laid hull p ≠ [] := by
  unfold Mine.laid laidAt
  split
  · simp [laidFin]
  · split
    · split
      · simp
      · simp [laidFin]
    · split
      · simp [laidFin]
      · split
        · simp [laidFin]
        · simp
theorem hullOf_inv : ∀ ps : List (Int × Int), Inv (hullOf ps.reverse) ps ∧ (hullOf ps.reverse = [] → ps = [])
  | [] => by
    refine ⟨⟨List.Pairwise.nil, fun h hh => by simp [hullOf] at hh, fun u v w ⟨l1, l2, h⟩ => by simp [hullOf] at h, fun u v ⟨l1, l2, h⟩ => by simp [hullOf] at h, fun h hh => by simp [hullOf] at hh, fun h hh => by simp [hullOf] at hh, fun h hh => by simp [hullOf] at hh⟩, fun _ => rfl⟩
  | p :: ps => by
    obtain ⟨I, hne⟩ := hullOf_inv ps
    rw [List.reverse_cons, hullOf_snoc]
    exact ⟨I.laid hne p, fun h => absurd h (laid_ne _ _)⟩

end

section
local macro_rules | `(tactic| walk_at "no such key") => `(tactic| skip)
/-- a tree of questions whose answers are known: all that is asked lies below n, the end has P -/
noncomputable def KG {α : Type} (rk : Nat → Int) (n : Nat) : KasT α → (α → Prop) → Prop
  | .ret a, P => P a
  | .ask i j k, P => i < n ∧ j < n ∧ KG rk n (k (decide (rk i < rk j))) P
theorem KG.bind {α β : Type} {rk : Nat → Int} {n : Nat} {f : α → KasT β} {P : β → Prop} : ∀ {t : KasT α}, KG rk n t (fun a => KG rk n (f a) P) → KG rk n (t.bind f) P
  | .ret _, h => h
  | .ask _ _ _, h => ⟨h.1, h.2.1, KG.bind h.2.2⟩
theorem KG.mono {α : Type} {rk : Nat → Int} {n : Nat} {P P' : α → Prop} (hp : ∀ a, P a → P' a) : ∀ {t : KasT α}, KG rk n t P → KG rk n t P'
  | .ret _, h => hp _ h
  | .ask _ _ _, h => ⟨h.1, h.2.1, KG.mono hp h.2.2⟩
theorem KG.wp {α : Type} {rk : Nat → Int} {n : Nat} {P : α → Prop} {cmp : Nat → Nat → (Bool → Shared → Prop) → Shared → Prop} {Q : α → Shared → Prop} {s : Shared}
    (hc : ∀ i j (C : Bool → Shared → Prop), i < n → j < n → C (decide (rk i < rk j)) s → cmp i j C s) (hq : ∀ a, P a → Q a s) : ∀ {t : KasT α}, KG rk n t P → t.kasWp cmp Q s
  | .ret _, h => hq _ h
  | .ask i j k, h => hc i j _ h.1 h.2.1 (KG.wp hc hq h.2.2)
noncomputable def KK9 (rk : Nat → Int) (p : Array Nat) (i : Nat) : Int := rk (p.getD i 0)
theorem KK9.congr {rk : Nat → Int} {p q : Array Nat} {i j : Nat} (h : p[i]? = q[j]?) : KK9 rk p i = KK9 rk q j := by
  unfold KK9; rw [Array.getD_eq_getD_getElem?, Array.getD_eq_getD_getElem?, h]
theorem KK9.bubble {rk : Nat → Int} {xs : Array Nat} {src d : Nat} (hs : src < xs.size) (hd : d ≤ src) (k : Nat) :
    KK9 rk (bubble xs src d) k = if k = src - d then KK9 rk xs src else if src - d < k ∧ k ≤ src then KK9 rk xs (k - 1) else KK9 rk xs k := by
  have e := getElem?_bubble hs d hd k
  by_cases h1 : k = src - d
  · rw [if_pos h1] at e ⊢; exact KK9.congr e
  · rw [if_neg h1] at e ⊢
    by_cases h2 : src - d < k ∧ k ≤ src
    · rw [if_pos h2] at e ⊢; exact KK9.congr e
    · rw [if_neg h2] at e ⊢; exact KK9.congr e
theorem KK9.rev {rk : Nat → Int} {xs : Array Nat} {i j : Nat} (hj : j ≤ xs.size) (k : Nat) :
    KK9 rk (kas_rev xs i j) k = if i ≤ k ∧ k < j then KK9 rk xs (i + j - 1 - k) else KK9 rk xs k := by
  have e := getElem?_mirror_all (i := i) hj k
  by_cases h1 : i ≤ k ∧ k < j
  · rw [if_pos h1] at e ⊢; exact KK9.congr e
  · rw [if_neg h1] at e ⊢; exact KK9.congr e
theorem KK9.rev_equal {rk : Nat → Int} {xs : Array Nat} {i j : Nat} (hj : j ≤ xs.size) (heq : ∀ k, i ≤ k → k < j → KK9 rk xs k = KK9 rk xs (j - 1)) (k : Nat) :
    KK9 rk (kas_rev xs i j) k = KK9 rk xs k := by
  rw [KK9.rev hj]
  split
  · rw [heq _ (by omega) (by omega), heq k (by omega) (by omega)]
  · rfl
noncomputable def Up9 (rk : Nat → Int) (p : Array Nat) (k : Nat) : Prop := ∀ i j, i ≤ j → j < k → KK9 rk p i ≤ KK9 rk p j
noncomputable def Dn9 (rk : Nat → Int) (p : Array Nat) (k : Nat) : Prop := ∀ i j, i ≤ j → j < k → KK9 rk p j ≤ KK9 rk p i
noncomputable def PB (n : Nat) (p : Array Nat) : Prop := p.Perm (List.range n).toArray
theorem PB.size {n : Nat} {p : Array Nat} (h : PB n p) : p.size = n := by have := h.size_eq; simpa using this
theorem PB.lt {n i : Nat} {p : Array Nat} (h : PB n p) (hi : i < n) : p.getD i 0 < n := by
  have hs : i < p.size := by rw [h.size]; exact hi
  have e : p.getD i 0 = p[i] := by simp [Array.getD, hs]
  have hm : p[i] ∈ p := Array.getElem_mem hs
  have := h.mem_iff.mp hm
  rw [e]; simpa using this
theorem PB.rev {n i j : Nat} {p : Array Nat} (h : PB n p) : PB n (kas_rev p i j) := (mirror_perm _ _ _ _).trans h
theorem PB.bubble {n i j : Nat} {p : Array Nat} (h : PB n p) : PB n (bubble p i j) := (bubble_perm _ _ _).trans h
section
variable {rk : Nat → Int} {n : Nat}
theorem kg_asc {p : Array Nat} (hp : PB n p) : ∀ (f a : Nat) {P : Nat → Prop}, 1 ≤ a → a + f ≤ n → Up9 rk p a → (∀ m, a ≤ m → m ≤ a + f → Up9 rk p m → (m = a + f ∨ KK9 rk p m < KK9 rk p (m - 1)) → P m) → KG rk n (kas_asc p f a) P
  | 0, a, P, h1, h2, hs, h => h a (Nat.le_refl _) (Nat.le_refl _) hs (.inl rfl)
  | f + 1, a, P, h1, h2, hs, h => by
    refine ⟨hp.lt (by omega), hp.lt (by omega), ?_⟩
    by_cases hc : KK9 rk p a < KK9 rk p (a - 1)
    · rw [show decide (rk (p.getD a 0) < rk (p.getD (a - 1) 0)) = true from decide_eq_true hc]; simp only [if_true]
      exact h a (Nat.le_refl _) (by omega) hs (.inr hc)
    · rw [show decide (rk (p.getD a 0) < rk (p.getD (a - 1) 0)) = false from decide_eq_false hc]; simp only [Bool.false_eq_true, if_false]
      refine kg_asc hp f (a + 1) (by omega) (by omega) (fun i j hij hj => ?_) fun m m1 m2 m3 m4 => h m (by omega) (by omega) m3 (m4.imp (fun h => by omega) fun h => h)
      by_cases hja : j < a
      · exact hs i j hij hja
      · have : j = a := by omega
        subst this
        by_cases hi : i = j
        · subst hi; exact Int.le_refl _
        · have := hs i (j - 1) (by omega) (by omega); omega
theorem kg_desc : ∀ (f a q : Nat) {p : Array Nat} {P : Array Nat × Nat × Nat → Prop}, PB n p → 1 ≤ a → a + f ≤ n → Dn9 rk p a → q + 1 ≤ a → (∀ i, a - (q + 1) ≤ i → i < a → KK9 rk p i = KK9 rk p (a - 1)) →
    (∀ p' m q', PB n p' → a ≤ m → m ≤ a + f → Dn9 rk p' m → q' + 1 ≤ m → (∀ i, m - (q' + 1) ≤ i → i < m → KK9 rk p' i = KK9 rk p' (m - 1)) → P (p', m, q')) → KG rk n (kas_desc f p a q) P
  | 0, a, q, p, P, hp, h1, h2, hs, hq, he, h => h p a q hp (Nat.le_refl _) (Nat.le_refl _) hs hq he
  | f + 1, a, q, p, P, hp, h1, h2, hs, hq, he, h => by
    refine ⟨hp.lt (by omega), hp.lt (by omega), ?_⟩
    have hsz : a ≤ p.size := by rw [hp.size]; omega
    by_cases hc : KK9 rk p a < KK9 rk p (a - 1)
    · rw [show decide (rk (p.getD a 0) < rk (p.getD (a - 1) 0)) = true from decide_eq_true hc]; simp only [if_true]
      have step : ∀ xs : Array Nat, PB n xs → (∀ k, KK9 rk xs k = KK9 rk p k) → KG rk n (kas_desc f xs (a + 1) 0) P := fun xs hx hk => by
        refine kg_desc f (a + 1) 0 hx (by omega) (by omega) (fun i j hij hj => ?_) (by omega) (fun i h1 h2 => by congr 1; omega) fun p' m q' a1 a2 a3 a4 a5 a6 => h p' m q' a1 (by omega) (by omega) a4 a5 a6
        rw [hk, hk]
        by_cases hja : j < a
        · exact hs i j hij hja
        · have : j = a := by omega
          subst this
          by_cases hi : i = j
          · subst hi; exact Int.le_refl _
          · have := hs i (j - 1) (by omega) (by omega); omega
      by_cases hq0 : q > 0
      · rw [if_pos hq0]; exact step _ hp.rev (KK9.rev_equal hsz he)
      · rw [if_neg hq0]; exact step _ hp fun _ => rfl
    · rw [show decide (rk (p.getD a 0) < rk (p.getD (a - 1) 0)) = false from decide_eq_false hc]; simp only [Bool.false_eq_true, if_false]
      refine ⟨hp.lt (by omega), hp.lt (by omega), ?_⟩
      by_cases hd : KK9 rk p (a - 1) < KK9 rk p a
      · rw [show decide (rk (p.getD (a - 1) 0) < rk (p.getD a 0)) = true from decide_eq_true hd]; simp only [if_true]
        exact h p a q hp (Nat.le_refl _) (by omega) hs hq he
      · rw [show decide (rk (p.getD (a - 1) 0) < rk (p.getD a 0)) = false from decide_eq_false hd]; simp only [Bool.false_eq_true, if_false]
        have hex : KK9 rk p a = KK9 rk p (a - 1) := by omega
        refine kg_desc f (a + 1) (q + 1) hp (by omega) (by omega) (fun i j hij hj => ?_) (by omega) (fun i h1 h2 => ?_) fun p' m q' a1 a2 a3 a4 a5 a6 => h p' m q' a1 (by omega) (by omega) a4 a5 a6
        · by_cases hja : j < a
          · exact hs i j hij hja
          · have : j = a := by omega
            subst this
            by_cases hi : i = j
            · subst hi; exact Int.le_refl _
            · rw [hex]; exact hs i (j - 1) (by omega) (by omega)
        · rw [show a + 1 - 1 = a by omega]
          by_cases hia : i = a
          · subst hia; rfl
          · rw [hex]; exact he i (by omega) (by omega)
theorem kg_tail3 {p : Array Nat} {a : Nat} {P : Nat × Array Nat → Prop} (hp : PB n p) (h1 : 1 ≤ a) (h2 : a ≤ n) (hs : Dn9 rk p a) (h : ∀ m p', PB n p' → 1 ≤ m → m ≤ n → Up9 rk p' m → P (m, p')) : KG rk n (kas_tail3 a n p) P := by
  unfold kas_tail3
  have hsz : a ≤ p.size := by rw [hp.size]; omega
  refine KG.bind (kg_asc hp.rev (n - a) a h1 (by omega) (fun i j hij hj => ?_) fun m m1 m2 m3 _ => h m _ hp.rev (by omega) (by omega) m3)
  rw [KK9.rev hsz, KK9.rev hsz, if_pos (by omega), if_pos (by omega)]
  exact hs _ _ (by omega) (by omega)
theorem kg_descPart {p : Array Nat} {a : Nat} {P : Nat × Array Nat → Prop} (hp : PB n p) (h2 : a + 1 ≤ n) (hs : Dn9 rk p (a + 1)) (h : ∀ m p', PB n p' → 1 ≤ m → m ≤ n → Up9 rk p' m → P (m, p')) : KG rk n (kas_descPart a n p) P := by
  unfold kas_descPart
  refine KG.bind (kg_desc (n - (a + 1)) (a + 1) 0 hp (by omega) (by omega) hs (by omega) (fun i h1 h2 => by congr 1; omega) fun p' m q' a1 a2 a3 a4 a5 a6 => ?_)
  dsimp only
  have hsz : m ≤ p'.size := by rw [a1.size]; omega
  by_cases hq : q' > 0
  · rw [if_pos hq]
    refine kg_tail3 a1.rev (by omega) (by omega) (fun i j hij hj => ?_) h
    rw [KK9.rev_equal hsz a6, KK9.rev_equal hsz a6]
    exact a4 i j hij hj
  · rw [if_neg hq]
    exact kg_tail3 a1 (by omega) (by omega) a4 h
theorem kg_count {p : Array Nat} {P : Nat × Array Nat → Prop} (hp : PB n p) (h1 : 1 ≤ n) (h : ∀ m p', PB n p' → 1 ≤ m → m ≤ n → Up9 rk p' m → P (m, p')) : KG rk n (kas_count n p) P := by
  unfold kas_count
  refine KG.bind (kg_asc hp (n - 1) 1 (by omega) (by omega) (fun i j hij hj => by have : i = j := (by omega); subst this; exact Int.le_refl _) fun m m1 m2 m3 m4 => ?_)
  by_cases hmn : m = n
  · rw [if_pos (by simpa using hmn)]
    exact h m p hp m1 (by omega) m3
  · rw [if_neg (by simpa using hmn)]
    have hlt : KK9 rk p m < KK9 rk p (m - 1) := m4.resolve_left (by omega)
    by_cases hgt : m > 1
    · rw [if_pos hgt]
      refine ⟨hp.lt (by omega), hp.lt (by omega), ?_⟩
      by_cases hc : KK9 rk p 0 < KK9 rk p (m - 1)
      · rw [show decide (rk (p.getD 0 0) < rk (p.getD (m - 1) 0)) = true from decide_eq_true hc]; simp only [if_true]
        exact h m p hp m1 (by omega) m3
      · rw [show decide (rk (p.getD 0 0) < rk (p.getD (m - 1) 0)) = false from decide_eq_false hc]; simp only [Bool.false_eq_true, if_false]
        have hsz : m ≤ p.size := by rw [hp.size]; omega
        have hall : ∀ k, 0 ≤ k → k < m → KK9 rk p k = KK9 rk p (m - 1) := by
          intro k _ hk
          have a1 := m3 0 k (by omega) hk
          have a2 := m3 k (m - 1) (by omega) (by omega)
          omega
        refine kg_descPart hp.rev (by omega) (fun i j hij hj => ?_) h
        rw [KK9.rev_equal hsz hall, KK9.rev_equal hsz hall]
        by_cases hjn : j < m
        · rw [hall i (by omega) (by omega), hall j (by omega) hjn]; exact Int.le_refl _
        · have : j = m := by omega
          subst this
          by_cases hi : i = j
          · subst hi; exact Int.le_refl _
          · rw [hall i (by omega) (by omega)]; omega
    · rw [if_neg hgt]
      have : m = 1 := by omega
      subst this
      refine kg_descPart hp (by omega) (fun i j hij hj => ?_) h
      by_cases hi : i = j
      · subst hi; exact Int.le_refl _
      · have hi0 : i = 0 := by omega
        have hj1 : j = 1 := by omega
        subst hi0; subst hj1
        exact Int.le_of_lt hlt
theorem kg_place {p : Array Nat} {k : Nat} (hp : PB n p) (hk : k < n) (hs : Up9 rk p k) : ∀ (f l r : Nat) {P : Nat → Prop}, l ≤ r → r ≤ k → r - l ≤ f → (∀ i, i < l → KK9 rk p i ≤ KK9 rk p k) → (∀ i, r ≤ i → i < k → KK9 rk p k < KK9 rk p i) →
    (∀ l, l ≤ k → (∀ i, i < l → KK9 rk p i ≤ KK9 rk p k) → (∀ i, l ≤ i → i < k → KK9 rk p k < KK9 rk p i) → P l) → KG rk n (kas_place p k f l r) P
  | 0, l, r, P, h1, h2, h3, hlo, hhi, h => h l (by omega) hlo fun i a b => hhi i (by omega) b
  | f + 1, l, r, P, h1, h2, h3, hlo, hhi, h => by
    unfold kas_place
    by_cases hge : l ≥ r
    · rw [if_pos hge]
      exact h l (by omega) hlo fun i a b => hhi i (by omega) b
    · rw [if_neg hge]
      refine ⟨hp.lt (by omega), hp.lt (by omega), ?_⟩
      by_cases hc : KK9 rk p k < KK9 rk p ((l + r) / 2)
      · rw [show decide (rk (p.getD k 0) < rk (p.getD ((l + r) / 2) 0)) = true from decide_eq_true hc]; simp only [if_true]
        refine kg_place hp hk hs f l ((l + r) / 2) (by omega) (by omega) (by omega) hlo (fun i a b => ?_) h
        have := hs _ _ a b; omega
      · rw [show decide (rk (p.getD k 0) < rk (p.getD ((l + r) / 2) 0)) = false from decide_eq_false hc]; simp only [Bool.false_eq_true, if_false]
        refine kg_place hp hk hs f ((l + r) / 2 + 1) r (by omega) (by omega) (by omega) (fun i a => ?_) hhi h
        have := hs i ((l + r) / 2) (by omega) (by omega); omega
theorem kg_bin : ∀ (f k : Nat) {p : Array Nat} {P : Array Nat → Prop}, PB n p → k + f = n → Up9 rk p k → (∀ p', PB n p' → Up9 rk p' n → P p') → KG rk n (kas_bin f p k) P
  | 0, k, p, P, hp, hk, hs, h => h p hp (by rw [← hk]; exact hs)
  | f + 1, k, p, P, hp, hk, hs, h => by
    unfold kas_bin
    refine KG.bind (kg_place hp (by omega) hs k 0 k (by omega) (by omega) (by omega) (fun i hi => by omega) (fun i a b => by omega) fun l hlk hlo hhi => ?_)
    have hks : k < p.size := by rw [hp.size]; omega
    refine kg_bin f (k + 1) hp.bubble (by omega) (fun i j hij hj => ?_) h
    rw [KK9.bubble hks (by omega), KK9.bubble hks (by omega), show k - (k - l) = l by omega]
    repeat' split
    all_goals first
      | (exfalso; omega)
      | exact Int.le_refl _
      | exact hlo _ (by omega)
      | exact Int.le_of_lt (hhi _ (by omega) (by omega))
      | exact hs _ _ (by omega) (by omega)
theorem kg_sort {P : Array Nat → Prop} (h1 : 1 ≤ n) (h : ∀ p', PB n p' → Up9 rk p' n → P p') : KG rk n (kas_sort n) P := by
  unfold kas_sort
  refine KG.bind (kg_count (Array.Perm.refl _) h1 fun m p' hp m1 m2 m3 => ?_)
  dsimp only
  by_cases hm : m < n
  · rw [if_pos hm]
    exact kg_bin _ _ hp (by omega) (by rw [show max m 1 = m by omega]; exact m3) h
  · rw [if_neg hm]
    have : m = n := by omega
    exact h p' hp (this ▸ m3)
end

end

section
noncomputable def enc9 (p : Int × Int) : Int := p.1 * 2000 + p.2
noncomputable def LexLe (a b : Int × Int) : Prop := a.1 < b.1 ∨ (a.1 = b.1 ∧ a.2 ≤ b.2)
noncomputable def Sml (p : Int × Int) : Prop := 0 ≤ p.1 ∧ p.1 ≤ 1000 ∧ 0 ≤ p.2 ∧ p.2 ≤ 1000
theorem enc_lt {a b : Int × Int} (ha : Sml a) (hb : Sml b) : decide (enc9 a < enc9 b) = if a.1 = b.1 then (if a.2 = b.2 then false else decide (a.2 < b.2)) else decide (a.1 < b.1) := by
  unfold Sml at ha hb; unfold enc9
  by_cases h1 : a.1 = b.1
  · rw [if_pos h1]
    by_cases h2 : a.2 = b.2
    · rw [if_pos h2]; exact decide_eq_false (by omega)
    · rw [if_neg h2, decide_eq_decide]; omega
  · rw [if_neg h1, decide_eq_decide]; omega
theorem enc_le {a b : Int × Int} (ha : Sml a) (hb : Sml b) (h : enc9 a ≤ enc9 b) : LexLe a b := by
  unfold Sml at ha hb; unfold enc9 at h; unfold LexLe; omega
noncomputable def rk9 (ps : List (Int × Int)) (i : Nat) : Int := match ps[i]? with | some p => enc9 p | none => 0
theorem tups_firsts {h : Heap} {h₀ : Heap} {L : Addr} {news : List (Addr × Obj)} (N : News h₀ L h news) : ∀ (vs : List Value) (ps : List (Int × Int)), All2 (Tup2 news) vs ps → ∃ fs, KatTups h vs fs ∧ fs.length = vs.length ∧ ∀ v ∈ fs, ∃ n t, v = .int n t
  | [], ps, hA => ⟨[], .nil, rfl, fun v hv => nomatch hv⟩
  | v :: vs, [], hA => by have := hA.1; simp at this
  | v :: vs, p :: ps, hA => by
    obtain ⟨v', r, e, hv, hr⟩ := hA.uncons
    injection e with e1 e2; subst e1; subst e2
    obtain ⟨a, n, t, u, rfl, hm⟩ := hv
    obtain ⟨fs, h1, h2, h3⟩ := tups_firsts N vs ps hr
    refine ⟨.int p.1 t :: fs, KatTups.cons (N _ hm).1 rfl rfl rfl h1, by simp [h2], fun v hv => ?_⟩
    rcases List.mem_cons.mp hv with rfl | hv
    · exact ⟨_, _, rfl⟩
    · exact h3 v hv
theorem ask_tups {A : Around} {s : Shared} {h₀ : Heap} {L : Addr} {news : List (Addr × Obj)} {vs : List Value} {ps : List (Int × Int)} (N : News h₀ L s.heap news) (hA : All2 (Tup2 news) vs ps) (hs : ∀ p ∈ ps, Sml p) (i j : Nat) (C : Bool → Shared → Prop) (hi : i < vs.length) (hj : j < vs.length)
    (h : C (decide (rk9 ps i < rk9 ps j)) s) : kas_ask prog w A (tuples' true) vs i j C s := by
  have hi' : i < ps.length := hA.1 ▸ hi
  have hj' : j < ps.length := hA.1 ▸ hj
  have ea : rk9 ps i = enc9 ps[i] := by unfold rk9; rw [List.getElem?_eq_getElem hi']
  have eb : rk9 ps j = enc9 ps[j] := by unfold rk9; rw [List.getElem?_eq_getElem hj']
  rw [ea, eb, enc_lt (hs _ (List.getElem_mem hi')) (hs _ (List.getElem_mem hj'))] at h
  obtain ⟨va, hva, a1, n1, t1, u1, rfl, m1⟩ := hA.get (List.getElem?_eq_getElem hi')
  obtain ⟨vb, hvb, a2, n2, t2, u2, rfl, m2⟩ := hA.get (List.getElem?_eq_getElem hj')
  unfold kas_ask
  rw [List.getD_eq_getElem?_getD, List.getD_eq_getElem?_getD, hva, hvb]
  show wpAny _ _ (keyLt' (tuples' true) (.ref a1) (.ref a2)) _ _ _
  refine kat_lt (N _ m1).1 rfl (N _ m2).1 rfl ?_
  show KatLex prog w A true _ C [(.int ps[i].1 t1, .int ps[j].1 t2), (.int ps[i].2 u1, .int ps[j].2 u2)] 0 s
  refine kat_cons (wpAny_eqBool_int ?_)
  by_cases h1 : ps[i].1 = ps[j].1
  · rw [if_pos h1] at h
    rw [show (ps[i].1 == ps[j].1) = true from beq_iff_eq.mpr h1]
    refine kat_yes (kat_cons (wpAny_eqBool_int ?_))
    by_cases h2 : ps[i].2 = ps[j].2
    · rw [if_pos h2] at h
      rw [show (ps[i].2 == ps[j].2) = true from beq_iff_eq.mpr h2]
      exact kat_yes (kat_nil h)
    · rw [if_neg h2] at h
      rw [show (ps[i].2 == ps[j].2) = false from beq_eq_false_iff_ne.mpr h2]
      refine kat_no ?_
      show wpAny _ _ (oneLt' false _ _) _ _ _
      exact kat_one _ _ (lt_int h)
  · rw [if_neg h1] at h
    rw [show (ps[i].1 == ps[j].1) = false from beq_eq_false_iff_ne.mpr h1]
    refine kat_no ?_
    show wpAny _ _ (oneLt' true _ _) _ _ _
    exact oneLt_int h
theorem perm_getD {α : Type} {n : Nat} {p : Array Nat} (hp : PB n p) (d : α) (l : List α) (hl : l.length = n) : (p.toList.map fun i => l.getD i d).Perm l := by
  have h1 : p.toList.Perm (List.range n) := by have := Array.perm_iff_toList_perm.mp hp; simpa using this
  refine (h1.map _).trans ?_
  have : (List.range n).map (fun i => l.getD i d) = l := by
    refine List.ext_getElem? fun i => ?_
    rw [List.getElem?_map]
    by_cases hi : i < n
    · rw [List.getElem?_range hi]
      have hi' : i < l.length := by omega
      simp [hi']
    · rw [List.getElem?_eq_none (by simpa using Nat.le_of_not_lt hi), List.getElem?_eq_none (by omega)]; rfl
  rw [this]
theorem sorted_tups {A : Around} {E : Value → Shared → Prop} {s : Shared} {h₀ : Heap} {L l : Addr} {m : Str → Option Value} {news : List (Addr × Obj)} {vs : List Value} {ps : List (Int × Int)} {nn : Nat} {Q : Value → Shared → Prop} {nt : List (Addr × Obj)} (hsub : ∀ q ∈ nt, q ∈ news)
    (F : Fr h₀ L s.heap m) (N : News h₀ L s.heap news) (hl : (l, listOf vs.toArray nn) ∈ news) (hA : All2 (Tup2 nt) vs ps) (h2 : 2 ≤ vs.length) (h64 : vs.length < 64) (hs : ∀ p ∈ ps, Sml p)
    (h : ∀ D n h' vs' ps', Fr h₀ L h' m → News h₀ L h' ((D, listOf vs'.toArray n) :: news) → (∀ q ∈ news, q.1 < D) → All2 (Tup2 nt) vs' ps' → ps'.Perm ps → ps'.Pairwise LexLe → Q (.ref D) { s with heap := h' }) :
    wpAny (model prog w) A (call (.builtin "sorted") [.ref l]) Q E s := by
  refine kat_sorted F N (N.isList hl) h2 h64 fun D e1 h' F' N' l1 => ?_
  obtain ⟨fs, k1, k2, k3⟩ := tups_firsts (fun q hq => N' q (.tail _ hq)) vs ps (hA.mono fun v p h => h.mono hsub)
  refine kat_kind (T := Value.type "int") (fs := fs) k1 (by omega) (fun v hv => ?_) rfl ?_
  · obtain ⟨n, t, rfl⟩ := k3 v hv
    exact Looks.now
  · show (kas_sort vs.length).kasWp (kas_ask prog w A.in1.in1 (tuples' true) vs) _ _
    refine KG.wp (rk := rk9 ps) (n := vs.length) (P := fun p => PB vs.length p ∧ Up9 (rk9 ps) p vs.length) (fun i j C hi hj hc => ask_tups (fun q hq => N' q (.tail _ hq)) (hA.mono fun v p h => h.mono hsub) hs i j C hi hj hc) (fun p hp => ?_) (kg_sort (by omega) fun p' a b => ⟨a, b⟩)
    obtain ⟨hp1, hp2⟩ := hp
    refine KasFin.intro F' N' (UpdF.head (fun q hq => Nat.ne_of_lt (l1 q hq))) fun h2 c F2 N2 => ?_
    have hl2 : vs.length = ps.length := hA.1
    have hsz := hp1.size
    refine h D _ h2 (p.toList.map fun i => vs.getD i Value.none) (p.toList.map fun i => ps.getD i (0, 0)) F2 N2 l1 ⟨by simp, fun i v q a b => ?_⟩ (perm_getD hp1 _ _ hl2.symm) ?_
    · rw [List.getElem?_map] at a b
      cases hk : p.toList[i]? with
      | none => rw [hk] at a; cases a
      | some k =>
        rw [hk] at a b
        have hkl : i < p.size := by have := (List.getElem?_eq_some_iff.mp hk).1; simpa using this
        have hkn : k < vs.length := by
          have := hp1.lt (i := i) (by omega)
          have e : p.getD i 0 = k := by rw [Array.getD_eq_getD_getElem?, ← Array.getElem?_toList, hk]; rfl
          rw [e] at this; exact this
        obtain ⟨v', hv', ht⟩ := hA.get (i := k) (List.getElem?_eq_getElem (by omega))
        have e1 : vs.getD k Value.none = v' := by rw [List.getD_eq_getElem?_getD, hv']; rfl
        have e2 : ps.getD k (0, 0) = ps[k]'(by omega) := by rw [List.getD_eq_getElem?_getD, List.getElem?_eq_getElem (by omega)]; rfl
        simp only [Option.map_some, Option.some.injEq] at a b
        rw [← a, ← b, e1, e2]; exact ht
    · rw [List.pairwise_map]
      rw [List.pairwise_iff_getElem]
      intro i j hi hj hij
      have hi' : i < vs.length := by simp at hi; omega
      have hj' : j < vs.length := by simp at hj; omega
      have h1 := hp2 i j (Nat.le_of_lt hij) hj'
      have b1 := hp1.lt hi'
      have b2 := hp1.lt hj'
      have e1 : p.getD i 0 = p.toList[i] := by rw [Array.getD_eq_getD_getElem?, ← Array.getElem?_toList, List.getElem?_eq_getElem hi]; rfl
      have e2 : p.getD j 0 = p.toList[j] := by rw [Array.getD_eq_getD_getElem?, ← Array.getElem?_toList, List.getElem?_eq_getElem hj]; rfl
      unfold KK9 at h1
      rw [e1] at h1 b1
      rw [e2] at h1 b2
      have c1 : rk9 ps p.toList[i] = enc9 (ps.getD p.toList[i] (0, 0)) := by unfold rk9; rw [List.getD_eq_getElem?_getD, List.getElem?_eq_getElem (by omega)]; rfl
      have c2 : rk9 ps p.toList[j] = enc9 (ps.getD p.toList[j] (0, 0)) := by unfold rk9; rw [List.getD_eq_getElem?_getD, List.getElem?_eq_getElem (by omega)]; rfl
      rw [c1, c2] at h1
      have m9 : ∀ k, k < vs.length → ps.getD k (0, 0) ∈ ps := fun k hk => by
        rw [List.getD_eq_getElem?_getD, List.getElem?_eq_getElem (by omega)]; exact List.getElem_mem _
      exact enc_le (hs _ (m9 _ b1)) (hs _ (m9 _ b2)) h1

end

section
local macro_rules | `(tactic| walk_at "no such key") => `(tactic| skip)
section
open PyProof.Rows.LCg
variable {prog : Program} {w : World} {A : Around} {E : Value → Shared → Prop} {R : Result → Shared → Prop} {s : Shared}
theorem compTurn_in (elt t1 i1 target iter : PySem.Expr) (f1 ifs : List PySem.Expr) (scope : Scope) (pos : Pos) (it acc : Value) (env : Env) :
    compTurn (.ListComp elt [⟨t1, i1, f1, 0⟩, ⟨target, iter, ifs, 0⟩] scope pos) 1 it acc env = (do
      standAt iter.pos
      match ← pyNext it with
      | none => pure (.done .next)
      | some v =>
        letOwnedTupleGo target it v
        assign target env v
        let mut ok := true
        for c in ifs do
          if ok then ok ← isTrue c env (eval c env)
        if ok then
          (do let _ ← call (.builtin "list.append") [acc, ← eval elt env])
        again (.compLoop (.ListComp elt [⟨t1, i1, f1, 0⟩, ⟨target, iter, ifs, 0⟩] scope pos) 1 it acc env)) := by rfl
theorem compTurn_out (elt t1 i1 target iter : PySem.Expr) (ifs : List PySem.Expr) (scope : Scope) (pos : Pos) (it acc : Value) (env : Env) :
    compTurn (.ListComp elt [⟨t1, i1, [], 0⟩, ⟨target, iter, ifs, 0⟩] scope pos) 0 it acc env = (do
      standAt i1.pos
      match ← pyNext it with
      | none => pure (.done .next)
      | some v =>
        letOwnedTupleGo t1 it v
        assign t1 env v
        let x ← eval iter env
        standAt iter.pos
        let x ← foldedSetIterable iter env x
        let _ ← runOwn (.compStart (.ListComp elt [⟨t1, i1, [], 0⟩, ⟨target, iter, ifs, 0⟩] scope pos) 1 (← holding [x] (pyIter x)) acc env) env
        again (.compLoop (.ListComp elt [⟨t1, i1, [], 0⟩, ⟨target, iter, ifs, 0⟩] scope pos) 0 it acc env)) := by rfl
theorem loop_in {elt t1 i1 target iter : PySem.Expr} {f1 : List PySem.Expr} {ct : PySem.Expr} {scope : Scope} {pos : Pos} {it acc : Value} {env : Env} (I : Nat → Shared → Prop)
    (turn : ∀ n s, I n s → ∀ E' : Value → Shared → Prop, wpAny (model prog w) A (pyNext it) (fun r s₁ => match r with
      | none => R (.ok .next) s₁
      | some v => wpAny (model prog w) A (assign target env v) (fun _ s₂ =>
          wpAny (model prog w) A (isTrue ct env (eval ct env)) (fun ok s₃ =>
            if ok = true then wpAny (model prog w) A (eval elt env) (fun x s₄ =>
              wpAny (model prog w) A (call (.builtin "list.append") [acc, x]) (fun _ s₅ => ∃ m, m < n ∧ I m s₅) E' s₄) E' s₃
            else ∃ m, m < n ∧ I m s₃) E' s₂) E' s₁) E' s)
    (n : Nat) (h : I n s) (ht : ∀ v, letOwnedTupleGo target it v = pure () := by intro _; rfl) :
    codeAny (model prog w) A (.compLoop (.ListComp elt [⟨t1, i1, f1, 0⟩, ⟨target, iter, [ct], 0⟩] scope pos) 1 it acc env) R s := by
  refine codeAny_loop rfl I (fun n s hI => ?_) n h
  show wpAny _ A ((compTurn (.ListComp elt [⟨t1, i1, f1, 0⟩, ⟨target, iter, [ct], 0⟩] scope pos) 1 it acc env).onRaise (fun x => do noteFrame x env; theTreesLotGoes x)) _ _ s
  refine wpAny_noted ?_
  rw [compTurn_in]
  refine wpAny_bind (wpAny_standAt (wpAny_bind (wpAny_mono (turn n s hI _) (fun r s₁ h₁ => ?_) fun _ _ h' => h')))
  cases r with
  | none => exact wpAny_pure h₁
  | some v =>
    refine wpAny_bind (wpAny_of_eq (ht v) ?_)
    refine wpAny_bind (wpAny_mono h₁ (fun _ s₂ h₂ => wpAny_bind (wpAny_tests_one (wpAny_mono h₂ (fun ok s₃ h₃ => ?_) fun _ _ h' => h'))) fun _ _ h' => h')
    cases ok with
    | false => exact wpAny_pure ⟨rfl, h₃⟩
    | true =>
      exact wpAny_bind (wpAny_bind (wpAny_mono h₃ (fun x s₄ h₄ => wpAny_bind (wpAny_mono h₄ (fun _ s₅ h₅ => wpAny_pure (wpAny_pure ⟨rfl, h₅⟩)) fun _ _ h' => h')) fun _ _ h' => h'))
theorem loop_out {elt t1 i1 target iter : PySem.Expr} {ifs : List PySem.Expr} {scope : Scope} {pos : Pos} {it acc : Value} {env : Env} (I : Nat → Shared → Prop)
    (turn : ∀ n s, I n s → ∀ E' : Value → Shared → Prop, wpAny (model prog w) A (pyNext it) (fun r s₁ => match r with
      | none => R (.ok .next) s₁
      | some v => wpAny (model prog w) A (assign t1 env v) (fun _ s₂ =>
          wpAny (model prog w) A (eval iter env) (fun x s₃ =>
            wpAny (model prog w) A (pyIter x) (fun it2 s₄ => ∀ R' : Result → Shared → Prop, (∀ s₅, (∃ m, m < n ∧ I m s₅) → R' (.ok .next) s₅) →
              codeAny (model prog w) A (.compStart (.ListComp elt [⟨t1, i1, [], 0⟩, ⟨target, iter, ifs, 0⟩] scope pos) 1 it2 acc env) R' s₄) E' s₃) E' s₂) E' s₁) E' s)
    (hs : ∀ x, foldedSetIterable iter env x = pure x)
    (n : Nat) (h : I n s) (ht : ∀ v, letOwnedTupleGo t1 it v = pure () := by intro _; rfl) :
    codeAny (model prog w) A (.compLoop (.ListComp elt [⟨t1, i1, [], 0⟩, ⟨target, iter, ifs, 0⟩] scope pos) 0 it acc env) R s := by
  refine codeAny_loop rfl I (fun n s hI => ?_) n h
  show wpAny _ A ((compTurn (.ListComp elt [⟨t1, i1, [], 0⟩, ⟨target, iter, ifs, 0⟩] scope pos) 0 it acc env).onRaise (fun x => do noteFrame x env; theTreesLotGoes x)) _ _ s
  refine wpAny_noted ?_
  rw [compTurn_out]
  refine wpAny_bind (wpAny_standAt (wpAny_bind (wpAny_mono (turn n s hI _) (fun r s₁ h₁ => ?_) fun _ _ h' => h')))
  cases r with
  | none => exact wpAny_pure h₁
  | some v =>
    refine wpAny_bind (wpAny_of_eq (ht v) ?_)
    refine wpAny_bind (wpAny_mono h₁ (fun _ s₂ h₂ => wpAny_bind (wpAny_mono h₂ (fun x s₃ h₃ => wpAny_bind (wpAny_standAt (wpAny_bind (wpAny_of_eq (hs x) (wpAny_bind (wpAny_holding (wpAny_mono h₃ (fun it2 s₄ h₄ => ?_) fun _ _ h' => h')))))))
      fun _ _ h' => h')) fun _ _ h' => h')
    refine wpAny_bind (wpAny_runOwn ?_)
    rw [Around.mark_none]
    exact h₄ _ fun s₅ h₅ => wpAny_pure ⟨rfl, h₅⟩
theorem start_in {elt t1 i1 : PySem.Expr} {f1 : List PySem.Expr} {target iter ifs rest scope pos it acc env}
    (h0 : codeAny (model prog w) A (.compLoop (.ListComp elt (⟨t1, i1, f1, 0⟩ :: ⟨target, iter, ifs, 0⟩ :: rest) scope pos) 1 it acc env) R s)
    (h : wpAny (model prog w) A (pyIter it) (fun it' s' => codeAny (model prog w) A (.compLoop (.ListComp elt (⟨t1, i1, f1, 0⟩ :: ⟨target, iter, ifs, 0⟩ :: rest) scope pos) 1 it' acc env) R s')
      (notedBy (model prog w) A env fun x s' => R (.error x) s') s) :
    codeAny (model prog w) A (.compStart (.ListComp elt (⟨t1, i1, f1, 0⟩ :: ⟨target, iter, ifs, 0⟩ :: rest) scope pos) 1 it acc env) R s := by
  refine codeAny_of_tree ?_
  show wpAny _ _ ((compStart (.ListComp elt (⟨t1, i1, f1, 0⟩ :: ⟨target, iter, ifs, 0⟩ :: rest) scope pos) 1 it acc env).onRaise (fun x => do noteFrame x env; standAt theWindowsPlace)) _ _ s
  refine wpAny_notedAt ?_
  unfold compStart
  show wpAny _ _ (ask >>= _) _ _ s
  refine wpAny_bind (wpAny_askSetting (wpAny_ite ?_))
  split
  · first
      | exact wpAny_bind (wpAny_pure (wpAny_pure (And.intro rfl h0)))
      | exact wpAny_pure (And.intro rfl h0)
  · first
      | exact wpAny_bind (wpAny_rule (wpAny_bind (wpAny_standAt (wpAny_bind (wpAny_mono h (fun it' s' h' => wpAny_pure (And.intro rfl h')) fun _ _ x => x)))))
      | (refine wpAny_bind (wpAny_rule ?_); show wpAny _ _ (standAt iter.pos >>= _) _ _ s; exact wpAny_bind (wpAny_standAt (wpAny_bind (wpAny_mono h (fun it' s' h' => wpAny_pure (And.intro rfl h')) fun _ _ x => x))))
end
section
open PyProof.Rows.LCg
variable {prog : Program} {w : World} {A : Around} {E : Value → Shared → Prop} {s : Shared} {h₀ : Heap} {L : Addr} {m : Str → Option Value} {env : Env}
theorem ne_size {h : Heap} {b : Addr} {o : Obj} (e : h.get? b = some o) : b ≠ h.objs.size := Nat.ne_of_lt (Heap.lt_size e)
/-- what a turn's test leaves: the ledger as it was -/
noncomputable def TwoEnd (h₀ : Heap) (L : Addr) (m : Str → Option Value) (led : List (Addr × Obj)) (s : Shared) (J : Prop) (s' : Shared) : Prop :=
  (∃ h' tk', s' = { s with heap := h', toks := tk' } ∧ Fr h₀ L h' m ∧ News h₀ L h' led) ∧ J
theorem TwoEnd.intro {h' : Heap} {led : List (Addr × Obj)} {J : Prop} {tk : Nat} (F : Fr h₀ L h' m) (N : News h₀ L h' led) (j : J) : TwoEnd h₀ L m led s J { s with heap := h', toks := tk } := ⟨⟨h', tk, rfl, F, N⟩, j⟩
/-- a comprehension with two clauses over one list of the ledger, nothing made in its turns -/
theorem comp_2 {ct iter iter2 : PySem.Expr} {x x2 : Str} {px px2 pe : Pos} {scope : Scope} {cl : List (Str × Addr)} {pos : Pos} {Q : Value → Shared → Prop} {ax : Addr} {vs : List Value} {k : Nat} {news : List (Addr × Obj)}
    (Inv : Nat → Nat → List Value → Prop) (hh : A.handled = none)
    (hclos : closureFor scope env = pure cl) (hcell : ∀ y ∈ scope.names, y.2 ≠ .cell) (hkind : scope.kind = .function)
    (hnames : ∀ y ∈ scope.names, y.2 = .local → scope.names.lookup y.1 = some .local) (hx : scope.names.lookup x = some .local) (hx2 : scope.names.lookup x2 = some .local) (hxx : x ≠ x2)
    (hdb : (x == ("__debug__" : Str)) = false)
    (hit : ∀ E', wpAny (model prog w) A (eval iter env) (fun xv s₁ => xv = .ref ax ∧ s₁ = s) E' s)
    (F : Fr h₀ L s.heap m) (N : News h₀ L s.heap news) (hm : (ax, listOf vs.toArray k) ∈ news)
    (hit2 : ∀ C h tk led E', (∀ q ∈ news, q ∈ led) → News h₀ L h led → wpAny (model prog w) A (eval iter2 (compEnvC scope cl C env)) (fun xv s₁ => xv = .ref ax ∧ s₁ = { s with heap := h, toks := tk }) E' { s with heap := h, toks := tk })
    (hsz : ∀ i j ys, i ≤ vs.length → j ≤ vs.length → Inv i j ys → ys.length ≤ sizeLine) (h0 : Inv 0 0 []) (hup : ∀ i ys, i < vs.length → Inv i vs.length ys → Inv (i + 1) 0 ys)
    (turn : ∀ i j ys va vc C oC m₂ led h tk E', i < vs.length → j < vs.length → vs[i]? = some va → vs[j]? = some vc → Inv i j ys → NsObj oC m₂ → m₂ x = some va → m₂ x2 = some vc → (C, oC) ∈ led → (∀ q ∈ news, q ∈ led) → Fr h₀ L h m → News h₀ L h led →
      wpAny (model prog w) A (isTrue ct (compEnvC scope cl C env) (eval ct (compEnvC scope cl C env))) (fun ok s' => TwoEnd h₀ L m led { s with heap := h, toks := tk } (Inv i (j + 1) (if ok = true then ys ++ [va] else ys)) s') E' { s with heap := h, toks := tk })
    (fin : ∀ D h tk ys, Inv vs.length 0 ys → Fr h₀ L h m → News h₀ L h ((D, lst ys) :: news) → (∀ q ∈ news, q.1 ≠ D) → Q (.ref D) { s with heap := h, toks := tk })
    (hs : ∀ x, foldedSetIterable iter env x = pure x := by intro _; rfl) (hs2 : ∀ C x, foldedSetIterable iter2 (compEnvC scope cl C env) x = pure x := by intro _ _; rfl) :
    wpAny (model prog w) A (eval (.ListComp (.Name x pe) [⟨.Name x px, iter, [], 0⟩, ⟨.Name x2 px2, iter2, [ct], 0⟩] scope pos) env) Q E s := by
  rw [eval_ListComp]
  refine wpAny_comprehension_free (use := none) rfl hs hclos hkind hnames (wpAny_mono (hit _) (fun xv s₁ h₁ => ?_) fun _ _ e => e)
  obtain ⟨rfl, e1⟩ := h₁
  have e2 := e1.symm
  subst e2
  have hlist : ∀ {h : Heap} {l : List (Addr × Obj)}, (∀ q ∈ news, q ∈ l) → News h₀ L h l → h.IsList ax vs.toArray := fun hl N => ⟨_, (N _ (hl _ hm)).1, rfl, k, rfl⟩
  refine wpAny_pyIter_list (hlist (fun q hq => hq) N) ?_
  have F1 := F.push (⟨.type "list_iterator", none, .fields #[.ref ax, .int 0 0], #[]⟩ : Obj)
  have N1 : News h₀ L (s.heap.push { cls := .type "list_iterator", data := .fields #[.ref ax, .int 0 0] }) news := N.grown fun _ _ e => Heap.get?_push_of_some _ e
  have hit1 : (s.heap.push { cls := .type "list_iterator", data := .fields #[.ref ax, .int 0 0] }).IsListIter s.heap.objs.size ax 0 := ⟨_, Heap.get?_push_size _ rfl, rfl, rfl⟩
  have hI0 : h₀.get? s.heap.objs.size = none := next_is_new F
  have hIL : s.heap.objs.size ≠ L := Nat.ne_of_gt F.ns.lt
  have hIn : ∀ q ∈ news, q.1 ≠ s.heap.objs.size := fun q hq => ne_size (N q hq).1
  generalize s.heap.objs.size = I at *
  generalize (s.heap.push { cls := .type "list_iterator", data := .fields #[.ref ax, .int 0 0] }) = H1 at *
  refine wpAny_newObj_type ?_
  have F2 := F1.push (⟨.type "list", none, .seq ([] : List Value).toArray 0, #[]⟩ : Obj)
  have N2 : News h₀ L (H1.push { cls := .type "list", dict := none, data := .seq ([] : List Value).toArray }) news := N1.grown fun _ _ e => Heap.get?_push_of_some _ e
  have hit2' : (H1.push { cls := .type "list", dict := none, data := .seq ([] : List Value).toArray }).IsListIter I ax 0 := hit1.at fun o e => Heap.get?_push_of_some _ e
  have hacc : (H1.push { cls := .type "list", dict := none, data := .seq ([] : List Value).toArray }).get? H1.objs.size = some (lst []) := Heap.get?_push_size _ rfl
  have hD0 : h₀.get? H1.objs.size = none := next_is_new F1
  have hDL : H1.objs.size ≠ L := Nat.ne_of_gt F1.ns.lt
  have hDn : ∀ q ∈ news, q.1 ≠ H1.objs.size := fun q hq => ne_size (N1 q hq).1
  have hDI : I ≠ H1.objs.size := by obtain ⟨o, e, _⟩ := hit1; exact ne_size e
  dsimp only
  generalize H1.objs.size = D at *
  generalize (H1.push { cls := .type "list", dict := none, data := .seq ([] : List Value).toArray }) = H2 at *
  refine wpAny_newFunctionEnv hcell (by intro y hy; simp at hy) (fun h₁ hns₁ hsb₁ => ?_) hkind
  dsimp only at hns₁ hsb₁ ⊢
  have old : ∀ b o, H2.get? b = some o → h₁.get? b = some o := fun b o e => hsb₁.extBut b o (ne_size e) (Heap.get?_push_of_some _ e)
  have F3 : Fr h₀ L h₁ m := F2.keeps old
  have N3 : News h₀ L h₁ news := N2.grown old
  have hC0 : h₀.get? H2.objs.size = none := next_is_new F2
  have hCL : H2.objs.size ≠ L := Nat.ne_of_gt F2.ns.lt
  have hCn : ∀ q ∈ news, q.1 ≠ H2.objs.size := fun q hq => ne_size (N2 q hq).1
  have hCI : I ≠ H2.objs.size := by obtain ⟨o, e, _⟩ := hit2'; exact ne_size e
  have hCD : D ≠ H2.objs.size := ne_size hacc
  have hit3 : h₁.IsListIter I ax 0 := hit2'.at fun o e => old _ o e
  have hacc3 : h₁.get? D = some (lst []) := old _ _ hacc
  generalize H2.objs.size = C at *
  generalize hns0 : (fun x => List.lookup x ([] : List (Str × Value)).reverse) = m0 at *
  have loop : ∀ s₃ : Shared, s₃ = { s with heap := h₁, toks := s.toks + ([] : List (Str × Value)).length } →
      codeAny (model prog w) A (.compLoop (.ListComp (.Name x pe) [⟨.Name x px, iter, [], 0⟩, ⟨.Name x2 px2, iter2, [ct], 0⟩] scope pos) 0 (.ref I) (.ref D) (compEnvC scope cl C env))
        (compPost (model prog w) A E none Q (.ref D) C) s₃ := by
    rintro s₃ rfl
    refine loop_out (fun kk s' => ∃ h' tk i ys m', s' = { s with heap := h', toks := tk } ∧ i ≤ vs.length ∧ kk = vs.length + 1 - i ∧ h'.IsListIter I ax i ∧ Fr h₀ L h' m ∧ h'.Ns C m' ∧ News h₀ L h' ((D, lst ys) :: news) ∧ Inv i 0 ys)
      ?_ (hs2 C) (vs.length + 1) ⟨h₁, _, 0, [], m0, rfl, Nat.zero_le _, rfl, hit3, F3, hns₁, fun q hq => ?_, h0⟩
    · rintro kk s' ⟨h', tk, i, ys, m', rfl, hi, rfl, hiI, F', hn', N', hInv⟩ E'
      have hl' : h'.IsList ax vs.toArray := hlist (fun q hq => .tail _ hq) N'
      have hsi : vs.toArray.size = vs.length := List.size_toArray
      have W := Walks.list (prog := prog) (w := w) hh I ax (hIn _ hm) vs.toArray
      rw [hsi] at W
      by_cases hlt : i < vs.length
      · refine W.item i _ _ _ hlt ⟨hiI, hl'⟩ fun v h₂ tk₂ hPv hst₂ hk₂ => ?_
        have hPv' : vs[i]? = some v := by simpa using hPv
        refine wpAny_assign_Name (wpAny_storeName_local (lookup_relabel_local hx) (hn'.at' fun o e => hk₂ _ o (by simpa using Ne.symm hCI) e) (fun h₃ hn₃ hs₃ => ?_) (by simp [compEnvC, relabel, hkind]))
        have F₃ : Fr h₀ L h₃ m := (fr_but F' hk₂ (Ne.symm hIL) hI0).change hs₃ hCL hC0
        have N₃ : News h₀ L h₃ ((D, lst ys) :: news) := fun q hq => by
          have hqI : q.1 ≠ I := by rcases List.mem_cons.mp hq with rfl | hq; · exact Ne.symm hDI
                                   · exact hIn q hq
          have hqC : q.1 ≠ C := by rcases List.mem_cons.mp hq with rfl | hq; · exact hCD
                                   · exact hCn q hq
          exact ⟨hs₃.extBut _ _ hqC (hk₂ _ _ (by simpa using hqI) (N' q hq).1), (N' q hq).2⟩
        have hst₃ : h₃.IsListIter I ax (i + 1) := hst₂.1.at fun o e => hs₃.extBut _ o hCI e
        refine wpAny_mono (hit2 C h₃ _ _ _ (fun q hq => List.mem_cons_of_mem _ hq) N₃) (fun xv s₄ h₄ => ?_) fun _ _ e => e
        obtain ⟨rfl, rfl⟩ := h₄
        have hl₃ : h₃.IsList ax vs.toArray := hlist (fun q hq => .tail _ hq) N₃
        refine wpAny_pyIter_list hl₃ ?_
        intro R' hR'
        dsimp only
        have F₄ := F₃.push (⟨.type "list_iterator", none, .fields #[.ref ax, .int 0 0], #[]⟩ : Obj)
        have upp : ∀ b o, h₃.get? b = some o → (h₃.push { cls := .type "list_iterator", data := .fields #[.ref ax, .int 0 0] }).get? b = some o := fun b o e => Heap.get?_push_of_some _ e
        have N₄ := N₃.grown upp
        have hst₄ : (h₃.push { cls := .type "list_iterator", data := .fields #[.ref ax, .int 0 0] }).IsListIter I ax (i + 1) := hst₃.at fun o e => upp _ _ e
        have hJ₄ : (h₃.push { cls := .type "list_iterator", data := .fields #[.ref ax, .int 0 0] }).IsListIter h₃.objs.size ax 0 := ⟨_, Heap.get?_push_size _ rfl, rfl, rfl⟩
        have hJ0 : h₀.get? h₃.objs.size = none := next_is_new F₃
        have hJL : h₃.objs.size ≠ L := Nat.ne_of_gt F₃.ns.lt
        have hJn : ∀ q ∈ news, q.1 ≠ h₃.objs.size := fun q hq => ne_size (N₃ q (List.mem_cons_of_mem _ hq)).1
        have hJD : D ≠ h₃.objs.size := ne_size (N₃ (D, lst ys) (.head _)).1
        have hJI : I ≠ h₃.objs.size := by obtain ⟨o, e, _⟩ := hst₃; exact ne_size e
        have hJC : C ≠ h₃.objs.size := by obtain ⟨o, _, _, e, _⟩ := hn₃; exact ne_size e
        have hn₄ := hn₃.at' fun o e => upp C o e
        generalize h₃.objs.size = J at *
        generalize (h₃.push { cls := .type "list_iterator", data := .fields #[.ref ax, .int 0 0] }) = H4 at *
        have W2 := Walks.list (prog := prog) (w := w) hh J ax (hJn _ hm) vs.toArray
        rw [hsi] at W2
        have inner : ∀ tkx, codeAny (model prog w) A (.compLoop (.ListComp (.Name x pe) [⟨.Name x px, iter, [], 0⟩, ⟨.Name x2 px2, iter2, [ct], 0⟩] scope pos) 1 (.ref J) (.ref D) (compEnvC scope cl C env)) R' { s with heap := H4, toks := tkx } := by
          intro tkx
          refine loop_in (fun kk s' => ∃ h' tk j ys m', s' = { s with heap := h', toks := tk } ∧ j ≤ vs.length ∧ kk = vs.length + 1 - j ∧ h'.IsListIter J ax j ∧ h'.IsListIter I ax (i + 1) ∧ Fr h₀ L h' m ∧ h'.Ns C m' ∧ m' x = some v ∧ News h₀ L h' ((D, lst ys) :: news) ∧ Inv i j ys)
            ?_ (vs.length + 1) ⟨H4, _, 0, ys, _, rfl, Nat.zero_le _, rfl, hJ₄, hst₄, F₄, hn₄, by simp, N₄, hInv⟩
          rintro kk s' ⟨h', tk, j, ys, m', rfl, hj, rfl, hiJ, hiI, F', hn', hmx, N', hInv⟩ E'
          have hl' : h'.IsList ax vs.toArray := hlist (fun q hq => .tail _ hq) N'
          by_cases hjt : j < vs.length
          · refine W2.item j _ _ _ hjt ⟨hiJ, hl'⟩ fun vc h₂ tk₂ hPc hst₂ hk₂ => ?_
            have hPc' : vs[j]? = some vc := by simpa using hPc
            refine wpAny_assign_Name (wpAny_storeName_local (lookup_relabel_local hx2) (hn'.at' fun o e => hk₂ _ o (by simpa using hJC) e) (fun h₃ hn₃ hs₃ => ?_) (by simp [compEnvC, relabel, hkind]))
            have F₃ : Fr h₀ L h₃ m := (fr_but F' hk₂ (Ne.symm hJL) hJ0).change hs₃ hCL hC0
            have N₃ : News h₀ L h₃ ((D, lst ys) :: news) := fun q hq => by
              have hqI : q.1 ≠ J := by rcases List.mem_cons.mp hq with rfl | hq; · exact hJD
                                       · exact hJn q hq
              have hqC : q.1 ≠ C := by rcases List.mem_cons.mp hq with rfl | hq; · exact hCD
                                       · exact hCn q hq
              exact ⟨hs₃.extBut _ _ hqC (hk₂ _ _ (by simpa using hqI) (N' q hq).1), (N' q hq).2⟩
            have hstJ₃ : h₃.IsListIter J ax (j + 1) := hst₂.1.at fun o e => hs₃.extBut _ o (Ne.symm hJC) e
            have hstI₃ : h₃.IsListIter I ax (i + 1) := hiI.at fun o e => hs₃.extBut _ o hCI (hk₂ _ _ (by simpa using hJI) e)
            obtain ⟨oC, heC, hoC⟩ := ns_obj hn₃
            obtain ⟨oI, heI, rI⟩ := id hstI₃
            obtain ⟨oJ, heJ, rJ⟩ := id hstJ₃
            have N5 : News h₀ L h₃ ((C, oC) :: (I, oI) :: (J, oJ) :: (D, lst ys) :: news) := fun q hq => by
              rcases List.mem_cons.mp hq with rfl | hq
              · exact ⟨heC, hCL, hC0⟩
              · rcases List.mem_cons.mp hq with rfl | hq
                · exact ⟨heI, hIL, hI0⟩
                · rcases List.mem_cons.mp hq with rfl | hq
                  · exact ⟨heJ, hJL, hJ0⟩
                  · exact N₃ q hq
            refine wpAny_mono (turn i j ys v vc C oC _ _ h₃ _ _ hlt hjt hPv' hPc' hInv hoC (by simp [hxx, hmx]) (by simp) (.head _) (fun q hq => .tail _ (.tail _ (.tail _ (.tail _ hq)))) F₃ N5) (fun ok s₄ h₄ => ?_) fun _ _ e => e
            obtain ⟨⟨h4, tk4, rfl, F4, N4⟩, hI4⟩ := h₄
            have n4 := hoC.ns (N4 (C, oC) (.head _)).1
            have I4 : h4.IsListIter I ax (i + 1) := ⟨oI, (N4 (I, oI) (.tail _ (.head _))).1, rI⟩
            have J4 : h4.IsListIter J ax (j + 1) := ⟨oJ, (N4 (J, oJ) (.tail _ (.tail _ (.head _)))).1, rJ⟩
            have N4' : News h₀ L h4 ((D, lst ys) :: news) := fun q hq => N4 q (.tail _ (.tail _ (.tail _ hq)))
            cases ok with
            | false =>
              simp only [Bool.false_eq_true, if_false] at hI4 ⊢
              exact ⟨vs.length + 1 - (j + 1), by omega, h4, tk4, j + 1, ys, _, rfl, hjt, rfl, J4, I4, F4, n4, by simp [hxx, hmx], N4', hI4⟩
            | true =>
              simp only [if_true] at hI4 ⊢
              refine wpAny_Name (wpAny_loadName_local (v := v) hkind (lookup_relabel_local hx) n4 (by simp [hxx, hmx]) ?_) hdb
              refine append_at (hsz := by show ys.toArray.size ≤ sizeLine; rw [List.size_toArray]; exact hsz i j ys hi hj hInv) (N4' (D, lst ys) (.head _)).1 fun h₅ hs₅ hD₅ => ?_
              refine ⟨vs.length + 1 - (j + 1), by omega, h₅, tk4, j + 1, ys ++ [v], _, rfl, hjt, rfl, J4.at fun o e => hs₅.extBut _ o (Ne.symm hJD) e, I4.at fun o e => hs₅.extBut _ o hDI e, F4.change hs₅ hDL hD0, n4.sameBut hs₅ (Ne.symm hCD), by simp [hxx, hmx], fun q hq => ?_, hI4⟩
              rcases List.mem_cons.mp hq with rfl | hq
              · exact ⟨hD₅.trans (congrArg some (lst_snoc ys v)), hDL, hD0⟩
              · exact ⟨hs₅.extBut _ _ (hDn q hq) (N4' q (.tail _ hq)).1, (N4' q (.tail _ hq)).2⟩
          · obtain rfl : j = vs.length := Nat.le_antisymm hj (Nat.not_lt.mp hjt)
            refine W2.done _ _ _ ⟨hiJ, hl'⟩ fun h₂ tk₂ hk₂ => ?_
            refine hR' _ ⟨vs.length + 1 - (i + 1), by omega, h₂, tk₂, i + 1, ys, m', rfl, hlt, rfl, hiI.at fun o e => hk₂ _ o (by simpa using hJI) e, fr_but F' hk₂ (Ne.symm hJL) hJ0, hn'.at' fun o e => hk₂ _ o (by simpa using hJC) e, fun q hq => ?_, hup i ys hlt hInv⟩
            have hqI : q.1 ≠ J := by rcases List.mem_cons.mp hq with rfl | hq; · exact hJD
                                     · exact hJn q hq
            exact ⟨hk₂ _ _ (by simpa using hqI) (N' q hq).1, (N' q hq).2⟩
        exact start_in (inner _) (W2.self 0 _ _ _ ⟨hJ₄, hlist (fun q hq => .tail _ hq) N₄⟩ (inner _))
      · obtain rfl : i = vs.length := Nat.le_antisymm hi (Nat.not_lt.mp hlt)
        refine W.done _ _ _ ⟨hiI, hl'⟩ fun h₂ tk₂ hk₂ => ?_
        refine ⟨m', hn'.at' fun o e => hk₂ _ o (by simpa using Ne.symm hCI) e, fun h'' hs'' => fin D h'' tk₂ ys hInv ((fr_but F' hk₂ (Ne.symm hIL) hI0).change hs'' hCL hC0) (fun q hq => ?_) hDn⟩
        have hqI : q.1 ≠ I := by rcases List.mem_cons.mp hq with rfl | hq; · exact Ne.symm hDI
                                 · exact hIn q hq
        have hqC : q.1 ≠ C := by rcases List.mem_cons.mp hq with rfl | hq; · exact hCD
                                 · exact hCn q hq
        exact ⟨hs''.extBut _ _ hqC (hk₂ _ _ (by simpa using hqI) (N' q hq).1), (N' q hq).2⟩
    · rcases List.mem_cons.mp hq with rfl | hq
      · exact ⟨hacc3, hDL, hD0⟩
      · exact N3 q hq
  have W := Walks.list (prog := prog) (w := w) hh I ax (hIn _ hm) vs.toArray
  exact codeAny_compStart_list (loop _ rfl) (W.self 0 _ _ _ ⟨hit3, hlist (fun q hq => hq) N3⟩ (loop _ rfl))
end
section
open PyProof.Rows.LCg
variable {prog : Program} {w : World} {A : Around} {E : Value → Shared → Prop} {s : Shared} {h₀ : Heap} {L : Addr} {m : Str → Option Value} {env : Env}
abbrev cellO : Obj := { cls := .type "cell", data := .cell none }
theorem newEnv_cell {M : Model} {scope : Scope} {globals : Addr} {cl : List (Str × Addr)} {qual : Str} {x : Str} {Q : Env → Shared → Prop}
    (hcells : ∀ n acc, cellsFrom n scope.names acc = (x, n) :: acc) (hpush : ∀ h : Heap, pushCells h scope.names = h.push cellO)
    (h : Q { scope := scope, locals := s.heap.objs.size, globals := globals, cells := (x, s.heap.objs.size + 1) :: cl, qual := qual, func := none, code := env.code, frame := env.frame, builtins := env.builtins }
      { s with heap := (s.heap.push { cls := .type "dict", data := .dict #[] }).push cellO }) :
    wpAny M A (newFunctionEnv scope globals cl [] qual none .none (some env)) Q E s := by
  simp only [newFunctionEnv, Option.isSome_some, if_true]
  refine wpAny_bind (wpAny_alloc ?_)
  refine wpAny_bind (wpAny_layCells _ (fun name kind cells => by cases hkc : kind == NameKind.cell <;> simp [hkc]) _ _ _ _ ?_)
  rw [hcells, hpush, show ({ s with heap := s.heap.push { cls := .type "dict", data := .dict #[] } } : Shared).heap.objs.size = s.heap.objs.size + 1 from Heap.size_push ..]
  refine wpAny_bind ?_
  rw [List.forIn_nil]
  exact wpAny_pure (wpAny_pure h)
/-- what a turn's test leaves -/
inductive KEnd (h₀ : Heap) (L : Addr) (m : Str → Option Value) (news : List (Addr × Obj)) (K : Addr) (oK : Obj) (I : Addr) (oI : Obj) (C : Addr) (oC : Obj) (D : Addr) (oD : Obj) (s : Shared) (J : List (Addr × Obj) → Prop) (s' : Shared) : Prop
  | mk (h' tk' nw') (f1 : s' = { s with heap := h', toks := tk' }) (f2 : Fr h₀ L h' m) (f3 : News h₀ L h' ((K, oK) :: (I, oI) :: (C, oC) :: (D, oD) :: nw')) (f4 : (∀ q ∈ nw', q.1 ≠ K ∧ q.1 ≠ I ∧ q.1 ≠ C ∧ q.1 ≠ D)) (f5 : (∀ q ∈ news, q ∈ nw')) (f6 : J nw')
/-- a comprehension with a test over a list of the ledger, its letter in a cell -/
theorem Assign_comp_K {ct iter : PySem.Expr} {x y : Str} {px py pe : Pos} {scope : Scope} {cl : List (Str × Addr)} {pos spos : Pos} {Q : Flow → Shared → Prop} {ax : Addr} {vs : List Value} {k : Nat} {news : List (Addr × Obj)}
    (Inv : Nat → List Value → List (Addr × Obj) → Prop) (hLe : env.locals = L) (hh : A.handled = none)
    (hsw : swapsWith (.ListComp (.Name x pe) [⟨.Name x px, iter, [ct], 0⟩] scope pos) (some (.Name y py)) spos.line env = pure true)
    (hclos : closureFor scope env = pure cl) (hkind : scope.kind = .function) (hnames : ∀ z ∈ scope.names, z.2 = .local → scope.names.lookup z.1 = some .local)
    (hcells : ∀ n acc, cellsFrom n scope.names acc = (x, n) :: acc) (hpush : ∀ h : Heap, pushCells h scope.names = h.push cellO) (hx : (relabel scope env).names.lookup x = some .cell)
    (hdb : (x == ("__debug__" : Str)) = false)
    (hy : env.kindOf y = some .local) (hp : (env.scope.kind == .class || (env.scope.kind == .module && env.locals != env.globals)) = false)
    (hit : ∀ E', wpAny (model prog w) A (eval iter env) (fun xv s₁ => xv = .ref ax ∧ s₁ = s) E' s)
    (F : Fr h₀ L s.heap m) (N : News h₀ L s.heap news) (hm : (ax, listOf vs.toArray k) ∈ news) (hsz : vs.length ≤ sizeLine) (h0 : Inv 0 [] news)
    (turn : ∀ i ys nw v I oI C oC K oK D h tk E', i < vs.length → vs[i]? = some v → Inv i ys nw → (∀ q ∈ news, q ∈ nw) → oK.data = .cell (some v) → Fr h₀ L h m → News h₀ L h ((K, oK) :: (I, oI) :: (C, oC) :: (D, lst ys) :: nw) →
      (∀ q ∈ nw, q.1 ≠ K ∧ q.1 ≠ I ∧ q.1 ≠ C ∧ q.1 ≠ D) →
      wpAny (model prog w) A (isTrue ct (compEnvC scope ((x, K) :: cl) C env) (eval ct (compEnvC scope ((x, K) :: cl) C env))) (fun ok s' => KEnd h₀ L m news K oK I oI C oC D (lst ys) { s with heap := h, toks := tk } (fun nw' => Inv (i + 1) (if ok = true then ys ++ [v] else ys) nw') s') E' { s with heap := h, toks := tk })
    (fin : ∀ D h tk ys nw, Inv vs.length ys nw → (∀ q ∈ news, q ∈ nw) → Fr h₀ L h (fun z => if z = y then some (.ref D) else m z) → News h₀ L h ((D, lst ys) :: nw) → (∀ q ∈ nw, q.1 ≠ D) → Q .next { s with heap := h, toks := tk })
    (hs : ∀ x, foldedSetIterable iter env x = pure x := by intro _; rfl) :
    wpAny (model prog w) A (exec (.Assign [.Name y py] (.ListComp (.Name x pe) [⟨.Name x px, iter, [ct], 0⟩] scope pos) spos) env) Q E s := by
  subst hLe
  rw [exec_Assign_Name_used _ _ _ _ hsw]
  refine wpAny_bind (wpAny_standAt (wpAny_bind ?_))
  show wpAny _ A (do let _ ← comprehension (.ListComp (.Name x pe) [⟨.Name x px, iter, [ct], 0⟩] scope pos) scope env _ (newList []) false (eval iter env) (some (assign (.Name y py) env))) _ _ s
  refine wpAny_bind (wpAny_mono (wpAny_comprehension_free (use := some (assign (.Name y py) env)) (Q := fun _ s' => Q .next s') rfl hs hclos hkind hnames
    (wpAny_mono (hit _) (fun xv s₁ h₁ => ?_) fun _ _ e => e)) (fun _ s' hq => wpAny_pure (wpAny_pure hq)) fun _ _ e => e)
  obtain ⟨rfl, e1⟩ := h₁
  have e2 := e1.symm
  subst e2
  have hlist : ∀ {h : Heap} {l : List (Addr × Obj)}, (∀ q ∈ news, q ∈ l) → News h₀ env.locals h l → h.IsList ax vs.toArray := fun hl N => ⟨_, (N _ (hl _ hm)).1, rfl, k, rfl⟩
  refine wpAny_pyIter_list (hlist (fun q hq => hq) N) ?_
  have F1 := F.push (⟨.type "list_iterator", none, .fields #[.ref ax, .int 0 0], #[]⟩ : Obj)
  have N1 : News h₀ env.locals (s.heap.push { cls := .type "list_iterator", data := .fields #[.ref ax, .int 0 0] }) news := N.grown fun _ _ e => Heap.get?_push_of_some _ e
  have hit1 : (s.heap.push { cls := .type "list_iterator", data := .fields #[.ref ax, .int 0 0] }).IsListIter s.heap.objs.size ax 0 := ⟨_, Heap.get?_push_size _ rfl, rfl, rfl⟩
  have hI0 : h₀.get? s.heap.objs.size = none := next_is_new F
  have hIL : s.heap.objs.size ≠ env.locals := Nat.ne_of_gt F.ns.lt
  have hIn : ∀ q ∈ news, q.1 ≠ s.heap.objs.size := fun q hq => ne_size (N q hq).1
  generalize s.heap.objs.size = I at *
  generalize (s.heap.push { cls := .type "list_iterator", data := .fields #[.ref ax, .int 0 0] }) = H1 at *
  refine wpAny_newObj_type ?_
  have F2 := F1.push (⟨.type "list", none, .seq ([] : List Value).toArray 0, #[]⟩ : Obj)
  have N2 : News h₀ env.locals (H1.push { cls := .type "list", dict := none, data := .seq ([] : List Value).toArray }) news := N1.grown fun _ _ e => Heap.get?_push_of_some _ e
  have hit2' : (H1.push { cls := .type "list", dict := none, data := .seq ([] : List Value).toArray }).IsListIter I ax 0 := hit1.at fun o e => Heap.get?_push_of_some _ e
  have hacc : (H1.push { cls := .type "list", dict := none, data := .seq ([] : List Value).toArray }).get? H1.objs.size = some (lst []) := Heap.get?_push_size _ rfl
  have hD0 : h₀.get? H1.objs.size = none := next_is_new F1
  have hDL : H1.objs.size ≠ env.locals := Nat.ne_of_gt F1.ns.lt
  have hDn : ∀ q ∈ news, q.1 ≠ H1.objs.size := fun q hq => ne_size (N1 q hq).1
  have hDI : I ≠ H1.objs.size := by obtain ⟨o, e, _⟩ := hit1; exact ne_size e
  dsimp only
  generalize H1.objs.size = D at *
  generalize (H1.push { cls := .type "list", dict := none, data := .seq ([] : List Value).toArray }) = H2 at *
  refine newEnv_cell hcells hpush ?_
  dsimp only
  have hns3 : (H2.push { cls := .type "dict", data := .dict #[] }).Ns H2.objs.size (fun _ => none) := Heap.Ns.new H2 (.type "dict")
  have F3 := F2.push (⟨.type "dict", none, .dict #[], #[]⟩ : Obj)
  have old3 : ∀ b o, H2.get? b = some o → (H2.push { cls := .type "dict", data := .dict #[] }).get? b = some o := fun b o e => Heap.get?_push_of_some _ e
  have N3 := N2.grown old3
  have hit3 := hit2'.at (fun o e => old3 _ o e)
  have hacc3 := old3 _ _ hacc
  have hC0 : h₀.get? H2.objs.size = none := next_is_new F2
  have hCL : H2.objs.size ≠ env.locals := Nat.ne_of_gt F2.ns.lt
  have hCn : ∀ q ∈ news, q.1 ≠ H2.objs.size := fun q hq => ne_size (N2 q hq).1
  have hCI : I ≠ H2.objs.size := by obtain ⟨o, e, _⟩ := hit2'; exact ne_size e
  have hCD : D ≠ H2.objs.size := ne_size hacc
  have hKe : H2.objs.size + 1 = (H2.push { cls := .type "dict", data := .dict #[] }).objs.size := (Heap.size_push ..).symm
  rw [hKe]
  generalize H2.objs.size = C at *
  generalize (H2.push { cls := .type "dict", data := .dict #[] }) = H3 at *
  have F4 := F3.push cellO
  have old4 : ∀ b o, H3.get? b = some o → (H3.push cellO).get? b = some o := fun b o e => Heap.get?_push_of_some _ e
  have N4 := N3.grown old4
  have hit4 := hit3.at (fun o e => old4 _ o e)
  have hacc4 := old4 _ _ hacc3
  have hns4 := hns3.at' fun o e => old4 _ o e
  have hK4 : (H3.push cellO).get? H3.objs.size = some cellO := Heap.get?_push_size _ rfl
  have hK0 : h₀.get? H3.objs.size = none := next_is_new F3
  have hKL : H3.objs.size ≠ env.locals := Nat.ne_of_gt F3.ns.lt
  have hKn : ∀ q ∈ news, q.1 ≠ H3.objs.size := fun q hq => ne_size (N3 q hq).1
  have hKI : I ≠ H3.objs.size := by obtain ⟨o, e, _⟩ := hit3; exact ne_size e
  have hKD : D ≠ H3.objs.size := ne_size hacc3
  have hKC : C ≠ H3.objs.size := by obtain ⟨o, _, _, e, _⟩ := hns3; exact ne_size e
  generalize H3.objs.size = K at *
  generalize (H3.push cellO) = H4 at *
  have loop : ∀ tkx, codeAny (model prog w) A (.compLoop (.ListComp (.Name x pe) [⟨.Name x px, iter, [ct], 0⟩] scope pos) 0 (.ref I) (.ref D) (compEnvC scope ((x, K) :: cl) C env))
        (compPost (model prog w) A E (some (assign (.Name y py) env)) (fun _ s' => Q .next s') (.ref D) C) { s with heap := H4, toks := tkx } := by
    intro tkx
    refine codeAny_compLoop_tests (fun kk s' => ∃ h' tk i ys m' nw oK cv, s' = { s with heap := h', toks := tk } ∧ i ≤ vs.length ∧ kk = vs.length + 1 - i ∧ ys.length ≤ i ∧ h'.IsListIter I ax i ∧ Fr h₀ env.locals h' m ∧ h'.Ns C m' ∧ oK.data = .cell cv ∧
        News h₀ env.locals h' ((K, oK) :: (D, lst ys) :: nw) ∧ (∀ q ∈ nw, q.1 ≠ K ∧ q.1 ≠ I ∧ q.1 ≠ C ∧ q.1 ≠ D) ∧ (∀ q ∈ news, q ∈ nw) ∧ Inv i ys nw)
      ?_ (vs.length + 1) ⟨H4, _, 0, [], _, news, cellO, none, rfl, Nat.zero_le _, rfl, Nat.le_refl _, hit4, F4, hns4, rfl, fun q hq => ?_, fun q hq => ⟨hKn q hq, hIn q hq, hCn q hq, hDn q hq⟩, fun q hq => hq, h0⟩
    · rintro kk s' ⟨h', tk, i, ys, m', nw, oK, cv, rfl, hi, rfl, hyl, hiI, F', hn', hoK, N', off, hsub, hInv⟩
      have hl' : h'.IsList ax vs.toArray := hlist (fun q hq => .tail _ (.tail _ (hsub q hq))) N'
      have hsi : vs.toArray.size = vs.length := List.size_toArray
      have W := Walks.list (prog := prog) (w := w) hh I ax (hIn _ hm) vs.toArray
      rw [hsi] at W
      have tup : ∀ {q : Addr × Obj}, q ∈ (D, lst ys) :: nw → q.1 ≠ K ∧ q.1 ≠ I ∧ q.1 ≠ C := fun {q} hq => by
        rcases List.mem_cons.mp hq with rfl | hq
        · exact ⟨hKD, Ne.symm hDI, hCD⟩
        · exact ⟨(off q hq).1, (off q hq).2.1, (off q hq).2.2.1⟩
      by_cases hlt : i < vs.length
      · refine W.item i _ _ _ hlt ⟨hiI, hl'⟩ fun v h₂ tk₂ hPv hst₂ hk₂ => ?_
        have hPv' : vs[i]? = some v := by simpa using hPv
        have hKcell : h₂.IsCell K cv := ⟨oK, hk₂ _ _ (by simpa using Ne.symm hKI) (N' (K, oK) (.head _)).1, hoK⟩
        refine wpAny_assign_Name (wpAny_storeName_cell (c := K) (by simp [compEnvC, relabel, hkind]) hx (by simp [compEnvC]) hKcell fun h₃ hv₃ hs₃ => ?_)
        refine wpAny_tests_one ?_
        obtain ⟨oK3, heK, hdK⟩ := hv₃
        have F₃ : Fr h₀ env.locals h₃ m := (fr_but F' hk₂ (Ne.symm hIL) hI0).change hs₃ hKL hK0
        have I3 : h₃.IsListIter I ax (i + 1) := hst₂.1.at fun o e => hs₃.extBut _ o hKI e
        have n3 : h₃.Ns C m' := (hn'.at' fun o e => hk₂ _ o (by simpa using Ne.symm hCI) e).sameBut hs₃ hKC
        obtain ⟨oC, heC, hoC⟩ := ns_obj n3
        obtain ⟨oI, heI, rI⟩ := id I3
        have N5 : News h₀ env.locals h₃ ((K, oK3) :: (I, oI) :: (C, oC) :: (D, lst ys) :: nw) := fun q hq => by
          rcases List.mem_cons.mp hq with rfl | hq
          · exact ⟨heK, hKL, hK0⟩
          · rcases List.mem_cons.mp hq with rfl | hq
            · exact ⟨heI, hIL, hI0⟩
            · rcases List.mem_cons.mp hq with rfl | hq
              · exact ⟨heC, hCL, hC0⟩
              · have t := tup hq
                have z := N' q (.tail _ hq)
                exact ⟨hs₃.extBut _ _ t.1 (hk₂ _ _ (by simpa using t.2.1) z.1), z.2⟩
        refine wpAny_mono (turn i ys nw v I oI C oC K oK3 D h₃ _ _ hlt hPv' hInv hsub hdK F₃ N5 off) (fun ok s₄ h₄ => ?_) fun _ _ e => e
        obtain ⟨h4, tk4, nw4, rfl, F4', N4', off4, hsub4, hI4⟩ := h₄
        have n4 := hoC.ns (N4' (C, oC) (.tail _ (.tail _ (.head _)))).1
        have I4 : h4.IsListIter I ax (i + 1) := ⟨oI, (N4' (I, oI) (.tail _ (.head _))).1, rI⟩
        have K4 := (N4' (K, oK3) (.head _)).1
        have N6 : News h₀ env.locals h4 ((K, oK3) :: (D, lst ys) :: nw4) := fun q hq => by
          rcases List.mem_cons.mp hq with rfl | hq
          · exact N4' _ (.head _)
          · exact N4' _ (.tail _ (.tail _ (.tail _ hq)))
        cases ok with
        | false =>
          simp only [Bool.false_eq_true, if_false] at hI4 ⊢
          exact ⟨vs.length + 1 - (i + 1), by omega, h4, tk4, i + 1, ys, m', nw4, oK3, _, rfl, hlt, rfl, Nat.le_succ_of_le hyl, I4, F4', n4, hdK, N6, off4, hsub4, hI4⟩
        | true =>
          simp only [if_true] at hI4 ⊢
          refine wpAny_Name (wpAny_loadName_cell (c := K) (v := v) (by simp [compEnvC, relabel, hkind]) hx (by simp [compEnvC]) ⟨oK3, K4, hdK⟩ ?_) hdb
          refine append_at (hsz := by show ys.toArray.size ≤ sizeLine; rw [List.size_toArray]; exact Nat.le_trans (Nat.le_trans hyl hi) hsz) (N6 (D, lst ys) (.tail _ (.head _))).1 fun h₅ hs₅ hD₅ => ?_
          refine ⟨vs.length + 1 - (i + 1), by omega, h₅, tk4, i + 1, ys ++ [v], m', nw4, oK3, _, rfl, hlt, rfl, by rw [List.length_append, List.length_singleton]; exact Nat.succ_le_succ hyl, I4.at fun o e => hs₅.extBut _ o hDI e, F4'.change hs₅ hDL hD0,
            n4.sameBut hs₅ (Ne.symm hCD), hdK, fun q hq => ?_, off4, hsub4, hI4⟩
          rcases List.mem_cons.mp hq with rfl | hq
          · exact ⟨hs₅.extBut _ _ (Ne.symm hKD) K4, hKL, hK0⟩
          · rcases List.mem_cons.mp hq with rfl | hq
            · exact ⟨hD₅.trans (congrArg some (lst_snoc ys v)), hDL, hD0⟩
            · have z := N6 q (.tail _ (.tail _ hq))
              exact ⟨hs₅.extBut _ _ (off4 q hq).2.2.2 z.1, z.2⟩
      · obtain rfl : i = vs.length := Nat.le_antisymm hi (Nat.not_lt.mp hlt)
        refine W.done _ _ _ ⟨hiI, hl'⟩ fun h₂ tk₂ hk₂ => ?_
        have F₂ := fr_but F' hk₂ (Ne.symm hIL) hI0
        show wpAny _ A (assign (.Name y py) env (.ref D)) _ _ _
        refine wpAny_assign_Name (wpAny_storeName_local hy F₂.ns (fun h₃ hn₃ hs₃ => ?_) hp)
        have hL₀ : h₀.get? env.locals = none := Heap.get?_none_of_le F₂.above
        have F₃ : Fr h₀ env.locals h₃ (fun z => if z = y then some (.ref D) else m z) := ⟨hn₃, fun b o e => hs₃.extBut b o (fun q => by rw [q, hL₀] at e; cases e) (F₂.keep b o e), F₂.above⟩
        refine ⟨m', (hn'.at' fun o e => hk₂ _ o (by simpa using Ne.symm hCI) e).sameBut hs₃ hCL, fun h'' hs'' => fin D h'' _ ys nw hInv hsub (F₃.change hs'' hCL hC0) (fun q hq => ?_) fun q hq => (off q hq).2.2.2⟩
        have t := tup hq
        have z := N' q (.tail _ hq)
        exact ⟨hs''.extBut _ _ t.2.2 (hs₃.extBut _ _ z.2.1 (hk₂ _ _ (by simpa using t.2.1) z.1)), z.2⟩
    · rcases List.mem_cons.mp hq with rfl | hq
      · exact ⟨hK4, hKL, hK0⟩
      · rcases List.mem_cons.mp hq with rfl | hq
        · exact ⟨hacc4, hDL, hD0⟩
        · exact N4 q hq
  have W := Walks.list (prog := prog) (w := w) hh I ax (hIn _ hm) vs.toArray
  exact codeAny_compStart_list (loop _) (W.self 0 _ _ _ ⟨hit4, hlist (fun q hq => hq) N4⟩ (loop _))
end

end

section
theorem lexLt2 (a b : Int × Int) : lexLt [a.1, a.2] [b.1, b.2] = true ↔ ¬ LexLe b a := by
  unfold LexLe
  simp only [lexLt]
  by_cases h1 : a.1 = b.1
  · rw [if_pos h1]
    by_cases h2 : a.2 = b.2
    · rw [if_pos h2]; constructor
      · intro h; cases h
      · intro h; exact absurd (.inr ⟨h1.symm, by omega⟩) h
    · rw [if_neg h2, decide_eq_true_iff]; omega
  · rw [if_neg h1, decide_eq_true_iff]; omega
theorem LexLe.refl (a : Int × Int) : LexLe a a := .inr ⟨rfl, Int.le_refl _⟩
theorem LexLe.trans {a b c : Int × Int} (h : LexLe a b) (k : LexLe b c) : LexLe a c := by unfold LexLe at *; omega
theorem LexLe.total {a b : Int × Int} (h : ¬ LexLe b a) : LexLe a b := by unfold LexLe at *; omega
theorem lexLt_false {a b : Int × Int} (h : lexLt [a.1, a.2] [b.1, b.2] = false) : LexLe b a := Classical.byContradiction fun q => by
  rw [(lexLt2 a b).mpr q] at h; cases h
section
variable {prog : Program} {w : World} {A : Around}
theorem min_loop {R : Result → Shared → Prop} {I S D : Addr} {news : List (Addr × Obj)} {vs : List Value} {ps : List (Int × Int)} {n : Nat} (hh : A.handled = none) (hu : A.units + 1 < cLine) (hDI : D ≠ I) (hSI : S ≠ I)
    (hm : (D, listOf vs.toArray n) ∈ news) (hA : All2 (Tup2 news) vs ps) (hIn : ∀ q ∈ news, q.1 ≠ I) (hSn : ∀ q ∈ news, q.1 ≠ S) :
    ∀ (k j : Nat) (s : Shared) (vb : Value) (pb : Int × Int) (c : Nat), vs.length - (j + 1) = k → j + 1 ≤ vs.length → s.heap.IsListIter I D (j + 1) → (∀ q ∈ news, s.heap.get? q.1 = some q.2) → Tup2 news vb pb → pb ∈ ps →
      (∀ i q, i ≤ j → ps[i]? = some q → LexLe pb q) → s.heap.get? S = some { cls := .type "list", dict := none, data := .seq #[vb, vb] c, slots := #[] } →
      (∀ v pb h' tk, Tup2 news v pb → pb ∈ ps → (∀ q ∈ ps, LexLe pb q) → (∀ b o, b ≠ I → b ≠ S → s.heap.get? b = some o → h'.get? b = some o) → R (.ok (.ret v)) { s with heap := h', toks := tk }) →
      codeAny (model prog w) A (.builtin "min.loop" ⟨[.ref I, .none, .ref S], []⟩) R s := by
  have hname : (toString "min" ++ toString ".loop" : String) = "min.loop" := by decide
  have hs : vs.toArray.size = vs.length := List.size_toArray
  have W := Walks.list (prog := prog) (w := w) (A := A.in1) hh I D hDI vs.toArray
  rw [hs] at W
  have hl : ∀ h : Heap, (∀ q ∈ news, h.get? q.1 = some q.2) → h.IsList D vs.toArray := fun h e => ⟨_, e _ hm, rfl, n, rfl⟩
  have hin1 : A.in1.units < cLine := hu
  intro k
  induction k with
  | zero =>
    intro j s vb pb c hk hj hst hN hv hp hbest hS hR
    have hjn : j + 1 = vs.length := by omega
    refine codeAny_builtin F.entry_min_loop ?_
    rw [Around.under_plainId F.plain_min_loop _]
    show wpAny _ A.in1 (seqItems? (.ref S) >>= _) _ _ s
    refine wpAny_bind (wpAny_seqItems hS rfl ?_)
    show wpAny _ A.in1 (tryCatch (pyNext (.ref I)) _ >>= _) _ _ s
    refine wpAny_bind (wpAny_tryCatch (W.done s _ _ ⟨hjn ▸ hst, hl _ hN⟩ fun h' tk hk' => ?_))
    have hS' := hk' S _ (by simpa using hSI) hS
    show wpAny _ A.in1 (updateSeq S (fun _ => #[]) >>= _) _ _ _
    refine wpAny_bind (wpAny_updateSeq hS' rfl (wpAny_bind (wpAny_letGo (wpAny_pure ?_))))
    refine hR vb pb _ tk hv hp (fun q hq => ?_) fun b o hbI hbS e => (Heap.get?_update_other _ _ (Ne.symm hbS)).trans (hk' b o (by simpa using hbI) e)
    obtain ⟨i, hi, rfl⟩ := List.getElem_of_mem hq
    exact hbest i _ (by have := hA.1; omega) (List.getElem?_eq_getElem hi)
  | succ k ih =>
    intro j s vb pb c hk hj hst hN hv hp hbest hS hR
    have hlt : j + 1 < vs.length := by omega
    refine codeAny_builtin F.entry_min_loop ?_
    rw [Around.under_plainId F.plain_min_loop _]
    show wpAny _ A.in1 (seqItems? (.ref S) >>= _) _ _ s
    refine wpAny_bind (wpAny_seqItems hS rfl ?_)
    show wpAny _ A.in1 (tryCatch (pyNext (.ref I)) _ >>= _) _ _ s
    refine wpAny_bind (wpAny_tryCatch (W.item (j + 1) s _ _ hlt ⟨hst, hl _ hN⟩ fun v h' tk hP hst' hk' => ?_))
    have hvi : vs[j + 1]? = some v := by simpa using hP
    obtain ⟨pt, hpt, hvt⟩ := hA.get' hvi
    have hptm : pt ∈ ps := List.mem_of_getElem? hpt
    have hS' := hk' S _ (by simpa using hSI) hS
    have hN' : ∀ q ∈ news, h'.get? q.1 = some q.2 := fun q hq => hk' _ _ (by simpa using hIn q hq) (hN q hq)
    obtain ⟨a1, n1, t1, u1, rfl, m1⟩ := id hvt
    obtain ⟨a2, n2, t2, u2, rfl, m2⟩ := id hv
    show wpAny _ A.in1 (tryCatch (holding [.ref a1, .ref a1] (compareOp .Lt (.ref a1) (.ref a2) >>= _)) _ >>= _) _ _ _
    refine wpAny_bind (wpAny_tryCatch (wpAny_holding (wpAny_bind (lt_tups (ns := [pt.1, pt.2]) (ms := [pb.1, pb.2]) hin1 ⟨_, hN' _ m1, rfl, _, rfl⟩ ⟨_, hN' _ m2, rfl, _, rfl⟩ (.cons _ _ (.cons _ _ .nil)) (.cons _ _ (.cons _ _ .nil)) ?_))))
    refine wpAny_bind (wpAny_holding (wpAny_truthy_bool ?_))
    refine wpAny_bind (wpAny_letGo (wpAny_pure ?_))
    cases hb : lexLt [pt.1, pt.2] [pb.1, pb.2] with
    | true =>
      simp only [if_true]
      refine wpAny_bind (wpAny_updateSeq hS' rfl (wpAny_bind (wpAny_letGo ?_)))
      rw [hname]
      refine wpAny_pure ⟨plainId_quiet F.plain_min_loop _, ih (j + 1) _ (.ref a1) pt _ (by omega) hlt (hst'.1.at fun o e => (Heap.get?_update_other _ _ hSI).trans e) (fun q hq => (Heap.get?_update_other _ _ (Ne.symm (hSn q hq))).trans (hN' q hq)) hvt hptm
        (fun i q hi hq => ?_) (Heap.get?_update_self _ hS' rfl) fun v' p' h'' tk'' a b d hk'' => ?_⟩
      · by_cases e : i = j + 1
        · subst e; rw [hpt] at hq; cases hq; exact LexLe.refl _
        · have h1 := hbest i q (by omega) hq
          exact LexLe.trans (LexLe.total ((lexLt2 _ _).mp hb)) h1
      · exact hR v' p' h'' tk'' a b d fun b o hbI hbS e => hk'' b o hbI hbS ((Heap.get?_update_other _ _ (Ne.symm hbS)).trans (hk' b o (by simpa using hbI) e))
    | false =>
      simp only [Bool.false_eq_true, if_false]
      refine wpAny_bind (wpAny_letGo ?_)
      rw [hname]
      refine wpAny_pure ⟨plainId_quiet F.plain_min_loop _, ih (j + 1) _ (.ref a2) pb c (by omega) hlt hst'.1 hN' hv hp (fun i q hi hq => ?_) hS' fun v' p' h'' tk'' a b d hk'' => ?_⟩
      · by_cases e : i = j + 1
        · subst e; rw [hpt] at hq; cases hq; exact lexLt_false hb
        · exact hbest i q (by omega) hq
      · exact hR v' p' h'' tk'' a b d fun b o hbI hbS e => hk'' b o hbI hbS (hk' b o (by simpa using hbI) e)
theorem min_tups {s : Shared} {h₀ : Heap} {L : Addr} {m : Str → Option Value} {Q : Value → Shared → Prop} {E : Value → Shared → Prop} {D : Addr} {news : List (Addr × Obj)} {vs : List Value} {ps : List (Int × Int)} {n : Nat} (hh : A.handled = none) (hu : A.units + 9 < cLine)
    (F₀ : Fr h₀ L s.heap m) (N : News h₀ L s.heap news) (hm : (D, listOf vs.toArray n) ∈ news) (hA : All2 (Tup2 news) vs ps) (hne : 0 < ps.length)
    (h : ∀ h' tk v pb, Fr h₀ L h' m → News h₀ L h' news → Tup2 news v pb → pb ∈ ps → (∀ q ∈ ps, LexLe pb q) → Q v { s with heap := h', toks := tk }) :
    wpAny (model prog w) A (call (.builtin "min") [.ref D]) Q E s := by
  have hname : (toString "min" ++ toString ".loop" : String) = "min.loop" := by decide
  have hs : vs.toArray.size = vs.length := List.size_toArray
  have hlen := hA.1
  have hl : ∀ h : Heap, (∀ q ∈ news, h.get? q.1 = some q.2) → h.IsList D vs.toArray := fun h e => ⟨_, e _ hm, rfl, n, rfl⟩
  refine call_function_tree F.kind_min F.plain_min F.entry_min (F.args_min1 _) ?_
  show wpAny _ A.in1 (Builtin.Builtins.bindParams "min" ["key", "default"] 0 ⟨[], []⟩ >>= _) _ _ s
  refine wpAny_bind (wpAny_of_eq (show Builtin.Builtins.bindParams "min" ["key", "default"] 0 ⟨[], []⟩ = pure [none, none] from rfl) ?_)
  refine wpAny_bind (wpAny_pure ?_)
  refine wpAny_bind (wpAny_pyIter_list (hl _ fun q hq => (N q hq).1) ?_)
  have F1 := F₀.push (⟨.type "list_iterator", none, .fields #[.ref D, .int 0 0], #[]⟩ : Obj)
  have N1 : News h₀ L (s.heap.push { cls := .type "list_iterator", data := .fields #[.ref D, .int 0 0] }) news := N.grown fun _ _ e => Heap.get?_push_of_some _ e
  have hit1 : (s.heap.push { cls := .type "list_iterator", data := .fields #[.ref D, .int 0 0] }).IsListIter s.heap.objs.size D 0 := ⟨_, Heap.get?_push_size _ rfl, rfl, rfl⟩
  have hI0 : h₀.get? s.heap.objs.size = none := next_is_new F₀
  have hIL : s.heap.objs.size ≠ L := Nat.ne_of_gt F₀.ns.lt
  have hIn : ∀ q ∈ news, q.1 ≠ s.heap.objs.size := fun q hq => ne_size (N q hq).1
  generalize s.heap.objs.size = I at *
  generalize (s.heap.push { cls := .type "list_iterator", data := .fields #[.ref D, .int 0 0] }) = H1 at *
  refine wpAny_bind (wpAny_newObj_type ?_)
  dsimp only
  have F2 := F1.push (⟨.type "list", none, .seq ([] : List Value).toArray 0, #[]⟩ : Obj)
  have N2 : News h₀ L (H1.push { cls := .type "list", dict := none, data := .seq ([] : List Value).toArray }) news := N1.grown fun _ _ e => Heap.get?_push_of_some _ e
  have hit2 : (H1.push { cls := .type "list", dict := none, data := .seq ([] : List Value).toArray }).IsListIter I D 0 := hit1.at fun o e => Heap.get?_push_of_some _ e
  have hS : (H1.push { cls := .type "list", dict := none, data := .seq ([] : List Value).toArray }).get? H1.objs.size = some { cls := .type "list", dict := none, data := .seq #[] 0, slots := #[] } := Heap.get?_push_size _ rfl
  have hS0 : h₀.get? H1.objs.size = none := next_is_new F1
  have hSL : H1.objs.size ≠ L := Nat.ne_of_gt F1.ns.lt
  have hSn : ∀ q ∈ news, q.1 ≠ H1.objs.size := fun q hq => ne_size (N1 q hq).1
  have hSI : H1.objs.size ≠ I := by obtain ⟨o, e, _⟩ := hit1; exact Ne.symm (ne_size e)
  generalize H1.objs.size = S at *
  generalize (H1.push { cls := .type "list", dict := none, data := .seq ([] : List Value).toArray }) = H2 at *
  rw [hname]
  have hDI : D ≠ I := hIn _ hm
  refine wpAny_pure ⟨plainId_quiet F.plain_min_loop _, ?_⟩
  refine codeAny_builtin F.entry_min_loop ?_
  rw [Around.under_plainId F.plain_min_loop _]
  refine wpAny_bind (wpAny_seqItems hS rfl ?_)
  have W := Walks.list (prog := prog) (w := w) (A := A.in1) hh I D hDI vs.toArray
  rw [hs] at W
  refine wpAny_bind (wpAny_tryCatch (W.item 0 _ _ _ (by omega) ⟨hit2, hl _ fun q hq => (N2 q hq).1⟩ fun v h' tk hP hst' hk' => ?_))
  have hvi : vs[0]? = some v := by simpa using hP
  obtain ⟨pt, hpt, hvt⟩ := hA.get' hvi
  have hS' := hk' S _ (by simpa using hSI) hS
  have hN' : ∀ q ∈ news, h'.get? q.1 = some q.2 := fun q hq => hk' _ _ (by simpa using hIn q hq) (N2 q hq).1
  refine wpAny_bind (wpAny_pure ?_)
  refine wpAny_bind (wpAny_updateSeq hS' rfl ?_)
  rw [hname]
  refine wpAny_pure ⟨plainId_quiet F.plain_min_loop _, min_loop hh (by omega) hDI hSI hm hA hIn hSn _ 0 _ v pt _ rfl (by omega) (hst'.1.at fun o e => (Heap.get?_update_other _ _ hSI).trans e) (fun q hq => (Heap.get?_update_other _ _ (Ne.symm (hSn q hq))).trans (hN' q hq)) hvt (List.mem_of_getElem? hpt)
    (fun i q hi hq => ?_) (Heap.get?_update_self _ hS' rfl) fun v' p' h'' tk'' a b d hk'' => ?_⟩
  · have : i = 0 := by omega
    subst this; rw [hpt] at hq; cases hq; exact LexLe.refl _
  · have up : ∀ b o, b ≠ I → b ≠ S → H2.get? b = some o → h''.get? b = some o := fun b o hbI hbS e => hk'' b o hbI hbS ((Heap.get?_update_other _ _ (Ne.symm hbS)).trans (hk' b o (by simpa using hbI) e))
    refine h h'' _ v' p' ⟨F2.ns.at' fun o e => up L o (Ne.symm hIL) (Ne.symm hSL) e, fun b o e => up b o (fun q => by rw [q, hI0] at e; cases e) (fun q => by rw [q, hS0] at e; cases e) (F2.keep b o e), F2.above⟩ (fun q hq => ⟨up _ _ (hIn q hq) (hSn q hq) (N2 q hq).1, (N2 q hq).2⟩) a b d
theorem max_loop {R : Result → Shared → Prop} {I S D : Addr} {news : List (Addr × Obj)} {vs : List Value} {ps : List (Int × Int)} {n : Nat} (hh : A.handled = none) (hu : A.units + 1 < cLine) (hDI : D ≠ I) (hSI : S ≠ I)
    (hm : (D, listOf vs.toArray n) ∈ news) (hA : All2 (Tup2 news) vs ps) (hIn : ∀ q ∈ news, q.1 ≠ I) (hSn : ∀ q ∈ news, q.1 ≠ S) :
    ∀ (k j : Nat) (s : Shared) (vb : Value) (pb : Int × Int) (c : Nat), vs.length - (j + 1) = k → j + 1 ≤ vs.length → s.heap.IsListIter I D (j + 1) → (∀ q ∈ news, s.heap.get? q.1 = some q.2) → Tup2 news vb pb → pb ∈ ps →
      (∀ i q, i ≤ j → ps[i]? = some q → LexLe q pb) → s.heap.get? S = some { cls := .type "list", dict := none, data := .seq #[vb, vb] c, slots := #[] } →
      (∀ v pb h' tk, Tup2 news v pb → pb ∈ ps → (∀ q ∈ ps, LexLe q pb) → (∀ b o, b ≠ I → b ≠ S → s.heap.get? b = some o → h'.get? b = some o) → R (.ok (.ret v)) { s with heap := h', toks := tk }) →
      codeAny (model prog w) A (.builtin "max.loop" ⟨[.ref I, .none, .ref S], []⟩) R s := by
  have hname : (toString "max" ++ toString ".loop" : String) = "max.loop" := by decide
  have hs : vs.toArray.size = vs.length := List.size_toArray
  have W := Walks.list (prog := prog) (w := w) (A := A.in1) hh I D hDI vs.toArray
  rw [hs] at W
  have hl : ∀ h : Heap, (∀ q ∈ news, h.get? q.1 = some q.2) → h.IsList D vs.toArray := fun h e => ⟨_, e _ hm, rfl, n, rfl⟩
  have hin1 : A.in1.units < cLine := hu
  intro k
  induction k with
  | zero =>
    intro j s vb pb c hk hj hst hN hv hp hbest hS hR
    have hjn : j + 1 = vs.length := by omega
    refine codeAny_builtin F.entry_max_loop ?_
    rw [Around.under_plainId F.plain_max_loop _]
    show wpAny _ A.in1 (seqItems? (.ref S) >>= _) _ _ s
    refine wpAny_bind (wpAny_seqItems hS rfl ?_)
    show wpAny _ A.in1 (tryCatch (pyNext (.ref I)) _ >>= _) _ _ s
    refine wpAny_bind (wpAny_tryCatch (W.done s _ _ ⟨hjn ▸ hst, hl _ hN⟩ fun h' tk hk' => ?_))
    have hS' := hk' S _ (by simpa using hSI) hS
    show wpAny _ A.in1 (updateSeq S (fun _ => #[]) >>= _) _ _ _
    refine wpAny_bind (wpAny_updateSeq hS' rfl (wpAny_bind (wpAny_letGo (wpAny_pure ?_))))
    refine hR vb pb _ tk hv hp (fun q hq => ?_) fun b o hbI hbS e => (Heap.get?_update_other _ _ (Ne.symm hbS)).trans (hk' b o (by simpa using hbI) e)
    obtain ⟨i, hi, rfl⟩ := List.getElem_of_mem hq
    exact hbest i _ (by have := hA.1; omega) (List.getElem?_eq_getElem hi)
  | succ k ih =>
    intro j s vb pb c hk hj hst hN hv hp hbest hS hR
    have hlt : j + 1 < vs.length := by omega
    refine codeAny_builtin F.entry_max_loop ?_
    rw [Around.under_plainId F.plain_max_loop _]
    show wpAny _ A.in1 (seqItems? (.ref S) >>= _) _ _ s
    refine wpAny_bind (wpAny_seqItems hS rfl ?_)
    show wpAny _ A.in1 (tryCatch (pyNext (.ref I)) _ >>= _) _ _ s
    refine wpAny_bind (wpAny_tryCatch (W.item (j + 1) s _ _ hlt ⟨hst, hl _ hN⟩ fun v h' tk hP hst' hk' => ?_))
    have hvi : vs[j + 1]? = some v := by simpa using hP
    obtain ⟨pt, hpt, hvt⟩ := hA.get' hvi
    have hptm : pt ∈ ps := List.mem_of_getElem? hpt
    have hS' := hk' S _ (by simpa using hSI) hS
    have hN' : ∀ q ∈ news, h'.get? q.1 = some q.2 := fun q hq => hk' _ _ (by simpa using hIn q hq) (hN q hq)
    obtain ⟨a1, n1, t1, u1, rfl, m1⟩ := id hvt
    obtain ⟨a2, n2, t2, u2, rfl, m2⟩ := id hv
    show wpAny _ A.in1 (tryCatch (holding [.ref a1, .ref a1] (compareOp .Gt (.ref a1) (.ref a2) >>= _)) _ >>= _) _ _ _
    refine wpAny_bind (wpAny_tryCatch (wpAny_holding (wpAny_bind (gt_tups (ns := [pt.1, pt.2]) (ms := [pb.1, pb.2]) hin1 ⟨_, hN' _ m1, rfl, _, rfl⟩ ⟨_, hN' _ m2, rfl, _, rfl⟩ (.cons _ _ (.cons _ _ .nil)) (.cons _ _ (.cons _ _ .nil)) ?_))))
    refine wpAny_bind (wpAny_holding (wpAny_truthy_bool ?_))
    refine wpAny_bind (wpAny_letGo (wpAny_pure ?_))
    cases hb : lexLt [pb.1, pb.2] [pt.1, pt.2] with
    | true =>
      simp only [if_true]
      refine wpAny_bind (wpAny_updateSeq hS' rfl (wpAny_bind (wpAny_letGo ?_)))
      rw [hname]
      refine wpAny_pure ⟨plainId_quiet F.plain_max_loop _, ih (j + 1) _ (.ref a1) pt _ (by omega) hlt (hst'.1.at fun o e => (Heap.get?_update_other _ _ hSI).trans e) (fun q hq => (Heap.get?_update_other _ _ (Ne.symm (hSn q hq))).trans (hN' q hq)) hvt hptm
        (fun i q hi hq => ?_) (Heap.get?_update_self _ hS' rfl) fun v' p' h'' tk'' a b d hk'' => ?_⟩
      · by_cases e : i = j + 1
        · subst e; rw [hpt] at hq; cases hq; exact LexLe.refl _
        · have h1 := hbest i q (by omega) hq
          exact LexLe.trans h1 (LexLe.total ((lexLt2 _ _).mp hb))
      · exact hR v' p' h'' tk'' a b d fun b o hbI hbS e => hk'' b o hbI hbS ((Heap.get?_update_other _ _ (Ne.symm hbS)).trans (hk' b o (by simpa using hbI) e))
    | false =>
      simp only [Bool.false_eq_true, if_false]
      refine wpAny_bind (wpAny_letGo ?_)
      rw [hname]
      refine wpAny_pure ⟨plainId_quiet F.plain_max_loop _, ih (j + 1) _ (.ref a2) pb c (by omega) hlt hst'.1 hN' hv hp (fun i q hi hq => ?_) hS' fun v' p' h'' tk'' a b d hk'' => ?_⟩
      · by_cases e : i = j + 1
        · subst e; rw [hpt] at hq; cases hq; exact lexLt_false hb
        · exact hbest i q (by omega) hq
      · exact hR v' p' h'' tk'' a b d fun b o hbI hbS e => hk'' b o hbI hbS (hk' b o (by simpa using hbI) e)
theorem max_tups {s : Shared} {h₀ : Heap} {L : Addr} {m : Str → Option Value} {Q : Value → Shared → Prop} {E : Value → Shared → Prop} {D : Addr} {news : List (Addr × Obj)} {vs : List Value} {ps : List (Int × Int)} {n : Nat} (hh : A.handled = none) (hu : A.units + 9 < cLine)
    (F₀ : Fr h₀ L s.heap m) (N : News h₀ L s.heap news) (hm : (D, listOf vs.toArray n) ∈ news) (hA : All2 (Tup2 news) vs ps) (hne : 0 < ps.length)
    (h : ∀ h' tk v pb, Fr h₀ L h' m → News h₀ L h' news → Tup2 news v pb → pb ∈ ps → (∀ q ∈ ps, LexLe q pb) → Q v { s with heap := h', toks := tk }) :
    wpAny (model prog w) A (call (.builtin "max") [.ref D]) Q E s := by
  have hname : (toString "max" ++ toString ".loop" : String) = "max.loop" := by decide
  have hs : vs.toArray.size = vs.length := List.size_toArray
  have hlen := hA.1
  have hl : ∀ h : Heap, (∀ q ∈ news, h.get? q.1 = some q.2) → h.IsList D vs.toArray := fun h e => ⟨_, e _ hm, rfl, n, rfl⟩
  refine call_function_tree F.kind_max F.plain_max F.entry_max (F.args_max1 _) ?_
  show wpAny _ A.in1 (Builtin.Builtins.bindParams "max" ["key", "default"] 0 ⟨[], []⟩ >>= _) _ _ s
  refine wpAny_bind (wpAny_of_eq (show Builtin.Builtins.bindParams "max" ["key", "default"] 0 ⟨[], []⟩ = pure [none, none] from rfl) ?_)
  refine wpAny_bind (wpAny_pure ?_)
  refine wpAny_bind (wpAny_pyIter_list (hl _ fun q hq => (N q hq).1) ?_)
  have F1 := F₀.push (⟨.type "list_iterator", none, .fields #[.ref D, .int 0 0], #[]⟩ : Obj)
  have N1 : News h₀ L (s.heap.push { cls := .type "list_iterator", data := .fields #[.ref D, .int 0 0] }) news := N.grown fun _ _ e => Heap.get?_push_of_some _ e
  have hit1 : (s.heap.push { cls := .type "list_iterator", data := .fields #[.ref D, .int 0 0] }).IsListIter s.heap.objs.size D 0 := ⟨_, Heap.get?_push_size _ rfl, rfl, rfl⟩
  have hI0 : h₀.get? s.heap.objs.size = none := next_is_new F₀
  have hIL : s.heap.objs.size ≠ L := Nat.ne_of_gt F₀.ns.lt
  have hIn : ∀ q ∈ news, q.1 ≠ s.heap.objs.size := fun q hq => ne_size (N q hq).1
  generalize s.heap.objs.size = I at *
  generalize (s.heap.push { cls := .type "list_iterator", data := .fields #[.ref D, .int 0 0] }) = H1 at *
  refine wpAny_bind (wpAny_newObj_type ?_)
  dsimp only
  have F2 := F1.push (⟨.type "list", none, .seq ([] : List Value).toArray 0, #[]⟩ : Obj)
  have N2 : News h₀ L (H1.push { cls := .type "list", dict := none, data := .seq ([] : List Value).toArray }) news := N1.grown fun _ _ e => Heap.get?_push_of_some _ e
  have hit2 : (H1.push { cls := .type "list", dict := none, data := .seq ([] : List Value).toArray }).IsListIter I D 0 := hit1.at fun o e => Heap.get?_push_of_some _ e
  have hS : (H1.push { cls := .type "list", dict := none, data := .seq ([] : List Value).toArray }).get? H1.objs.size = some { cls := .type "list", dict := none, data := .seq #[] 0, slots := #[] } := Heap.get?_push_size _ rfl
  have hS0 : h₀.get? H1.objs.size = none := next_is_new F1
  have hSL : H1.objs.size ≠ L := Nat.ne_of_gt F1.ns.lt
  have hSn : ∀ q ∈ news, q.1 ≠ H1.objs.size := fun q hq => ne_size (N1 q hq).1
  have hSI : H1.objs.size ≠ I := by obtain ⟨o, e, _⟩ := hit1; exact Ne.symm (ne_size e)
  generalize H1.objs.size = S at *
  generalize (H1.push { cls := .type "list", dict := none, data := .seq ([] : List Value).toArray }) = H2 at *
  rw [hname]
  have hDI : D ≠ I := hIn _ hm
  refine wpAny_pure ⟨plainId_quiet F.plain_max_loop _, ?_⟩
  refine codeAny_builtin F.entry_max_loop ?_
  rw [Around.under_plainId F.plain_max_loop _]
  refine wpAny_bind (wpAny_seqItems hS rfl ?_)
  have W := Walks.list (prog := prog) (w := w) (A := A.in1) hh I D hDI vs.toArray
  rw [hs] at W
  refine wpAny_bind (wpAny_tryCatch (W.item 0 _ _ _ (by omega) ⟨hit2, hl _ fun q hq => (N2 q hq).1⟩ fun v h' tk hP hst' hk' => ?_))
  have hvi : vs[0]? = some v := by simpa using hP
  obtain ⟨pt, hpt, hvt⟩ := hA.get' hvi
  have hS' := hk' S _ (by simpa using hSI) hS
  have hN' : ∀ q ∈ news, h'.get? q.1 = some q.2 := fun q hq => hk' _ _ (by simpa using hIn q hq) (N2 q hq).1
  refine wpAny_bind (wpAny_pure ?_)
  refine wpAny_bind (wpAny_updateSeq hS' rfl ?_)
  rw [hname]
  refine wpAny_pure ⟨plainId_quiet F.plain_max_loop _, max_loop hh (by omega) hDI hSI hm hA hIn hSn _ 0 _ v pt _ rfl (by omega) (hst'.1.at fun o e => (Heap.get?_update_other _ _ hSI).trans e) (fun q hq => (Heap.get?_update_other _ _ (Ne.symm (hSn q hq))).trans (hN' q hq)) hvt (List.mem_of_getElem? hpt)
    (fun i q hi hq => ?_) (Heap.get?_update_self _ hS' rfl) fun v' p' h'' tk'' a b d hk'' => ?_⟩
  · have : i = 0 := by omega
    subst this; rw [hpt] at hq; cases hq; exact LexLe.refl _
  · have up : ∀ b o, b ≠ I → b ≠ S → H2.get? b = some o → h''.get? b = some o := fun b o hbI hbS e => hk'' b o hbI hbS ((Heap.get?_update_other _ _ (Ne.symm hbS)).trans (hk' b o (by simpa using hbI) e))
    refine h h'' _ v' p' ⟨F2.ns.at' fun o e => up L o (Ne.symm hIL) (Ne.symm hSL) e, fun b o e => up b o (fun q => by rw [q, hI0] at e; cases e) (fun q => by rw [q, hS0] at e; cases e) (F2.keep b o e), F2.above⟩ (fun q hq => ⟨up _ _ (hIn q hq) (hSn q hq) (N2 q hq).1, (N2 q hq).2⟩) a b d
end

end

section
local macro_rules | `(tactic| k_mem) => `(tactic| first | assumption | exact List.mem_cons_self .. | exact List.mem_cons_of_mem _ (by k_mem))
local macro_rules | `(tactic| walk_at "call ref") => `(tactic| refine held ?_)
local macro_rules | `(tactic| walk_at "pyIter ref") => `(tactic| refine held ?_)
local macro_rules | `(tactic| walk_at "eval ListComp") => `(tactic| refine held ?_)
local macro_rules | `(tactic| walk_at "exec Assign cons ListComp") => `(tactic| refine held ?_)
local macro_rules | `(tactic| walk_at "exec For") => `(tactic| refine held ?_)
local macro_rules | `(tactic| walk_at "eval Name") => `(tactic| (k_here; (with_reducible show wpAny _ _ (eval _ (envOfC _ _ _ _ _)) _ _ _); k_dflt (first | (refine' nameX_L ?F ?v ?_ ?a ?b; (case F => k_asm); (case a => rfl); (case b => rfl); (case v => first | exact rfl | assumption); k_whole) | (refine' nameX_C ?N ?c ?m ?d ?_ ?a ?b; (case a => rfl); (case b => rfl); (case N => k_asm); (case c => rfl); (case m => k_mem); (case d => assumption); k_whole))))

section
local macro_rules | `(tactic| walk_at "storeName") => `(tactic| with_reducible refine heldStore "which" ?_)
local macro_rules | `(tactic| walk_at "storeName") => `(tactic| with_reducible refine heldStore "table" ?_)
local macro_rules | `(tactic| walk_at "call builtin:sum") => `(tactic| refine held ?_)
local macro_rules | `(tactic| walk_at "subscriptTail Name Slice ref ref") => `(tactic| refine held ?_)
local macro_rules | `(tactic| walk_at "binaryOp Add ref ref") => `(tactic| refine held ?_)
local macro_rules | `(tactic| walk_at "CompEnd") => `(tactic| refine held ?_)
theorem off1_mem {D : Addr} : ∀ {l : List (Addr × Obj)}, PyProof.Rows.LCg.Off1 D l → ∀ p ∈ l, p.1 ≠ D
  | [], _, _, h => nomatch h
  | _ :: _, x, p, h => by
    rcases List.mem_cons.mp h with rfl | h
    · exact x.1
    · exact off1_mem x.2 p h
noncomputable def Apart (ex news : List (Addr × Obj)) : Prop := ∀ q ∈ ex, ∀ r ∈ news, q.1 ≠ r.1
theorem Apart.nil {news : List (Addr × Obj)} : Apart [] news := fun _ h => nomatch h
theorem Apart.cons {D : Addr} {o : Obj} {ex news : List (Addr × Obj)} (h : ∀ r ∈ news, D ≠ r.1) (k : Apart ex news) : Apart ((D, o) :: ex) news := fun q hq r hr => by
  rcases List.mem_cons.mp hq with rfl | hq
  · exact h r hr
  · exact k q hq r hr
theorem Apart.append {ex ex' news : List (Addr × Obj)} (h : Apart ex news) (k : Apart ex' news) : Apart (ex ++ ex') news := fun q hq r hr => by
  rcases List.mem_append.mp hq with hq | hq
  · exact h q hq r hr
  · exact k q hq r hr
/-- a bidder: a name and a toll -/
inductive Bid (news : List (Addr × Obj)) (v : Value) (b : Str × Int) : Prop
  | mk (a n t u) (f1 : v = .ref a) (f2 : (a, tupO [.str b.1 t, .int b.2 u] n) ∈ news) (f3 : OkName b.1) (f4 : 0 ≤ b.2) (f5 : b.2 < 100)
theorem Bid.mono {news news' : List (Addr × Obj)} {v : Value} {b : Str × Int} (h : Bid news v b) (hs : ∀ q ∈ news, q ∈ news') : Bid news' v b := by
  obtain ⟨a, n, t, u, e, hm, r1, r2, r3⟩ := h; exact ⟨a, n, t, u, e, hs _ hm, r1, r2, r3⟩
inductive BidInv (news : List (Addr × Obj)) (i : Nat) (ys : List Value) (nw : List (Addr × Obj)) : Prop
  | mk (ex bs) (f1 : nw = ex ++ news) (f2 : Apart ex news) (f3 : All2 (Bid ex) ys bs) (f4 : ys.length = i)
abbrev Cells6 (L : Addr) (o1 o2 o3 o4 o5 o6 : Obj) (tb : Array Value) : List (Addr × Obj) :=
  [(L + 1, o1), (L + 1 + 1, o2), (L + 1 + 1 + 1, o3), (L + 1 + 1 + 1 + 1, o4), (L + 1 + 1 + 1 + 1 + 1, o5), (L + 1 + 1 + 1 + 1 + 1 + 1, o6), (247, tabObj tb)]
theorem cells_sub {L : Addr} {o1 o2 o3 o4 o5 o6 : Obj} {tb : Array Value} {d q : Addr × Obj} (h : q ∈ Cells6 L o1 o2 o3 o4 o5 o6 tb) :
    q ∈ [(L + 1 + 1, o2), d, (L + 1, o1), (L + 1 + 1 + 1 + 1 + 1 + 1, o6), (L + 1 + 1 + 1 + 1 + 1, o5), (L + 1 + 1 + 1 + 1, o4), (L + 1 + 1 + 1, o3), (247, tabObj tb)] := by
  simp only [List.mem_cons, List.not_mem_nil, or_false] at h ⊢
  rcases h with h | h | h | h | h | h | h <;> simp [h]
theorem mod3 (x : Int) : x.fmod 3 = 0 ∨ x.fmod 3 = 1 ∨ x.fmod 3 = 2 := by have := fmod_in x (b := 3) (by decide); omega
set_option maxRecDepth 100000 in
set_option maxHeartbeats 8000000 in
theorem stA {q : Str} {fa : Addr} {cd : Value} {Q : Flow → Shared → Prop} {S : Addr} {vs : List Value} {ns : List Int} {o1 o2 o3 o4 o5 o6 : Obj} {tb : Array Value}
    (F : Fr h₀ L s.heap m) (N : News h₀ L s.heap [(L + 1 + 1 + 1 + 1 + 1 + 1, o6), (L + 1 + 1 + 1 + 1 + 1, o5), (L + 1 + 1 + 1 + 1, o4), (L + 1 + 1 + 1, o3), (L + 1 + 1, o2), (L + 1, o1), (247, tabObj tb)]) (X : (hd.heap_1 w.params).In h₀) (T : Top p loose mean mg mb h₀)
    (hh : A.handled = none) (hroom : A.depth + 200 < recursionLimit) (hu : A.units + 2000 < cLine)
    (hS : m (Str.ofString "script") = some (.ref S)) (hl : h₀.IsList S vs.toArray) (hi : IntsAre vs ns) (hlen : ns.length ≤ 63)
    (d1 : o1.data = .cell none) (d2 : o2.data = .cell none) (h247 : @LT.lt Nat _ 247 L)
    (k : ∀ h' tk ex D4 o4' o1' o2' B nB ys bs which t1, (which = 0 ∨ which = 1 ∨ which = 2) → Apart ex (Cells6 L o1' o2' o3 o4 o5 o6 tb) → (D4, o4') ∈ ex → TabFor prog w o4' which → (D4 == sysModules) = false → o1'.data = .cell (some (.int which t1)) → o2'.data = .cell (some (.ref D4)) →
      (B, listOf ys.toArray nB) ∈ ex → All2 (Bid ex) ys bs → ys.length ≤ 60 → 2 ≤ ys.length → Fr h₀ L h' (fun z => if z = Str.ofString "bidders" then some (.ref B) else m z) → News h₀ L h' (ex ++ Cells6 L o1' o2' o3 o4 o5 o6 tb) →
      wpAny (model prog w) A (execs (lawRest w.params 3) (lawEnv w.params q L fa cd)) Q (fun _ _ => False) { s with heap := h', toks := tk }) :
    wpAny (model prog w) A (execs (lawRest w.params 0) (lawEnv w.params q L fa cd)) Q (fun _ _ => False) s := by
  unfold lawRest lawEnv lawPieces fnPieces
  dsimp only [List.drop]
  k_steps
  refine sumK hh F N (hl.at fun o e => F.keep _ o e) hi ?_
  intro h2 tk2 t2 F2 N2
  k_steps
  have h3w := mod3 ns.sum
  refine store_cell [(L + 1 + 1 + 1 + 1 + 1 + 1, o6), (L + 1 + 1 + 1 + 1 + 1, o5), (L + 1 + 1 + 1 + 1, o4), (L + 1 + 1 + 1, o3), (L + 1 + 1, o2), (247, tabObj tb)] F2 N2 (c := L + 1) (by rfl) (by k_mem) d1 (by intro q hq; simp only [List.mem_cons, List.not_mem_nil, or_false] at hq; (rcases hq with rfl | rfl | rfl | rfl | rfl | rfl) <;> exact ⟨by k_mem, by first | exact Nat.ne_of_gt (by show (_ : Nat) < _; omega) | exact Nat.ne_of_lt (by show (_ : Nat) < _; omega)⟩) (fun h3 o1' F3 N3 d1' => ?_)
  k_steps
  refine wpAny_call (table_spec h3w F3 N3 X T (by k_room) ?_)
  intro h4 tk4 D4 o4' ht hD4 F4 N4 l4
  dsimp only
  k_steps
  have hD : @LT.lt Nat _ (L + 1 + 1 + 1 + 1 + 1 + 1) D4 := l4 (L + 1 + 1 + 1 + 1 + 1 + 1, o6) (by k_mem)
  refine store_cell [(D4, o4'), (L + 1, o1'), (L + 1 + 1 + 1 + 1 + 1 + 1, o6), (L + 1 + 1 + 1 + 1 + 1, o5), (L + 1 + 1 + 1 + 1, o4), (L + 1 + 1 + 1, o3), (247, tabObj tb)] F4 N4 (c := L + 1 + 1) (by rfl) (by k_mem) d2 (by intro q hq; simp only [List.mem_cons, List.not_mem_nil, or_false] at hq; (rcases hq with rfl | rfl | rfl | rfl | rfl | rfl | rfl) <;> exact ⟨by k_mem, by first | exact Nat.ne_of_gt (by show (_ : Nat) < _; omega) | exact Nat.ne_of_lt (by show (_ : Nat) < _; omega)⟩) (fun h5 o2' F5 N5 d2' => ?_)
  k_steps
  refine PyProof.Rows.LCg.Assign_ListComp_U F5 (by rfl) (by with_unfolding_all rfl) (by with_unfolding_all rfl) (by decide) (by rfl) (by decide) (by rfl) (by rfl) (by rfl) ?_
  k_steps
  refine kmk_slice F5 (N5.grown fun _ _ e => e) (hl.at fun o e => F5.keep _ o e) .none (.int 3 _) (fun D6 h6 F6 N6 l6 => ?_) (by with_unfolding_all rfl) (by intro _; with_unfolding_all rfl) (by rw [sizeLine_eq, List.size_toArray, hi.length]; omega)
  have hsl : slicePick vs.toArray none (some 3) none = (vs.take 3).toArray := slicePick_upto' vs.toArray 3
  rw [hsl] at N6
  k_steps
  rename_i lb hb Fb Nb l1b
  refine add_arrays_ints Fb Nb (News.isList Nb (.tail _ (.head _))) (News.isList Nb (.head _)) (hi.take 3) (.cons _ _ (.cons _ _ (.cons _ _ (.cons _ _ (.cons _ _ (.cons _ _ .nil)))))) (fun h7 F7 N7 hij => ?_) (by rw [sizeLine_eq, List.length_take]; simp; omega)
  refine src_inv BidInv hh F7 N7 (.head _) (by rw [sizeLine_eq]; simp; omega) ⟨[], [], rfl, .nil, .nil, rfl⟩ ?_ ?_
  · rintro g i ys nw v I oI C oC D8 m₂ h8 tk8 E' hi' ⟨ex, bs, rfl, ha, hA, hle⟩ hv hC hx2 F8 N8 off ne
    obtain ⟨xv, tv, rfl, _⟩ := IntsAre.at hij i v hv
    k_steps
    refine wpAny_call (bidder_spec F8 N8 X T (by k_room) ?_)
    intro h9 tk9 D9 n9 nm toll t1 t2 hok h0' h1' F9 N9 l9
    dsimp only
    k_steps
    unfold Hold
    refine end_one F9 N9 off l9 (.inr ⟨_, .tail _ (List.mem_append_right _ (.head _)), rfl, _, rfl⟩) ⟨(D9, _) :: ex, bs ++ [(nm, toll)], rfl, .cons (fun r hr => Nat.ne_of_gt (l9 r (.tail _ (.tail _ (.tail _ (List.mem_append_right _ hr)))))) ha, (hA.mono fun v b h => h.mono fun q hq => .tail _ hq).append (.cons ⟨D9, n9, t1, t2, rfl, .head _, hok, h0', h1'⟩ .nil), by simp [hle]⟩
  · rintro g ys nw ⟨ex, bs, rfl, ha, hA, hle⟩
    intro D9 h9 tk9 F9 N9 o9
    have ha' : Apart ((D9, PyProof.Rows.LCg.lst ys) :: (D4, o4') :: ex) (Cells6 L o1' o2' o3 o4 o5 o6 tb) := by
      refine .cons (fun r hr => ?_) (.cons (fun r hr => ?_) fun q hq r hr => ha q hq r ?_)
      · exact Ne.symm (off1_mem o9 r (List.mem_append_right _ (List.mem_cons_of_mem _ (List.mem_cons_of_mem _ (List.mem_cons_of_mem _ (cells_sub hr))))))
      · simp only [List.mem_cons, List.not_mem_nil, or_false] at hr
        rcases hr with rfl | rfl | rfl | rfl | rfl | rfl | rfl <;> exact Nat.ne_of_gt (by show (_ : Nat) < _; omega)
      · exact List.mem_cons_of_mem _ (List.mem_cons_of_mem _ (List.mem_cons_of_mem _ (cells_sub hr)))
    refine k _ _ _ D4 o4' o1' o2' D9 _ ys bs _ _ h3w ha' (.tail _ (.head _)) ht hD4 d1' d2' (.head _) (hA.mono fun v b h => h.mono fun q hq => .tail _ (.tail _ hq)) ?_ ?_ F9 (fun q hq => N9 q ?_)
    · rw [hle]; simp; omega
    · rw [hle]; simp
    · rcases List.mem_append.mp hq with hq | hq
      · rcases List.mem_cons.mp hq with rfl | hq
        · exact .head _
        · rcases List.mem_cons.mp hq with rfl | hq
          · exact .tail _ (List.mem_append_right _ (.tail _ (.tail _ (.tail _ (.tail _ (.head _))))))
          · exact .tail _ (List.mem_append_left _ hq)
      · exact .tail _ (List.mem_append_right _ (.tail _ (.tail _ (.tail _ (cells_sub hq)))))

end

section
local macro_rules | `(tactic| walk_at "call builtin:list.append") => `(tactic| refine held ?_)
local macro_rules | `(tactic| walk_at "assign Tuple ref") => `(tactic| refine held ?_)
local macro_rules | `(tactic| walk_at "compareOp In str ref") => `(tactic| refine held ?_)
local macro_rules | `(tactic| walk_at "call builtin:len") => `(tactic| with_reducible refine heldLen ?_)
local macro_rules | `(tactic| walk_at "binaryOp Add str str") => `(tactic| refine held ?_)
local macro_rules | `(tactic| walk_at "call builtin:str.replace") => `(tactic| refine held ?_)
local macro_rules | `(tactic| walk_at "CompEnd") => `(tactic| refine held ?_)
local macro_rules | `(tactic| walk_at "exec Expr") => `(tactic| (refine heldAt 1 (by with_reducible assumption) ?_; refine held ?_))
local macro_rules | `(tactic| walk_at "subscriptTail") => `(tactic| ((with_reducible show wpAny _ _ (subscriptTail (Expr.List _ _) _ _ _) _ _ _); refine held ?_))
noncomputable def ptOf (which : Int) (b : Str × Int) : Int × Int := (4 * (hits which b.1 : Int), b.2 + ((spell which 0 b.1).length : Int))
noncomputable def StrIs (v : Value) (x : Str) : Prop := ∃ t, v = .str x t
noncomputable def KeepM (m₀ m₁ : Str → Option Value) (ys : List Str) : Prop := ∀ y, y ∉ ys → m₁ y = m₀ y
inductive BJ (m₀ : Str → Option Value) (news : List (Addr × Obj)) (which : Int) (bs : List (Str × Int)) (P W : Addr) (i : Nat) (m₁ : Str → Option Value) (nw : List (Addr × Obj)) : Prop
  | mk (ex pvs wvs nP nW) (f1 : nw = (P, listOf pvs.toArray nP) :: (W, listOf wvs.toArray nW) :: (ex ++ news)) (f2 : All2 (Tup2 ex) pvs ((bs.take i).map (ptOf which))) (f3 : All2 StrIs wvs ((bs.take i).map (·.1))) (f4 : Apart ex news) (f5 : (∀ q ∈ (W, listOf wvs.toArray nW) :: (ex ++ news), q.1 ≠ P)) (f6 : (∀ q ∈ ex ++ news, q.1 ≠ W)) (f7 : m₁ (Str.ofString "points") = some (.ref P)) (f8 : m₁ (Str.ofString "worn") = some (.ref W)) (f9 : KeepM m₀ m₁ [Str.ofString "points", Str.ofString "worn", Str.ofString "name", Str.ofString "toll", Str.ofString "tail"])
theorem item_tails {prog : Program} {w : World} {A : Around} {E : Value → Shared → Prop} {s : Shared} {h₀ : Heap} {L D : Addr} {news : List (Addr × Obj)} {t0 t1 t2 : Tok} {n : Nat} {value slice : PySem.Expr} {k : Int} {u : Tok} {Q : Value → Shared → Prop}
    (N : News h₀ L s.heap news) (hm : (D, listOf (List.toArray [.str (Str.ofString "") t0, .str (Str.ofString " it is") t1, .str (Str.ofString ", \"so\" they say") t2]) n) ∈ news) (hk : k = 0 ∨ k = 1 ∨ k = 2)
    (h : ∀ x t, x.length ≤ 20 → x.cps.toList.head? ≠ some 34 → Q (.str x t) s)
    (hs : subscripted slice false (.ref D) (.int k u) = operate [.ref D, .int k u] (getItem (.ref D) (.int k u)) := by with_unfolding_all rfl) :
    wpAny (model prog w) A (subscriptTail value slice (.ref D) (.int k u)) Q E s := by
  rcases hk with rfl | rfl | rfl
  · exact item_news N hm (by decide) (by decide) rfl (h _ _ (by decide) (by decide)) hs
  · exact item_news N hm (by decide) (by decide) rfl (h _ _ (by decide) (by decide)) hs
  · exact item_news N hm (by decide) (by decide) rfl (h _ _ (by decide) (by decide)) hs
theorem rep_dbl (x : Str) : Txt.replace x (Str.ofString "\"") (Str.ofString "\"\"") = ⟨(StrLaws.dbl 34 x.cps.toList).toArray⟩ :=
  Str.ext' (Array.toList_inj.mp (by rw [show Str.ofString "\"" = (⟨#[34]⟩ : Str) from rfl, show Str.ofString "\"\"" = (⟨#[34, 34]⟩ : Str) from rfl, StrLaws.replace_double]))
theorem dbl_le : ∀ l : List Nat, (StrLaws.dbl 34 l).length ≤ 2 * l.length
  | [] => Nat.le_refl _
  | c :: l => by
    have := dbl_le l
    by_cases h : c = 34
    · subst h; rw [dbl_cons34]; simp only [List.length_cons]; omega
    · rw [dbl_cons_ne h]; simp only [List.length_cons]; omega
theorem reply_rep {x : Str} (hx : OkName x) : (Txt.replace x (Str.ofString "\"") (Str.ofString "\"\"")).length ≤ 12 := by
  rw [rep_dbl]
  show (StrLaws.dbl 34 x.cps.toList).toArray.size ≤ 12
  have h1 := dbl_le x.cps.toList
  have e : x.cps.toList.length = x.length := by simp [Str.length]
  have := hx.1
  rw [List.size_toArray]; omega
theorem reply257 (x tlx : Str) : (Str.ofString "257 \"" ++ Txt.replace x (Str.ofString "\"") (Str.ofString "\"\"") ++ Str.ofString "\"" ++ tlx).cps.toList = [50, 53, 55, 32, 34] ++ StrLaws.dbl 34 x.cps.toList ++ 34 :: tlx.cps.toList := by
  rw [rep_dbl]
  simp only [Str.cps_append, Array.toList_append]
  show [50, 53, 55, 32, 34] ++ StrLaws.dbl 34 x.cps.toList ++ [34] ++ tlx.cps.toList = _
  simp
theorem news_p5 {h₀ h : Heap} {L : Addr} {t p d i w : Addr × Obj} {rest : List (Addr × Obj)} (N : News h₀ L h (t :: p :: d :: i :: w :: rest)) : News h₀ L h (w :: p :: d :: i :: rest) := fun q hq => N q (by
  simp only [List.mem_cons] at hq ⊢
  rcases hq with h | h | h | h | h
  · exact .inr (.inr (.inr (.inr (.inl h))))
  · exact .inr (.inl h)
  · exact .inr (.inr (.inl h))
  · exact .inr (.inr (.inr (.inl h)))
  · exact .inr (.inr (.inr (.inr (.inr h)))))
theorem news_p6 {h₀ h : Heap} {L : Addr} {w p d i : Addr × Obj} {rest : List (Addr × Obj)} (N : News h₀ L h (w :: p :: d :: i :: rest)) : News h₀ L h (i :: p :: w :: d :: rest) := fun q hq => N q (by
  simp only [List.mem_cons] at hq ⊢
  rcases hq with h | h | h | h | h
  · exact .inr (.inr (.inr (.inl h)))
  · exact .inr (.inl h)
  · exact .inl h
  · exact .inr (.inr (.inl h))
  · exact .inr (.inr (.inr (.inr h))))
theorem news_p4 {h₀ h : Heap} {L : Addr} {a b i p w : Addr × Obj} {rest : List (Addr × Obj)} (N : News h₀ L h (a :: b :: i :: p :: w :: rest)) : News h₀ L h (p :: a :: i :: w :: rest) := fun q hq => N q (by
  simp only [List.mem_cons] at hq ⊢
  rcases hq with h | h | h | h | h
  · exact .inr (.inr (.inr (.inl h)))
  · exact .inl h
  · exact .inr (.inr (.inl h))
  · exact .inr (.inr (.inr (.inr (.inl h))))
  · exact .inr (.inr (.inr (.inr (.inr h)))))
theorem ne4 {P : Addr} {a i : Addr × Obj} {rest : List (Addr × Obj)} (h1 : a.1 ≠ P) (h2 : i.1 ≠ P) (h3 : ∀ q ∈ rest, q.1 ≠ P) : ∀ q ∈ a :: i :: rest, q.1 ≠ P := fun q hq => by
  rcases List.mem_cons.mp hq with rfl | hq
  · exact h1
  · rcases List.mem_cons.mp hq with rfl | hq
    · exact h2
    · exact h3 q hq
set_option maxRecDepth 100000 in
set_option maxHeartbeats 8000000 in
theorem stB {q : Str} {fa : Addr} {cd : Value} {Q : Flow → Shared → Prop} {B T4 : Addr} {nB : Nat} {ys : List Value} {bs : List (Str × Int)} {o2 o4 : Obj} {which : Int}
    (F : Fr h₀ L s.heap m) (N : News h₀ L s.heap news) (X : (hd.heap_1 w.params).In h₀) (T : Top p loose mean mg mb h₀)
    (hh : A.handled = none) (hroom : A.depth + 200 < recursionLimit) (hu : A.units + 2000 < cLine) (h3 : which = 0 ∨ which = 1 ∨ which = 2)
    (hB : m (Str.ofString "bidders") = some (.ref B)) (hBm : (B, listOf ys.toArray nB) ∈ news) (hA : All2 (Bid news) ys bs) (hlen : ys.length ≤ 100)
    (hc2 : (L + 1 + 1, o2) ∈ news) (d2 : o2.data = .cell (some (.ref T4))) (hT4 : (T4, o4) ∈ news) (ht : TabFor prog w o4 which) (hs4 : (T4 == sysModules) = false)
    (k : ∀ h' tk ex m' P W nP nW pvs wvs, (P, listOf pvs.toArray nP) ∈ ex → (W, listOf wvs.toArray nW) ∈ ex → All2 (Tup2 ex) pvs (bs.map (ptOf which)) → All2 StrIs wvs (bs.map (·.1)) → Apart ex news →
      m' (Str.ofString "points") = some (.ref P) → m' (Str.ofString "worn") = some (.ref W) → KeepM m m' [Str.ofString "points", Str.ofString "worn", Str.ofString "name", Str.ofString "toll", Str.ofString "tail"] → Fr h₀ L h' m' → News h₀ L h' (ex ++ news) →
      wpAny (model prog w) A (execs (lawRest w.params 6) (lawEnv w.params q L fa cd)) Q (fun _ _ => False) { s with heap := h', toks := tk }) :
    wpAny (model prog w) A (execs (lawRest w.params 3) (lawEnv w.params q L fa cd)) Q (fun _ _ => False) s := by
  unfold lawRest lawEnv lawPieces fnPieces
  dsimp only [List.drop]
  k_steps
  refine For_invT h₀ ?_ (by intro _; rfl) PassesOwn.never
  k_steps
  rename_i P hP l1P hP2 W hW l1W h2 F2 N2
  have hPW : W ≠ P := Nat.ne_of_gt l1W.1
  have hWn : ∀ q ∈ news, q.1 ≠ W := fun q hq => Nat.ne_of_lt (tb_ltOf l1W.2 q hq)
  have hPn : ∀ q ∈ news, q.1 ≠ P := fun q hq => Nat.ne_of_lt (l1P q hq)
  refine for_list (L := L) (BJ m news which bs P W) rfl hh F2 (news := (P, listOf (List.toArray []) 0) :: (W, listOf (List.toArray []) 0) :: ([] ++ news)) (fun q hq => N2 q ?_) (.tail _ (.tail _ hBm))
    ⟨[], [], [], 0, 0, rfl, .nil, .nil, .nil, fun q hq => ?_, hWn, rfl, rfl, fun y hy => ?_⟩ ?_ ?_
  · rcases List.mem_cons.mp hq with rfl | hq
    · exact .tail _ (.head _)
    · rcases List.mem_cons.mp hq with rfl | hq
      · exact .head _
      · exact .tail _ (.tail _ hq)
  · rcases List.mem_cons.mp hq with rfl | hq
    · exact hPW
    · exact hPn q hq
  · simp only [List.mem_cons, List.not_mem_nil, or_false, not_or] at hy
    simp only [hy, if_false]
  · rintro i v m₁ _ s₁ I oI hcI hv ⟨ex, pvs, wvs, nP, nW, rfl, hPs, hWs, ha, hP1, hW1, mP, mW, mK⟩ hBm1 hI F3 N3
    have hil : i < bs.length := by rw [← hA.1]; exact (List.getElem?_eq_some_iff.mp hv).1
    obtain ⟨aT, nT, tx, tu, rfl, hTm, hok, ht0, ht1⟩ := hA.2 i v bs[i] hv (List.getElem?_eq_getElem hil)
    generalize hb : bs[i] = b at *
    obtain ⟨x, toll⟩ := b
    dsimp only at hTm hok ht0 ht1
    have hTm2 : (aT, tupO [.str x tx, .int toll tu] nT) ∈ ex ++ news := List.mem_append_right _ hTm
    have hc22 : (L + 1 + 1, o2) ∈ ex ++ news := List.mem_append_right _ hc2
    have hT42 : (T4, o4) ∈ ex ++ news := List.mem_append_right _ hT4
    have hpl : pvs.length ≤ 1000 := by have h1 := hPs.1; have h2 := hA.1; rw [List.length_map, List.length_take] at h1; omega
    have hwl : wvs.length ≤ 1000 := by have h1 := hWs.1; have h2 := hA.1; rw [List.length_map, List.length_take] at h1; omega
    refine unpackN_ F3 N3 (News.isTup N3 (.tail _ (.tail _ (.tail _ hTm2)))) hh rfl rfl ?_
    intro h4 F4 N4
    k_steps
    rename Fr _ _ _ _ => F5; rename News _ _ _ _ => N5
    obtain ⟨kvs, hd9, hkv⟩ := id ht
    refine comp_ST F5 (by with_unfolding_all rfl) (by decide) rfl (by decide) rfl ?_
    walk1
    refine ⟨x, _, _, rfl, hh, F5, N5, by rw [sizeLine_eq]; exact Nat.le_trans hok.1 (by decide), name_ascii hok, ?_⟩
    rintro s₂ ⟨g2, rfl⟩
    refine restT_inv (fun j zs nw => nw = (I, oI) :: (P, listOf pvs.toArray nP) :: (W, listOf wvs.toArray nW) :: (ex ++ news) ∧ zs.length = ((x.cps.toList.take j).filter fun c => (word which c).isSome).length) ⟨rfl, rfl⟩ ?_ ?_
    · rintro j zs nw v I2 oI2 C oC D' m₂ h6 tk6 E' hj ⟨rfl, hz⟩ ⟨c, u, hc, rfl⟩ hC hx2 F6 N6 off ne
      have hcs : c ∈ signs := hok.2 c (Array.mem_toList_iff.mpr (Array.mem_of_getElem? hc))
      have hlt : (x.cps.toList.take (j + 1)) = x.cps.toList.take j ++ [c] := by
        rw [List.take_add_one]; congr 1; simp [hc]
      have hw := hkv c hcs
      have hD6 : (T4, o4) ∈ (I2, oI2) :: (C, oC) :: (D', PyProof.Rows.LCg.lst zs) :: (I, oI) :: (P, listOf pvs.toArray nP) :: (W, listOf wvs.toArray nW) :: (ex ++ news) := .tail _ (.tail _ (.tail _ (.tail _ (.tail _ (.tail _ hT42)))))
      k_steps
      unfold Hold
      cases hwc : word which c with
      | none =>
        rw [hwc] at hw; dsimp only at hw
        refine kda_in (knd := PySem.strKind _ _) N6 hD6 hd9 hs4 (strKind_is _ _ _ _) false (by rw [hw]; rfl) ?_
        k_steps
        unfold Hold
        refine PyProof.Rows.LCg.CompEnd.intro F6 N6 _ (fun q hq => hq) off trivial ⟨rfl, ?_⟩
        rw [hlt, List.filter_append, hz]; simp [hwc]
      | some wd =>
        rw [hwc] at hw; dsimp only at hw
        obtain ⟨tv, hw⟩ := hw
        refine kda_in (knd := PySem.strKind _ _) N6 hD6 hd9 hs4 (strKind_is _ _ _ _) true (by rw [hw]; rfl) ?_
        k_steps
        unfold Hold
        refine PyProof.Rows.LCg.CompEnd.intro F6 N6 _ (fun q hq => hq) off trivial ⟨rfl, ?_⟩
        rw [hlt, List.filter_append, List.length_append, List.length_append, hz]; simp [hwc]
    · rintro zs nw ⟨rfl, hz⟩ D6 h6 tk6 F6 N6 o6
      have hz' : zs.length = hits which x := by rw [hz, ← Array.length_toList, List.take_length]; rfl
      k_steps
      refine len_news N6 (.head _) (by rw [hz']; exact Nat.le_trans (hits_le hok) (by decide)) ?_
      intro t7 tk7
      rw [hz']
      k_steps
      have hT62 : (T4, o4) ∈ (D6, PyProof.Rows.LCg.lst zs) :: (I, oI) :: (P, listOf pvs.toArray nP) :: (W, listOf wvs.toArray nW) :: (ex ++ news) := .tail _ (.tail _ (.tail _ (.tail _ hT42)))
      refine wpAny_call (spelled_spec (which := which) (turn := 0) hok (by decide) hT62 ht hs4 F6 N6 X T hh (by omega) ?_)
      intro h8 tk8 t8 F8 N8
      have hsl : (spell which 0 x).length ≤ 108 := spell_len (by decide) hok
      dsimp only
      k_steps
      rename Fr _ _ _ _ => F9; rename News _ _ _ _ => N9; rename Addr => DT; rename (_ ∧ _) => lT
      refine append_news F9 (news_p4 N9) (ne4 (Nat.ne_of_gt lT.2.2.1) (Ne.symm (hI (P, _) (.head _))) hP1) hpl ?_
      intro h10 F10 N10
      k_steps
      rename News _ _ _ _ => N11
      refine item_tails N11 (.head _) (mod3 toll) (fun tlx ttl hl1 hl2 => ?_)
      k_steps
      refine SC.replaceW (Nat.succ_ne_zero _) (Nat.succ_ne_zero _) (Nat.ne_of_lt (Nat.lt_succ_self _)) (by decide +kernel) (Nat.le_trans hok.1 (by decide)) (by decide) ?_
      intro t12 k12
      have hrl : (Txt.replace x (Str.ofString "\"") (Str.ofString "\"\"")).length ≤ 12 := reply_rep hok
      k_steps
      refine SB.add (fun t13 k13 => ?_) (by rw [sizeLine_eq]; exact Nat.le_trans (Nat.add_le_add_left hrl _) (by decide))
      k_steps
      refine SB.add (fun t14 k14 => ?_) (by rw [sizeLine_eq, Str.length_append]; exact Nat.le_trans (Nat.add_le_add_right (Nat.add_le_add_left hrl _) _) (by decide))
      k_steps
      refine SB.add (fun t15 k15 => ?_) (by rw [sizeLine_eq, Str.length_append, Str.length_append]; exact Nat.le_trans (Nat.add_le_add (Nat.add_le_add_right (Nat.add_le_add_left hrl _) _) hl1) (by decide))
      k_steps
      rename Fr _ _ _ _ => F16; rename News _ _ _ _ => N16
      refine wpAny_call (p257_spec (l := x.cps.toList) (tl := tlx.cps.toList) (reply257 x tlx) (by rw [Str.length_append, Str.length_append, Str.length_append]; exact Nat.le_trans (Nat.add_le_add (Nat.add_le_add_right (Nat.add_le_add_left hrl _) _) hl1) (by decide)) hl2 F16 N16 X T (by k_room) ?_)
      intro h17 tk17 t17 F17 N17
      rw [show (⟨x.cps.toList.toArray⟩ : Str) = x from Str.ext' (Array.toArray_toList ..)]
      dsimp only
      k_steps
      have hDW : DT ≠ W := Nat.ne_of_gt lT.2.2.2.1
      have hIW : I ≠ W := Ne.symm (hI (W, _) (.tail _ (.head _)))
      refine append_news F17 (news_p5 N17) (fun q hq => ?_) hwl ?_
      · rcases List.mem_cons.mp hq with rfl | hq
        · exact Ne.symm hPW
        · rcases List.mem_cons.mp hq with rfl | hq
          · exact hDW
          · rcases List.mem_cons.mp hq with rfl | hq
            · exact hIW
            · exact hW1 q hq
      intro h18 F18 N18
      k_steps
      have htk : bs.take (i + 1) = bs.take i ++ [(x, toll)] := by
        rw [List.take_add_one, List.getElem?_eq_getElem hil, hb]; rfl
      refine Turned.intro F18 (news_p6 N18) (fun r hr => ?_) ⟨.tail _ (.tail _ (.tail _ (List.mem_append_right _ hBm))), (DT, _) :: ex, pvs ++ [.ref DT], wvs ++ [.str x t17], _, _, rfl, ?_, ?_, .cons (fun r hr => Nat.ne_of_gt (tb_ltOf lT.2.2.2.2 r (List.mem_append_right _ hr))) ha, ?_, ?_, ?_, ?_, ?_⟩
      · rcases List.mem_cons.mp hr with rfl | hr
        · exact hI (P, listOf pvs.toArray nP) (.head _)
        · rcases List.mem_cons.mp hr with rfl | hr
          · exact hI (W, listOf wvs.toArray nW) (.tail _ (.head _))
          · rcases List.mem_cons.mp hr with rfl | hr
            · exact Nat.ne_of_gt lT.2.1
            · exact hI r (.tail _ (.tail _ hr))
      · rw [htk, List.map_append]
        exact (hPs.mono fun v b h => h.mono fun r hr => .tail _ hr).append (.cons ⟨DT, _, _, _, rfl, .head _⟩ .nil)
      · rw [htk, List.map_append]
        exact hWs.append (.cons ⟨_, rfl⟩ .nil)
      · intro r hr
        rcases List.mem_cons.mp hr with rfl | hr
        · exact hPW
        · rcases List.mem_cons.mp hr with rfl | hr
          · exact Nat.ne_of_gt lT.2.2.1
          · exact hP1 r (.tail _ hr)
      · intro r hr
        rcases List.mem_cons.mp hr with rfl | hr
        · exact hDW
        · exact hW1 r hr
      · exact mP
      · exact mW
      · intro y hy
        have := mK y hy
        simp only [List.mem_cons, List.not_mem_nil, or_false, not_or] at hy
        simp only [hy, if_false]
        exact this
  · rintro h' tk' m' _ F' N' hBm' ⟨ex, pvs, wvs, nP, nW, rfl, hPs, hWs, ha, hP1, hW1, mP, mW, mK⟩
    have hfull : bs.take ys.length = bs := by rw [hA.1, List.take_length]
    rw [hfull] at hPs hWs
    exact k h' tk' ((P, listOf pvs.toArray nP) :: (W, listOf wvs.toArray nW) :: ex) m' P W nP nW pvs wvs (.head _) (.tail _ (.head _)) (hPs.mono fun v b h => h.mono fun r hr => .tail _ (.tail _ hr)) hWs
      (.cons (fun r hr => Ne.symm (hP1 r (.tail _ (List.mem_append_right _ hr)))) (.cons (fun r hr => Ne.symm (hW1 r (List.mem_append_right _ hr))) ha)) mP mW mK F' N'

end

section
local macro_rules | `(tactic| walk_at "call builtin:list.append") => `(tactic| refine held ?_)
local macro_rules | `(tactic| walk_at "CompEnd") => `(tactic| refine held ?_)
local macro_rules | `(tactic| walk_at "compareOp NotEq ref ref") => `(tactic| refine held ?_)
local macro_rules | `(tactic| walk_at "storeName") => `(tactic| with_reducible refine heldStore "turn" ?_)
noncomputable def nameAt (which : Int) (i : Nat) (x : Str) : Str := match i with | 0 => x | i + 1 => spell which i x
theorem nameAt_len {which : Int} {i : Nat} {x : Str} (hi : i ≤ 4) (hx : OkName x) : (nameAt which i x).length ≤ 1000 := by
  cases i with
  | zero => exact Nat.le_trans hx.1 (by decide)
  | succ i => exact Nat.le_trans (spell_len (by omega) hx) (by decide)
theorem word_small {which : Int} {c : Nat} {wd : Str} (h : word which c = some wd) : ∀ d ∈ wd.cps.toList, d < 128 := by
  unfold word at h
  repeat' split at h
  all_goals first
    | (cases h; done)
    | (injection h with h; subst h; decide +kernel)
theorem dat_strs {news : List (Addr × Obj)} {which : Int} {i : Nat} : ∀ {vs : List Value} {bs : List (Str × Int)}, All2 StrIs vs (bs.map fun b => spell which i b.1) → DatAll news vs (bs.map fun b => Dat.str (spell which i b.1))
  | [], [], _ => .nil
  | [], _ :: _, h => by have := h.1; simp at this
  | _ :: _, [], h => by have := h.1; simp at this
  | v :: vs, b :: bs, h => by
    obtain ⟨t, rfl⟩ := h.2 0 v (spell which i b.1) rfl rfl
    exact .cons (.str _ t) (dat_strs ⟨by have := h.1; simpa using this, fun j v p a b => h.2 (j + 1) v p (by simpa using a) (by simpa using b)⟩)
theorem spell_ok {which : Int} {i : Nat} {x : Str} (hx : OkName x) : kqdOk 8 (Dat.str (spell which i x)) = true := by
  show PyData.strOk (spell which i x) = true
  unfold PyData.strOk
  rw [Array.all_eq_true']
  intro c hc
  have hc' : c ∈ x.cps.toList.flatMap (spellC which i) := by simpa [spell] using hc
  obtain ⟨d, hd, hcd⟩ := List.mem_flatMap.mp hc'
  have hs := hx.2 d hd
  have hd128 : d < 128 := by
    simp only [signs, List.mem_cons, List.not_mem_nil, or_false] at hs
    rcases hs with rfl | rfl | rfl | rfl | rfl | rfl | rfl | rfl <;> decide
  have : c < 128 := by
    unfold spellC at hcd
    cases hw : word which d with
    | none => rw [hw] at hcd; rw [List.mem_singleton.mp hcd]; exact hd128
    | some wd =>
      rw [hw] at hcd
      rcases List.mem_cons.mp hcd with rfl | h
      · decide
      · rcases List.mem_append.mp h with h | h
        · simp only [List.mem_flatten, List.mem_replicate] at h
          obtain ⟨l, ⟨_, rfl⟩, hl⟩ := h
          simp only [List.mem_cons, List.not_mem_nil, or_false] at hl
          rcases hl with rfl | rfl | rfl | rfl <;> decide
        · exact word_small hw c h
  exact decide_eq_true (by omega)
theorem news_pR {h₀ h : Heap} {L : Addr} {a b c i r : Addr × Obj} {rest : List (Addr × Obj)} (N : News h₀ L h (a :: b :: c :: i :: r :: rest)) : News h₀ L h (r :: b :: c :: i :: rest) := fun q hq => N q (by
  simp only [List.mem_cons] at hq ⊢
  rcases hq with h | h | h | h | h
  · exact .inr (.inr (.inr (.inr (.inl h))))
  · exact .inr (.inl h)
  · exact .inr (.inr (.inl h))
  · exact .inr (.inr (.inr (.inl h)))
  · exact .inr (.inr (.inr (.inr (.inr h)))))
theorem news_q4 {h₀ h : Heap} {L : Addr} {r w c i : Addr × Obj} {rest : List (Addr × Obj)} (N : News h₀ L h (r :: w :: c :: i :: rest)) : News h₀ L h (i :: r :: c :: w :: rest) := fun q hq => N q (by
  simp only [List.mem_cons] at hq ⊢
  rcases hq with h | h | h | h | h
  · exact .inr (.inr (.inr (.inl h)))
  · exact .inl h
  · exact .inr (.inr (.inl h))
  · exact .inr (.inl h)
  · exact .inr (.inr (.inr (.inr h))))
theorem ne_same {prog : Program} {w : World} {A : Around} {E : Value → Shared → Prop} {s : Shared} {h₀ : Heap} {L a b : Addr} {news n₁ n₂ : List (Addr × Obj)} {oa ob : Obj} {xs ys : List Value} {ka kb : Nat} {ds : List Dat} {Q : Value → Shared → Prop}
    (N : News h₀ L s.heap news) (ma : (a, oa) ∈ news) (ca : oa.cls = .type "list") (da : oa.data = .seq xs.toArray ka) (Da : DatAll n₁ xs ds) (sa : ∀ p ∈ n₁, p ∈ news)
    (mb : (b, ob) ∈ news) (cb : ob.cls = .type "list") (db : ob.data = .seq ys.toArray kb) (Db : DatAll n₂ ys ds) (sb : ∀ p ∈ n₂, p ∈ news)
    (ha : ∀ d ∈ ds, kqdOk 8 d = true) (hu : A.units + 64 < cLine) (h : Q (.bool false) s) : wpAny (model prog w) A (compareOp .NotEq (.ref a) (.ref b)) Q E s := by
  refine kqd_ne N ma ca da Da sa mb cb db Db sb ha ha hu ?_
  simpa using h
theorem written_step {which : Int} (h3 : which = 0 ∨ which = 1 ∨ which = 2) (i : Nat) (x : Str) : escW which (nameAt which i x) = spell which i x := by
  cases i with
  | zero => exact escW_eq h3 x
  | succ i => exact escW_step h3 x i
inductive RoundAt (led : List (Addr × Obj)) (which : Int) (bs : List (Str × Int)) (rvs : List Value) (j : Nat) : Prop
  | mk (Wj wj nj) (f1 : rvs[j]? = some (.ref Wj)) (f2 : (Wj, listOf wj.toArray nj) ∈ led) (f3 : All2 StrIs wj (bs.map fun b => spell which j b.1))
inductive CJ (m₀ : Str → Option Value) (news : List (Addr × Obj)) (L : Addr) (which : Int) (bs : List (Str × Int)) (R : Addr) (i : Nat) (m₁ : Str → Option Value) (nw : List (Addr × Obj)) : Prop
  | mk (ex rvs nR o3 W wvs nW v3) (f1 : nw = (R, listOf rvs.toArray nR) :: (L + 1 + 1 + 1, o3) :: (ex ++ news)) (f2 : o3.data = .cell v3) (f3 : (∀ q ∈ (L + 1 + 1 + 1, o3) :: (ex ++ news), q.1 ≠ R)) (f4 : (∀ q ∈ ex ++ news, q.1 ≠ L + 1 + 1 + 1)) (f5 : Apart ex news) (f6 : m₁ (Str.ofString "rounds") = some (.ref R)) (f7 : m₁ (Str.ofString "worn") = some (.ref W)) (f8 : (W, listOf wvs.toArray nW) ∈ ex ++ news) (f9 : All2 StrIs wvs (bs.map fun b => nameAt which i b.1)) (f10 : rvs.length = i) (f11 : (∀ j, j < i → RoundAt (ex ++ news) which bs rvs j)) (f12 : KeepM m₀ m₁ [Str.ofString "rounds", Str.ofString "worn"])
set_option maxRecDepth 100000 in
set_option maxHeartbeats 8000000 in
theorem stC {q : Str} {fa : Addr} {cd : Value} {Q : Flow → Shared → Prop} {B T4 W : Addr} {nB nW : Nat} {ys wvs : List Value} {bs : List (Str × Int)} {o1 o2 o3 o4 : Obj} {v3 : Option Value} {which : Int} {tw : Tok}
    (F : Fr h₀ L s.heap m) (N : News h₀ L s.heap ((L + 1 + 1 + 1, o3) :: news)) (hne : ∀ q ∈ news, q.1 ≠ L + 1 + 1 + 1) (X : (hd.heap_1 w.params).In h₀) (T : Top p loose mean mg mb h₀)
    (hh : A.handled = none) (hroom : A.depth + 200 < recursionLimit) (hu : A.units + 2000 < cLine) (h3 : which = 0 ∨ which = 1 ∨ which = 2)
    (hB : m (Str.ofString "bidders") = some (.ref B)) (hBm : (B, listOf ys.toArray nB) ∈ news) (hA : All2 (Bid news) ys bs) (hlen : ys.length ≤ 100)
    (hW : m (Str.ofString "worn") = some (.ref W)) (hWm : (W, listOf wvs.toArray nW) ∈ news) (hWs : All2 StrIs wvs (bs.map (·.1)))
    (hc1 : (L + 1, o1) ∈ news) (d1 : o1.data = .cell (some (.int which tw))) (hc2 : (L + 1 + 1, o2) ∈ news) (d2 : o2.data = .cell (some (.ref T4))) (d3 : o3.data = .cell v3) (hT4 : (T4, o4) ∈ news) (ht : TabFor prog w o4 which) (hs4 : (T4 == sysModules) = false)
    (k : ∀ h' tk ex m' R rvs nR o3', Apart ex news → (∀ q ∈ ex, q.1 ≠ L + 1 + 1 + 1) → (R, listOf rvs.toArray nR) ∈ ex → m' (Str.ofString "rounds") = some (.ref R) → (∀ j, j < 2 → RoundAt (ex ++ news) which bs rvs j) →
      KeepM m m' [Str.ofString "rounds", Str.ofString "worn"] → Fr h₀ L h' m' → News h₀ L h' ((L + 1 + 1 + 1, o3') :: (ex ++ news)) →
      wpAny (model prog w) A (execs (lawRest w.params 8) (lawEnv w.params q L fa cd)) Q (fun _ _ => False) { s with heap := h', toks := tk }) :
    wpAny (model prog w) A (execs (lawRest w.params 6) (lawEnv w.params q L fa cd)) Q (fun _ _ => False) s := by
  unfold lawRest lawEnv lawPieces fnPieces
  dsimp only [List.drop]
  k_steps
  refine For_invT h₀ ?_ (by intro _; rfl) PassesOwn.never
  k_steps
  rename_i R hR l1R hR2 F1 N1 tkR hR3 t1 u1 v1 hr F2 N2 hk2
  have hRn : ∀ q ∈ news, q.1 ≠ R := fun q hq => Nat.ne_of_lt (tb_ltOf l1R.2 q hq)
  refine for_range (L := L) (n := 4) (CJ m news L which bs R) rfl hh F2 (news := (R, listOf (List.toArray []) 0) :: (L + 1 + 1 + 1, o3) :: ([] ++ news)) N2 hr (by decide) (by decide)
    ⟨[], [], 0, o3, W, wvs, nW, v3, rfl, d3, fun q hq => ?_, hne, .nil, rfl, hW, hWm, hWs, rfl, fun j hj => absurd hj (Nat.not_lt_zero _), fun y hy => ?_⟩ ?_ ?_
  · rcases List.mem_cons.mp hq with rfl | hq
    · exact Nat.ne_of_lt l1R.1
    · exact hRn q hq
  · simp only [List.mem_cons, List.not_mem_nil, or_false, not_or] at hy
    simp only [hy, if_false]
  · rintro i tt m₁ _ s₁ I oI hcI hi ⟨ex, rvs, nR, o3', W', wvs', nW', v3', rfl, d3', hRo, h3o, ha, mR, mW, hWm', hWs', hrl, hrd, mK⟩ hI F3 N3
    rw [Int.zero_add]
    have hBm1 : (B, listOf ys.toArray nB) ∈ ex ++ news := List.mem_append_right _ hBm
    have hc11 : (L + 1, o1) ∈ ex ++ news := List.mem_append_right _ hc1
    have hc22 : (L + 1 + 1, o2) ∈ ex ++ news := List.mem_append_right _ hc2
    have hT42 : (T4, o4) ∈ ex ++ news := List.mem_append_right _ hT4
    have mB : m₁ (Str.ofString "bidders") = some (.ref B) := (mK _ (by decide)).trans hB
    k_steps
    have hIL : I ≠ L + 1 + 1 + 1 := Ne.symm (hI (L + 1 + 1 + 1, o3') (.tail _ (.head _)))
    have hRL : R ≠ L + 1 + 1 + 1 := Ne.symm (hRo (L + 1 + 1 + 1, o3') (.head _))
    refine store_cell ((I, oI) :: (R, listOf rvs.toArray nR) :: (ex ++ news)) F3 N3 (c := L + 1 + 1 + 1) (by rfl) (.tail _ (.tail _ (.head _))) d3' (fun r hr => ?_) (fun h4 o3n F4 N4 d3n => ?_)
    · rcases List.mem_cons.mp hr with rfl | hr
      · exact ⟨.head _, hIL⟩
      · rcases List.mem_cons.mp hr with rfl | hr
        · exact ⟨.tail _ (.head _), hRL⟩
        · exact ⟨.tail _ (.tail _ (.tail _ hr)), h3o r hr⟩
    k_steps
    refine PyProof.Rows.LCg.Assign_ListComp_U F4 (by rfl) (by with_unfolding_all rfl) (by with_unfolding_all rfl) (by decide) (by rfl) (by decide) (by rfl) (by rfl) (by rfl) ?_
    k_steps
    have hbl : wvs'.length = bs.length := by have := hWs'.1; rw [List.length_map] at this; exact this
    have hb100 : bs.length ≤ 100 := by rw [← hA.1]; exact hlen
    refine src_inv (fun led j zs nw => nw = led ∧ All2 StrIs zs ((bs.take j).map fun b => spell which i b.1)) hh F4 N4 (.tail _ (.tail _ (.tail _ hWm'))) (by rw [sizeLine_eq]; omega) ⟨rfl, .nil⟩ ?_ ?_
    · rintro g j zs nw v I2 oI2 C oC D' m₂ h6 tk6 E' hj ⟨rfl, hz⟩ hv hC hx2 F6 N6 off ne
      have hjb : j < bs.length := by omega
      obtain ⟨tv, rfl⟩ := hWs'.2 j v (nameAt which i bs[j].1) hv (by rw [List.getElem?_map, List.getElem?_eq_getElem hjb]; rfl)
      obtain ⟨vj, hvj, aj, nj, txj, tuj, _, hTm, hok, _, _⟩ := hA.get (i := j) (List.getElem?_eq_getElem hjb)
      k_steps
      refine wpAny_call (written_spec (which := which) (nameAt_len (by omega) hok) h3 F6 N6 X T (by k_room) ?_)
      intro h7 tk7 t7 F7 N7
      rw [written_step h3]
      dsimp only
      k_steps
      unfold Hold
      refine PyProof.Rows.LCg.CompEnd.intro F7 N7 _ (fun q hq => hq) off (.inr ⟨_, .tail _ (.tail _ (.tail _ hWm')), rfl, _, rfl⟩) ⟨rfl, ?_⟩
      rw [List.take_add_one, List.getElem?_eq_getElem hjb, List.map_append]
      exact hz.append (.cons ⟨_, rfl⟩ .nil)
    · rintro g zs nw ⟨rfl, hz⟩ W7 h7 tk7 F7 N7 o7
      rw [hbl, List.take_length] at hz
      k_steps
      rename Fr _ _ _ _ => F8; rename News _ _ _ _ => N8
      refine PyProof.Rows.LCg.ListComp_U F8 (by with_unfolding_all rfl) (by decide) (by rfl) (by decide) (by rfl) ?_
      k_steps
      refine src_inv (fun led j xs nw => nw = led ∧ All2 StrIs xs ((bs.take j).map fun b => spell which i b.1)) hh F8 N8 (.tail _ (.tail _ (.tail _ (.tail _ hBm1)))) (by rw [sizeLine_eq]; omega) ⟨rfl, .nil⟩ ?_ ?_
      · rintro g2 j xs nw v I2 oI2 C oC D' m₂ h9 tk9 E' hj ⟨rfl, hxs⟩ hv hC hx2 F9 N9 off ne
        have hjb : j < bs.length := by have := hA.1; omega
        obtain ⟨aj, nj, txj, tuj, rfl, hTm, hok, _, _⟩ := hA.2 j v bs[j] hv (List.getElem?_eq_getElem hjb)
        generalize hbj : bs[j] = b at *
        obtain ⟨xj, tollj⟩ := b
        dsimp only at hTm hok
        have hTm2 : (aj, tupO [.str xj txj, .int tollj tuj] nj) ∈ ex ++ news := List.mem_append_right _ hTm
        k_steps
        refine wpAny_call (spelled_spec (which := which) (turn := i) hok (by omega) (.tail _ (.tail _ (.tail _ (.tail _ (.tail _ (.tail _ (.tail _ hT42))))))) ht hs4 F9 N9 X T hh (by omega) ?_)
        intro h10 tk10 t10 F10 N10
        dsimp only
        k_steps
        unfold Hold
        refine PyProof.Rows.LCg.CompEnd.intro F10 N10 _ (fun q hq => hq) off (.inr ⟨_, .tail _ (.tail _ (.tail _ (.tail _ hBm1))), rfl, _, rfl⟩) ⟨rfl, ?_⟩
        rw [List.take_add_one, List.getElem?_eq_getElem hjb, List.map_append, hbj]
        exact hxs.append (.cons ⟨_, rfl⟩ .nil)
      · rintro g2 xs nw ⟨rfl, hxs⟩ D9 h9 tk9 F9 N9 o9
        rw [hA.1, List.take_length] at hxs
        k_steps
        have hokS : ∀ d ∈ bs.map (fun b => Dat.str (spell which i b.1)), kqdOk 8 d = true := fun d hd => by
          obtain ⟨b, hb, rfl⟩ := List.mem_map.mp hd
          obtain ⟨jb, hjb, ejb⟩ := List.getElem_of_mem hb
          obtain ⟨vj, hvj, aj, nj, txj, tuj, _, hTm, hok, _, _⟩ := hA.get (i := jb) (List.getElem?_eq_getElem hjb)
          rw [ejb] at hok
          exact spell_ok hok
        refine ne_same (n₁ := []) (n₂ := []) (ds := bs.map (fun b => Dat.str (spell which i b.1))) N9 (.tail _ (.head _)) rfl rfl (dat_strs hz) (fun p hp => nomatch hp) (.head _) rfl rfl (dat_strs hxs) (fun p hp => nomatch hp) hokS (by omega) ?_
        k_steps
        have hWR : W7 ≠ R := fun e => off1_mem o7 (R, listOf rvs.toArray nR) (.tail _ (.tail _ (.head _))) e.symm
        have hIR : I ≠ R := Ne.symm (hI (R, listOf rvs.toArray nR) (.head _))
        have h3R : (L + 1 + 1 + 1 : Addr) ≠ R := hRo (L + 1 + 1 + 1, o3') (.head _)
        refine append_news F9 (news_pR N9) (fun r hr => ?_) (by omega) ?_
        · rcases List.mem_cons.mp hr with rfl | hr
          · exact hWR
          · rcases List.mem_cons.mp hr with rfl | hr
            · exact h3R
            · rcases List.mem_cons.mp hr with rfl | hr
              · exact hIR
              · exact hRo r (.tail _ hr)
        intro h11 F11 N11
        k_steps
        refine Turned.intro F11 (news_q4 N11) (fun r hr => ?_) ⟨(W7, PyProof.Rows.LCg.lst zs) :: ex, rvs ++ [.ref W7], _, o3n, W7, zs, _, _, rfl, d3n, fun r hr => ?_, fun r hr => ?_, .cons (fun r hr => ?_) ha, mR, rfl, .head _, hz, by simp [hrl], fun j hj => ?_, fun y hy => ?_⟩
        · rcases List.mem_cons.mp hr with rfl | hr
          · exact Ne.symm hIR
          · rcases List.mem_cons.mp hr with rfl | hr
            · exact Ne.symm hIL
            · rcases List.mem_cons.mp hr with rfl | hr
              · exact fun e => off1_mem o7 (I, oI) (.tail _ (.head _)) e.symm
              · exact hI r (.tail _ (.tail _ hr))
        · rcases List.mem_cons.mp hr with rfl | hr
          · exact h3R
          · rcases List.mem_cons.mp hr with rfl | hr
            · exact hWR
            · exact hRo r (.tail _ hr)
        · rcases List.mem_cons.mp hr with rfl | hr
          · exact fun e => off1_mem o7 (L + 1 + 1 + 1, o3n) (.head _) e.symm
          · exact h3o r hr
        · exact fun e => off1_mem o7 r (.tail _ (.tail _ (.tail _ (List.mem_append_right _ hr)))) e.symm
        · by_cases hji : j < i
          · obtain ⟨Wj, wj, nj, e1, e2, e3⟩ := hrd j hji
            exact ⟨Wj, wj, nj, by rw [List.getElem?_append_left (by omega)]; exact e1, .tail _ e2, e3⟩
          · have : j = i := by omega
            subst this
            exact ⟨W7, zs, _, by rw [List.getElem?_append_right (by omega), hrl]; simp, .head _, hz⟩
        · have := mK y hy
          simp only [List.mem_cons, List.not_mem_nil, or_false, not_or] at hy
          simp only [hy, if_false]
          exact this
  · rintro h' tk' m' _ F' N' ⟨ex, rvs, nR, o3', W', wvs', nW', v3', rfl, d3', hRo, h3o, ha, mR, mW, hWm', hWs', hrl, hrd, mK⟩
    refine k h' tk' ((R, listOf rvs.toArray nR) :: ex) m' R rvs nR o3' (.cons (fun r hr => Ne.symm (hRo r (.tail _ (List.mem_append_right _ hr)))) ha) (fun r hr => ?_) (.head _) mR
      (fun j hj => ?_) mK F' (fun r hr => N' r ?_)
    · rcases List.mem_cons.mp hr with rfl | hr
      · exact Ne.symm (hRo (L + 1 + 1 + 1, o3') (.head _))
      · exact h3o r (List.mem_append_left _ hr)
    · obtain ⟨Wj, wj, nj, e1, e2, e3⟩ := hrd j (by omega)
      exact ⟨Wj, wj, nj, e1, .tail _ e2, e3⟩
    · rcases List.mem_cons.mp hr with rfl | hr
      · exact .tail _ (.head _)
      · rcases List.mem_cons.mp hr with rfl | hr
        · exact .head _
        · exact .tail _ (.tail _ hr)

end

section
local macro_rules | `(tactic| walk_at "exec For Name Call cons nil") => `(tactic| refine held ?_)
local macro_rules | `(tactic| walk_at "CompEnd") => `(tactic| refine held ?_)
local macro_rules | `(tactic| walk_at "compareOp NotEq ref ref") => `(tactic| refine held ?_)
local macro_rules | `(tactic| walk_at "binaryOp Add str str") => `(tactic| refine held ?_)
local macro_rules | `(tactic| walk_at "binaryOp Mult str int") => `(tactic| refine held ?_)
local macro_rules | `(tactic| walk_at "subscriptTail Name Name ref int") => `(tactic| walk_at "my news")
local macro_rules | `(tactic| walk_at "subscriptTail Subscript Name ref int") => `(tactic| walk_at "my news")
local macro_rules | `(tactic| walk_at "subscriptTail Name Constant ref int") => `(tactic| first | walk_at "my tup" | walk_at "my news")
local macro_rules | `(tactic| walk_at "subscriptTail Subscript Constant ref int") => `(tactic| walk_at "my tup")
local macro_rules | `(tactic| walk_at "call builtin:len") => `(tactic| with_reducible refine heldLen ?_)
/-- an object that is no part of a wrapped point -/
noncomputable def NotQ (o : Obj) : Prop := (∀ d, o ≠ instObj 166 d) ∧ (∀ es n, o ≠ dictOf es n) ∧ (∀ vs n, o ≠ tupO vs n)
theorem notq_cls {o : Obj} {nm : String} (h : o.cls = .type nm) (h1 : nm ≠ "dict") (h2 : nm ≠ "tuple") : NotQ o :=
  ⟨fun d e => (by subst e; cases h), fun es n e => (by subst e; injection h with h; exact h1 h.symm), fun vs n e => (by subst e; injection h with h; exact h2 h.symm)⟩
theorem notq_cell {o : Obj} {v : Option Value} (h : o.data = .cell v) : NotQ o :=
  ⟨fun d e => (by subst e; cases h), fun es n e => (by subst e; cases h), fun vs n e => (by subst e; cases h)⟩
theorem QN.without {P : Params} {led led' : List (Addr × Obj)} {v : Value} {p : Int × Int} (h : QN P led v p) (hs : ∀ q ∈ led, q ∈ led' ∨ NotQ q.2) : QN P led' v p := by
  obtain ⟨x, d, tk, tv, e, h1, h2, a, n, t, u, e2, h3⟩ := h
  refine ⟨x, d, tk, tv, e, (hs _ h1).resolve_right fun h => h.1 d rfl, (hs _ h2).resolve_right fun h => h.2.1 _ _ rfl, a, n, t, u, e2, (hs _ h3).resolve_right fun h => h.2.2 _ _ rfl⟩
theorem apart_of {h₀ h : Heap} {L : Addr} {ex post : List (Addr × Obj)} (N : News h₀ L h (ex ++ post)) : ∃ ex', Apart ex' post ∧ (∀ q ∈ ex ++ post, q ∈ ex' ++ post) ∧ (∀ q ∈ ex', q ∈ ex) := by
  refine ⟨ex.filter fun q => !(post.map (·.1)).contains q.1, fun q hq r hr e => ?_, fun q hq => ?_, fun q hq => (List.mem_filter.mp hq).1⟩
  · have := (List.mem_filter.mp hq).2
    simp only [Bool.not_eq_true', List.contains_eq_mem, decide_eq_false_iff_not] at this
    exact this (e ▸ List.mem_map_of_mem hr)
  · rcases List.mem_append.mp hq with hq' | hq'
    · by_cases hc : q.1 ∈ post.map (·.1)
      · obtain ⟨r, hr, e⟩ := List.mem_map.mp hc
        have e1 := (N q hq).1
        have e2 := (N r (List.mem_append_right _ hr)).1
        rw [e, e1] at e2
        have : q = r := Prod.ext e.symm (Option.some.inj e2)
        exact List.mem_append_right _ (this ▸ hr)
      · exact List.mem_append_left _ (List.mem_filter.mpr ⟨hq', by simp only [Bool.not_eq_true', List.contains_eq_mem, decide_eq_false_iff_not]; exact hc⟩)
    · exact List.mem_append_right _ hq'
theorem news_h5 {h₀ h : Heap} {L : Addr} {a b c d i r : Addr × Obj} {rest : List (Addr × Obj)} (N : News h₀ L h (a :: b :: c :: d :: i :: r :: rest)) : News h₀ L h (r :: a :: b :: c :: d :: i :: rest) := fun q hq => N q (by
  simp only [List.mem_cons] at hq ⊢
  rcases hq with h | h | h | h | h | h | h
  · exact .inr (.inr (.inr (.inr (.inr (.inl h)))))
  · exact .inl h
  · exact .inr (.inl h)
  · exact .inr (.inr (.inl h))
  · exact .inr (.inr (.inr (.inl h)))
  · exact .inr (.inr (.inr (.inr (.inl h))))
  · exact .inr (.inr (.inr (.inr (.inr (.inr h))))))
theorem small_pt {which : Int} {b : Str × Int} (hok : OkName b.1) (h0 : 0 ≤ b.2) (h1 : b.2 < 100) : Small (ptOf which b) := by
  have a := hits_le (which := which) hok
  have c := spell_len (which := which) (turn := 0) (by decide) hok
  unfold Small ptOf
  dsimp only
  omega
inductive DJ (P : Params) (m₀ : Str → Option Value) (news : List (Addr × Obj)) (which : Int) (bs : List (Str × Int)) (H : Addr) (i : Nat) (m₁ : Str → Option Value) (nw : List (Addr × Obj)) : Prop
  | mk (ex hvs nH) (f1 : nw = (H, listOf hvs.toArray nH) :: (ex ++ news)) (f2 : Pts P (ex ++ news) hvs (hullOf ((bs.take i).map (ptOf which)))) (f3 : (∀ q ∈ ex ++ news, q.1 ≠ H)) (f4 : Apart ex news) (f5 : m₁ (Str.ofString "hull") = some (.ref H)) (f6 : KeepM m₀ m₁ [Str.ofString "hull", Str.ofString "k", Str.ofString "mark", Str.ofString "reply", Str.ofString "told"])
theorem ne_tup {prog : Program} {w : World} {A : Around} {E : Value → Shared → Prop} {s : Shared} {h₀ : Heap} {L A1 A2 : Addr} {news : List (Addr × Obj)} {a b : Int} {t u t' u' : Tok} {n n' : Nat} {Q : Value → Shared → Prop}
    (N : News h₀ L s.heap news) (ma : (A1, tupO [.int a t, .int b u] n) ∈ news) (mb : (A2, tupO [.int a t', .int b u'] n') ∈ news) (hu : A.units + 64 < cLine) (h : Q (.bool false) s) : wpAny (model prog w) A (compareOp .NotEq (.ref A1) (.ref A2)) Q E s := by
  have ok : kqdOk 9 (Dat.tuple [.int a, .int b]) = true := by simp [kqdOk]
  obtain ⟨as, ra⟩ := kqd_in N 9 (DatIn.tuple ma (.cons (.int a t) (.cons (.int b u) .nil))) ok
  obtain ⟨bs, rb⟩ := kqd_in N 9 (DatIn.tuple mb (.cons (.int a t') (.cons (.int b u') .nil))) ok
  have l := kqd_lay 9 (.tuple [.int a, .int b]) ok
  have e := (kqd_eqv 9 (.tuple [.int a, .int b]) (.tuple [.int a, .int b]) 9 ok ok).mpr rfl
  refine ne_dataH ra rb ?_ ?_ hu (by rw [e]; exact h)
  · unfold SeqAt.shaped; rw [l.1, Bool.true_and]; exact decide_eq_true (Nat.le_trans l.2 (by decide))
  · unfold SeqAt.shaped; rw [l.1, Bool.true_and]; exact decide_eq_true (Nat.le_trans l.2 (by decide))
theorem finD {P : Params} {h₀ h' : Heap} {L I H : Addr} {oI : Obj} {s : Shared} {tk : Nat} {m₀ m' : Str → Option Value} {a b c d : Addr × Obj} {ex15 ex news : List (Addr × Obj)} {vs : List Value} {n i : Nat} {which : Int} {bs : List (Str × Int)}
    (F : Fr h₀ L h' m') (N : News h₀ L h' ((H, listOf vs.toArray n) :: (ex15 ++ a :: b :: c :: d :: (I, oI) :: (ex ++ news)))) (hP : Pts P (ex15 ++ a :: b :: c :: d :: (I, oI) :: (ex ++ news)) vs (hullOf ((bs.take (i + 1)).map (ptOf which)))) (hx : ∀ p ∈ ex15, p.1 ≠ H)
    (qa : a.1 ≠ H ∧ a.1 ≠ I ∧ ∀ r ∈ news, a.1 ≠ r.1) (qb : b.1 ≠ H ∧ b.1 ≠ I ∧ ∀ r ∈ news, b.1 ≠ r.1) (qc : c.1 ≠ H ∧ c.1 ≠ I ∧ ∀ r ∈ news, c.1 ≠ r.1) (qd : d.1 ≠ H ∧ d.1 ≠ I ∧ ∀ r ∈ news, d.1 ≠ r.1)
    (hIH : H ≠ I) (hHo : ∀ q ∈ ex ++ news, q.1 ≠ H) (hIo : ∀ q ∈ ex ++ news, q.1 ≠ I) (ha : Apart ex news) (hcI : oI.cls = .type "range_iterator") (mH : m' (Str.ofString "hull") = some (.ref H))
    (mK : KeepM m₀ m' [Str.ofString "hull", Str.ofString "k", Str.ofString "mark", Str.ofString "reply", Str.ofString "told"]) :
    Turned h₀ L I oI s (fun m' nx => DJ P m₀ news which bs H (i + 1) m' nx) .next { s with heap := h', toks := tk } := by
  obtain ⟨ex16, ha16, hin16, hsub16⟩ := apart_of (ex := ex15) (post := a :: b :: c :: d :: (I, oI) :: (ex ++ news)) (fun r hr => N r (.tail _ hr))
  have four : ∀ {pr : Addr × Obj → Prop}, pr a → pr b → pr c → pr d → (∀ q ∈ ex16, pr q) → (∀ q ∈ ex, pr q) → ∀ q ∈ ex16 ++ a :: b :: c :: d :: ex, pr q := fun h1 h2 h3 h4 h5 h6 q hq => by
    rcases List.mem_append.mp hq with hq | hq
    · exact h5 q hq
    · rcases List.mem_cons.mp hq with rfl | hq
      · exact h1
      · rcases List.mem_cons.mp hq with rfl | hq
        · exact h2
        · rcases List.mem_cons.mp hq with rfl | hq
          · exact h3
          · rcases List.mem_cons.mp hq with rfl | hq
            · exact h4
            · exact h6 q hq
  have inN : ∀ q ∈ ex ++ news, q ∈ a :: b :: c :: d :: (I, oI) :: (ex ++ news) := fun q hq => .tail _ (.tail _ (.tail _ (.tail _ (.tail _ hq))))
  refine Turned.intro F (news₂ := (H, listOf vs.toArray n) :: ((ex16 ++ a :: b :: c :: d :: ex) ++ news)) (fun q hq => ?_) (fun q hq => ?_) ⟨_, vs, n, rfl, hP.mono fun v p h => h.without fun q hq => ?_, fun q hq => ?_, ?_, mH, mK⟩
  · rcases List.mem_cons.mp hq with rfl | hq
    · exact N _ (.tail _ (List.mem_append_right _ (.tail _ (.tail _ (.tail _ (.tail _ (.head _)))))))
    · rcases List.mem_cons.mp hq with rfl | hq
      · exact N _ (.head _)
      · rcases List.mem_append.mp hq with hq | hq
        · exact four (pr := fun q => h'.get? q.1 = some q.2 ∧ q.1 ≠ L ∧ h₀.get? q.1 = none) (N _ (.tail _ (List.mem_append_right _ (.head _)))) (N _ (.tail _ (List.mem_append_right _ (.tail _ (.head _))))) (N _ (.tail _ (List.mem_append_right _ (.tail _ (.tail _ (.head _)))))) (N _ (.tail _ (List.mem_append_right _ (.tail _ (.tail _ (.tail _ (.head _)))))))
            (fun q hq => N _ (.tail _ (List.mem_append_left _ (hsub16 q hq)))) (fun q hq => N _ (.tail _ (List.mem_append_right _ (inN q (List.mem_append_left _ hq))))) q hq
        · exact N _ (.tail _ (List.mem_append_right _ (inN q (List.mem_append_right _ hq))))
  · rcases List.mem_cons.mp hq with rfl | hq
    · exact hIH
    · rcases List.mem_append.mp hq with hq | hq
      · exact four (pr := fun q => q.1 ≠ I) qa.2.1 qb.2.1 qc.2.1 qd.2.1 (fun q hq => ha16 q hq (I, oI) (.tail _ (.tail _ (.tail _ (.tail _ (.head _)))))) (fun q hq => hIo q (List.mem_append_left _ hq)) q hq
      · exact hIo q (List.mem_append_right _ hq)
  · have h1 := hin16 q hq
    rcases List.mem_append.mp h1 with h1 | h1
    · exact .inl (List.mem_append_left _ (List.mem_append_left _ h1))
    · rcases List.mem_cons.mp h1 with rfl | h1
      · exact .inl (List.mem_append_left _ (List.mem_append_right _ (.head _)))
      · rcases List.mem_cons.mp h1 with rfl | h1
        · exact .inl (List.mem_append_left _ (List.mem_append_right _ (.tail _ (.head _))))
        · rcases List.mem_cons.mp h1 with rfl | h1
          · exact .inl (List.mem_append_left _ (List.mem_append_right _ (.tail _ (.tail _ (.head _)))))
          · rcases List.mem_cons.mp h1 with rfl | h1
            · exact .inl (List.mem_append_left _ (List.mem_append_right _ (.tail _ (.tail _ (.tail _ (.head _))))))
            · rcases List.mem_cons.mp h1 with rfl | h1
              · exact .inr (notq_cls hcI (by decide) (by decide))
              · rcases List.mem_append.mp h1 with h1 | h1
                · exact .inl (List.mem_append_left _ (List.mem_append_right _ (.tail _ (.tail _ (.tail _ (.tail _ h1))))))
                · exact .inl (List.mem_append_right _ h1)
  · rcases List.mem_append.mp hq with hq | hq
    · exact four (pr := fun q => q.1 ≠ H) qa.1 qb.1 qc.1 qd.1 (fun q hq => hx q (hsub16 q hq)) (fun q hq => hHo q (List.mem_append_left _ hq)) q hq
    · exact hHo q (List.mem_append_right _ hq)
  · exact fun q hq => four (pr := fun q => ∀ r ∈ news, q.1 ≠ r.1) qa.2.2 qb.2.2 qc.2.2 qd.2.2 (fun q hq r hr => ha16 q hq r (inN r (List.mem_append_right _ hr))) ha q hq
set_option maxRecDepth 100000 in
set_option maxHeartbeats 8000000 in
theorem stD {q : Str} {fa : Addr} {cd : Value} {Q : Flow → Shared → Prop} {B P R : Addr} {nB nP nR : Nat} {ys pvs rvs : List Value} {bs : List (Str × Int)} {which : Int}
    (F : Fr h₀ L s.heap m) (N : News h₀ L s.heap news) (X : (hd.heap_1 w.params).In h₀) (T : Top p loose mean mg mb h₀)
    (hh : A.handled = none) (hroom : A.depth + 200 < recursionLimit) (hu : A.units + 2000 < cLine) (h3 : which = 0 ∨ which = 1 ∨ which = 2)
    (hB : m (Str.ofString "bidders") = some (.ref B)) (hBm : (B, listOf ys.toArray nB) ∈ news) (hA : All2 (Bid news) ys bs) (hlen : ys.length ≤ 100)
    (hP : m (Str.ofString "points") = some (.ref P)) (hPm : (P, listOf pvs.toArray nP) ∈ news) (hPs : All2 (Tup2 news) pvs (bs.map (ptOf which)))
    (hR : m (Str.ofString "rounds") = some (.ref R)) (hRm : (R, listOf rvs.toArray nR) ∈ news) (hRd : ∀ j, j < 2 → RoundAt news which bs rvs j)
    (k : ∀ h' tk ex m' H hvs nH, (H, listOf hvs.toArray nH) ∈ ex → Pts w.params (ex ++ news) hvs (hullOf (bs.map (ptOf which))) → Apart ex news → m' (Str.ofString "hull") = some (.ref H) →
      KeepM m m' [Str.ofString "hull", Str.ofString "k", Str.ofString "mark", Str.ofString "reply", Str.ofString "told"] → Fr h₀ L h' m' → News h₀ L h' (ex ++ news) →
      wpAny (model prog w) A (execs (lawRest w.params 10) (lawEnv w.params q L fa cd)) Q (fun _ _ => False) { s with heap := h', toks := tk }) :
    wpAny (model prog w) A (execs (lawRest w.params 8) (lawEnv w.params q L fa cd)) Q (fun _ _ => False) s := by
  unfold lawRest lawEnv lawPieces fnPieces
  dsimp only [List.drop]
  k_steps
  refine For_invT h₀ ?_ (by intro _; rfl) PassesOwn.never
  k_steps
  refine len_news (by assumption) (.tail _ hBm) (by omega) ?_
  intro t2 tk2
  k_steps
  rename_i H hH l1H hH2 F1 N1 tkH hH3 t1 u1 v1 hr F2 N2 hk2
  have hHn : ∀ q ∈ news, q.1 ≠ H := fun q hq => Nat.ne_of_lt (l1H q hq)
  refine for_range (L := L) (n := ys.length) (DJ w.params m news which bs H) rfl hh F2 (news := (H, listOf (List.toArray []) 0) :: ([] ++ news)) N2 hr (small_one (by omega) (by omega) (by omega) (by omega)) (by rw [rangeSize_nat]; omega)
    ⟨[], [], 0, rfl, .nil, hHn, .nil, rfl, fun y hy => ?_⟩ ?_ ?_
  · simp only [List.mem_cons, List.not_mem_nil, or_false, not_or] at hy
    simp only [hy, if_false]
  · rintro i tt m₁ _ s₁ I oI hcI hi ⟨ex, hvs, nH, rfl, hPts, hHo, ha, mH, mK⟩ hI F3 N3
    rw [Int.zero_add]
    have hil : i < bs.length := by rw [← hA.1]; exact hi
    obtain ⟨vb, hvb, aT, nT, tx, tu, rfl, hTm, hok, ht0, ht1⟩ := hA.get (i := i) (List.getElem?_eq_getElem hil)
    obtain ⟨vp, hvp, aP, nPt, tp1, tp2, rfl, hPtm⟩ := hPs.get (i := i) (p := ptOf which bs[i]) (by rw [List.getElem?_map, List.getElem?_eq_getElem hil]; rfl)
    obtain ⟨W0, w0, n0, e0, m0, r0⟩ := hRd 0 (by decide)
    obtain ⟨W1, w1, n1, e1, m1, r1⟩ := hRd 1 (by decide)
    obtain ⟨v0, hv0, x0t, rfl⟩ := r0.get (i := i) (p := spell which 0 bs[i].1) (by rw [List.getElem?_map, List.getElem?_eq_getElem hil]; rfl)
    obtain ⟨v1', hv1, x1t, rfl⟩ := r1.get (i := i) (p := spell which 1 bs[i].1) (by rw [List.getElem?_map, List.getElem?_eq_getElem hil]; rfl)
    generalize hb : bs[i] = b at *
    obtain ⟨x, toll⟩ := b
    dsimp only [ptOf] at hTm hok ht0 ht1 hPtm hv0 hv1
    have hBm1 : (B, listOf ys.toArray nB) ∈ ex ++ news := List.mem_append_right _ hBm
    have hPm1 : (P, listOf pvs.toArray nP) ∈ ex ++ news := List.mem_append_right _ hPm
    have hRm1 : (R, listOf rvs.toArray nR) ∈ ex ++ news := List.mem_append_right _ hRm
    have hm01 : (W0, listOf w0.toArray n0) ∈ ex ++ news := List.mem_append_right _ m0
    have hm11 : (W1, listOf w1.toArray n1) ∈ ex ++ news := List.mem_append_right _ m1
    have hTm1 : (aT, tupO [.str x tx, .int toll tu] nT) ∈ ex ++ news := List.mem_append_right _ hTm
    have hPtm1 := List.mem_append_right ex hPtm
    have mB : m₁ (Str.ofString "bidders") = some (.ref B) := (mK _ (by decide)).trans hB
    have mP : m₁ (Str.ofString "points") = some (.ref P) := (mK _ (by decide)).trans hP
    have mR : m₁ (Str.ofString "rounds") = some (.ref R) := (mK _ (by decide)).trans hR
    have hys : ys[((i : Nat) : Int).toNat]? = some (.ref aT) := by rw [Int.toNat_natCast]; exact hvb
    have hpv : pvs[((i : Nat) : Int).toNat]? = some (.ref aP) := by rw [Int.toNat_natCast]; exact hvp
    have hw0 : w0[((i : Nat) : Int).toNat]? = some (.str (spell which 0 x) x0t) := by rw [Int.toNat_natCast]; exact hv0
    have hw1 : w1[((i : Nat) : Int).toNat]? = some (.str (spell which 1 x) x1t) := by rw [Int.toNat_natCast]; exact hv1
    have hs0 : (spell which 0 x).length ≤ 108 := spell_len (by decide) hok
    have hs1 : (spell which 1 x).length ≤ 108 := spell_len (by decide) hok
    k_steps
    refine SB.mul (mulOk_of 8 8 (by exact Nat.le_of_ble_eq_true rfl) (by decide) (by decide) (by decide) (by decide)) ?_
    intro t5 k5
    have hRL := reply_len ht0 ht1
    unfold replyOf at hRL
    simp only [Str.length_append] at hRL
    k_steps
    refine SB.add (fun t6 k6 => ?_) (by rw [sizeLine_eq]; omega)
    k_steps
    refine SB.add (fun t7 k7 => ?_) (by rw [sizeLine_eq, Str.length_append]; omega)
    k_steps
    refine SB.add (fun t8 k8 => ?_) (by rw [sizeLine_eq, Str.length_append, Str.length_append]; omega)
    k_steps
    refine SB.add (fun t9 k9 => ?_) (by rw [sizeLine_eq, Str.length_append, Str.length_append, Str.length_append]; omega)
    k_steps
    rename Fr _ _ _ _ => F6; rename News _ _ _ _ => N6; rename Addr => D6; rename (_ ∧ _) => l6
    refine wpAny_call (reply_spec ht0 ht1 (.head _) F6 N6 X T (by k_room) ?_)
    intro h10 tk10 D10 n10 t10 t11 F10 N10 l10
    have hgr := spell_grow (which := which) x 0
    have e10 : (((spell which 1 x).length : Nat) : Int) - (((spell which 0 x).length : Nat) : Int) = 4 * (hits which x : Int) := by
      rw [show (1 : Nat) = 0 + 1 from rfl, hgr]; omega
    rw [e10] at N10
    dsimp only
    k_steps
    rename Addr => D12; rename (_ ∧ _) => l12
    refine ne_tup (by assumption) (.tail _ (.head _)) (.head _) (by omega) ?_
    k_steps
    rename Fr _ _ _ _ => F14; rename News _ _ _ _ => N14; rename Addr => D14; rename (_ ∧ _) => l14
    obtain ⟨hs1, hs2, hs3⟩ := hullOf_ok ((bs.take i).map (ptOf which))
    have hvl : hvs.length ≤ 100 := by
      have h1 := hPts.1; have h2 := hA.1
      rw [List.length_map, List.length_take] at hs3; omega
    have hsm : ∀ a ∈ hullOf ((bs.take i).map (ptOf which)), Small a := fun a ha' => by
      obtain ⟨b, hb', rfl⟩ := List.mem_map.mp (hs2 a ha')
      obtain ⟨jb, hjb, ejb⟩ := List.getElem_of_mem (List.mem_of_mem_take hb')
      obtain ⟨vj, hvj, aj, nj, txj, tuj, _, hTj, hokj, hj0, hj1⟩ := hA.get (i := jb) (List.getElem?_eq_getElem hjb)
      rw [ejb] at hokj hj0 hj1
      exact small_pt hokj hj0 hj1
    refine wpAny_call (laid_spec (pt := ptOf which (x, toll)) F14 (news_h5 N14) X T ?_ (by omega) (by omega) hvl (hPts.mono fun v p h => h.mono fun r hr => .tail _ (.tail _ (.tail _ (.tail _ (.tail _ hr))))) ⟨D14, _, _, _, rfl, .head _⟩ (small_pt hok ht0 ht1) hsm hs1 ?_)
    · intro r hr
      rcases List.mem_cons.mp hr with rfl | hr
      · exact Nat.ne_of_gt l14.2.2.2.2.1
      · rcases List.mem_cons.mp hr with rfl | hr
        · exact Nat.ne_of_gt l12.2.2.2.1
        · rcases List.mem_cons.mp hr with rfl | hr
          · exact Nat.ne_of_gt (l10 (H, listOf hvs.toArray nH) (.tail _ (.tail _ (.head _))))
          · rcases List.mem_cons.mp hr with rfl | hr
            · exact Nat.ne_of_gt l6.2.1
            · rcases List.mem_cons.mp hr with rfl | hr
              · exact Ne.symm (hI (H, listOf hvs.toArray nH) (.head _))
              · exact hHo r hr
    intro h15 tk15 vs15 n15 ex15 hx15 F15 N15 hP15
    k_steps
    have htk : bs.take (i + 1) = bs.take i ++ [(x, toll)] := by
      rw [List.take_add_one, List.getElem?_eq_getElem hil, hb]; rfl
    refine finD F15 N15 (by rw [htk, List.map_append, List.map_cons, List.map_nil, hullOf_snoc]; exact hP15) hx15
      ⟨Nat.ne_of_gt l14.2.2.2.2.1, Nat.ne_of_gt l14.2.2.2.1, fun r hr => Nat.ne_of_gt (tb_ltOf l14.2.2.2.2.2 r (List.mem_append_right _ hr))⟩
      ⟨Nat.ne_of_gt l12.2.2.2.1, Nat.ne_of_gt l12.2.2.1, fun r hr => Nat.ne_of_gt (tb_ltOf l12.2.2.2.2 r (List.mem_append_right _ hr))⟩
      ⟨Nat.ne_of_gt (l10 (H, listOf hvs.toArray nH) (.tail _ (.tail _ (.head _)))), Nat.ne_of_gt (l10 (I, oI) (.tail _ (.head _))), fun r hr => Nat.ne_of_gt (l10 r (.tail _ (.tail _ (.tail _ (List.mem_append_right _ hr)))))⟩
      ⟨Nat.ne_of_gt l6.2.1, Nat.ne_of_gt l6.1, fun r hr => Nat.ne_of_gt (tb_ltOf l6.2.2 r (List.mem_append_right _ hr))⟩
      (hI (H, listOf hvs.toArray nH) (.head _)) hHo (fun r hr => hI r (.tail _ hr)) ha hcI mH (fun y hy => ?_)
    have := mK y hy
    simp only [List.mem_cons, List.not_mem_nil, or_false, not_or] at hy
    simp only [hy, if_false]
    exact this
  · rintro h' tk' m' _ F' N' ⟨ex, hvs, nH, rfl, hPts, hHo, ha, mH, mK⟩
    rw [hA.1, List.take_length] at hPts
    exact k h' tk' ((H, listOf hvs.toArray nH) :: ex) m' H hvs nH (.head _) (hPts.mono fun v p h => h.mono fun r hr => .tail _ hr) (.cons (fun r hr => Ne.symm (hHo r (List.mem_append_right _ hr))) ha) mH mK F' N'

end

section
local macro_rules | `(tactic| walk_at "storeName") => `(tactic| with_reducible refine heldStore "low" ?_)
local macro_rules | `(tactic| walk_at "exec For Name Call cons nil") => `(tactic| refine held ?_)
local macro_rules | `(tactic| walk_at "call builtin:sorted") => `(tactic| refine held ?_)
local macro_rules | `(tactic| walk_at "compareOp Eq ref ref") => `(tactic| refine held ?_)
local macro_rules | `(tactic| walk_at "subscriptTail Name UnaryOp ref int") => `(tactic| refine held ?_)
local macro_rules | `(tactic| walk_at "call builtin:list.append") => `(tactic| refine held ?_)
noncomputable def lowStep (acc : List (Int × Int)) (p : Int × Int) : List (Int × Int) := if acc.getLast?.map (·.1) = some p.1 then acc else acc ++ [p]
noncomputable def lowOf (ps : List (Int × Int)) : List (Int × Int) := ps.foldl lowStep []
inductive EJ (m₀ : Str → Option Value) (news : List (Addr × Obj)) (L : Addr) (o4 : Obj) (ps : List (Int × Int)) (LW : Addr) (i : Nat) (m₁ : Str → Option Value) (nw : List (Addr × Obj)) : Prop
  | mk (ex lvs nL) (f1 : nw = (LW, listOf lvs.toArray nL) :: (L + 1 + 1 + 1 + 1, o4) :: (ex ++ news)) (f2 : All2 (Tup2 news) lvs (lowOf (ps.take i))) (f3 : Apart ex news) (f4 : (∀ q ∈ (L + 1 + 1 + 1 + 1, o4) :: (ex ++ news), q.1 ≠ LW)) (f5 : (∀ q ∈ ex ++ news, q.1 ≠ L + 1 + 1 + 1 + 1)) (f6 : KeepM m₀ m₁ [Str.ofString "point"])
theorem lowOf_len : ∀ (ps acc : List (Int × Int)), (ps.foldl lowStep acc).length ≤ acc.length + ps.length
  | [], acc => Nat.le_refl _
  | p :: ps, acc => by
    have := lowOf_len ps (lowStep acc p)
    have h2 : (lowStep acc p).length ≤ acc.length + 1 := by unfold lowStep; split <;> simp
    rw [List.foldl_cons, List.length_cons]; omega
theorem last_news {prog : Program} {w : World} {A : Around} {E : Value → Shared → Prop} {s : Shared} {h₀ : Heap} {L D : Addr} {news : List (Addr × Obj)} {zs : List Value} {n : Nat} {value slice : PySem.Expr} {u : Tok} {z : Value} {Q : Value → Shared → Prop}
    (N : News h₀ L s.heap news) (hm : (D, listOf (zs ++ [z]).toArray n) ∈ news) (h : Q z s)
    (hs : subscripted slice false (.ref D) (.int (-1) u) = operate [.ref D, .int (-1) u] (getItem (.ref D) (.int (-1) u)) := by with_unfolding_all rfl) :
    wpAny (model prog w) A (subscriptTail value slice (.ref D) (.int (-1) u)) Q E s :=
  kde_neg (vs := zs ++ [z]) (j := zs.length) (N.isList hm) (by decide) (by decide) (by rw [seqIndex_neg (by decide) (by simp; omega)]; simp; omega) (by simp) h hs
abbrev datP (p : Int × Int) : Dat := Dat.tuple [.int p.1, .int p.2]
theorem dat_tups {news : List (Addr × Obj)} : ∀ {vs : List Value} {ps : List (Int × Int)}, All2 (Tup2 news) vs ps → DatAll news vs (ps.map datP)
  | [], [], _ => .nil
  | [], _ :: _, h => by have := h.1; simp at this
  | _ :: _, [], h => by have := h.1; simp at this
  | v :: vs, p :: ps, h => by
    obtain ⟨v', r, e, hv, hr⟩ := h.uncons
    injection e with e1 e2; subst e1; subst e2
    obtain ⟨a, n, t, u, rfl, hm⟩ := hv
    exact .cons (DatIn.tuple hm (.cons (.int _ t) (.cons (.int _ u) .nil))) (dat_tups hr)
theorem datP_ok {ps : List (Int × Int)} : ∀ d ∈ ps.map datP, kqdOk 8 d = true := fun d hd => by
  obtain ⟨p, _, rfl⟩ := List.mem_map.mp hd
  simp [kqdOk]
/-- a list of pairs against an empty one -/
theorem eq_nil {prog : Program} {w : World} {A : Around} {E : Value → Shared → Prop} {s : Shared} {h₀ : Heap} {L a b : Addr} {news : List (Addr × Obj)} {vs : List Value} {ps : List (Int × Int)} {ka kb : Nat} {Q : Value → Shared → Prop}
    (N : News h₀ L s.heap news) (ma : (a, listOf vs.toArray ka) ∈ news) (hA : All2 (Tup2 news) vs ps) (mb : (b, listOf (List.toArray []) kb) ∈ news) (hu : A.units + 64 < cLine) (h : Q (.bool (decide (ps = []))) s) :
    wpAny (model prog w) A (compareOp .Eq (.ref a) (.ref b)) Q E s := by
  refine kqd_eq (ds := ps.map datP) (es := []) N ma rfl rfl (dat_tups hA) (fun q hq => hq) mb rfl rfl .nil (fun q hq => hq) datP_ok (fun d hd => nomatch hd) hu ?_
  have : decide (ps.map datP = []) = decide (ps = []) := by rw [decide_eq_decide]; simp
  rw [this]; exact h
theorem news_l4 {h₀ h : Heap} {L : Addr} {a b d i : Addr × Obj} {rest : List (Addr × Obj)} (N : News h₀ L h (a :: i :: b :: d :: rest)) : News h₀ L h (b :: a :: i :: d :: rest) := fun q hq => N q (by
  simp only [List.mem_cons] at hq ⊢
  rcases hq with h | h | h | h | h
  · exact .inr (.inr (.inl h))
  · exact .inl h
  · exact .inr (.inl h)
  · exact .inr (.inr (.inr (.inl h)))
  · exact .inr (.inr (.inr (.inr h))))
set_option maxRecDepth 100000 in
set_option maxHeartbeats 8000000 in
theorem stE {q : Str} {fa : Addr} {cd : Value} {Q : Flow → Shared → Prop} {P : Addr} {nP : Nat} {pvs : List Value} {ps : List (Int × Int)} {o4 : Obj} {v4 : Option Value}
    (F : Fr h₀ L s.heap m) (N : News h₀ L s.heap ((L + 1 + 1 + 1 + 1, o4) :: news)) (hne : ∀ q ∈ news, q.1 ≠ L + 1 + 1 + 1 + 1) (X : (hd.heap_1 w.params).In h₀) (T : Top p loose mean mg mb h₀)
    (hh : A.handled = none) (hroom : A.depth + 200 < recursionLimit) (hu : A.units + 2000 < cLine)
    (hP : m (Str.ofString "points") = some (.ref P)) (hPm : (P, listOf pvs.toArray nP) ∈ news) (hPs : All2 (Tup2 news) pvs ps) (h2 : 2 ≤ pvs.length) (h64 : pvs.length ≤ 60) (hss : ∀ a ∈ ps, Sml a)
    (d4 : o4.data = .cell v4)
    (k : ∀ h' tk ex m' o4' LW lvs nL ps', ps'.Perm ps → ps'.Pairwise LexLe → Apart ex news → (∀ q ∈ ex, q.1 ≠ L + 1 + 1 + 1 + 1) → (LW, listOf lvs.toArray nL) ∈ ex → o4'.data = .cell (some (.ref LW)) → All2 (Tup2 news) lvs (lowOf ps') →
      KeepM m m' [Str.ofString "point"] → Fr h₀ L h' m' → News h₀ L h' ((L + 1 + 1 + 1 + 1, o4') :: (ex ++ news)) →
      wpAny (model prog w) A (execs (lawRest w.params 12) (lawEnv w.params q L fa cd)) Q (fun _ _ => False) { s with heap := h', toks := tk }) :
    wpAny (model prog w) A (execs (lawRest w.params 10) (lawEnv w.params q L fa cd)) Q (fun _ _ => False) s := by
  unfold lawRest lawEnv lawPieces fnPieces
  dsimp only [List.drop]
  k_steps
  rename_i LW h1 F1 N1 l1
  have hLW : (L + 1 + 1 + 1 + 1 : Addr) ≠ LW := Nat.ne_of_lt l1.1
  have hLn : ∀ q ∈ news, q.1 ≠ LW := fun q hq => Nat.ne_of_lt (tb_ltOf l1.2 q hq)
  refine store_cell ((LW, listOf (List.toArray []) 0) :: news) F1 N1 (c := L + 1 + 1 + 1 + 1) (by rfl) (.tail _ (.head _)) d4 (fun r hr => ?_) (fun h3 o4n F3 N3 d4n => ?_)
  · rcases List.mem_cons.mp hr with rfl | hr
    · exact ⟨.head _, Ne.symm hLW⟩
    · exact ⟨.tail _ (.tail _ hr), hne r hr⟩
  k_steps
  refine For_invT h₀ ?_ (by intro _; rfl) PassesOwn.never
  k_steps
  have hPm3 : (P, listOf pvs.toArray nP) ∈ (L + 1 + 1 + 1 + 1, o4n) :: (LW, listOf (List.toArray []) 0) :: news := .tail _ (.tail _ hPm)
  refine sorted_tups (nt := news) (fun q hq => .tail _ (.tail _ hq)) F3 N3 hPm3 hPs h2 (by omega) hss ?_
  intro DS nS h4 svs ps' F4 N4 l4 hSs hperm hsort
  k_steps
  have hDW : DS ≠ LW := Nat.ne_of_gt (l4 (LW, _) (.tail _ (.head _)))
  have hD4 : DS ≠ L + 1 + 1 + 1 + 1 := Nat.ne_of_gt (l4 (L + 1 + 1 + 1 + 1, o4n) (.head _))
  refine for_list (L := L) (EJ m news L o4n ps' LW) rfl hh F4 (news := (LW, listOf (List.toArray []) 0) :: (L + 1 + 1 + 1 + 1, o4n) :: ([(DS, listOf svs.toArray nS)] ++ news)) (fun q hq => N4 q ?_) (.tail _ (.tail _ (.head _)))
    ⟨[(DS, listOf svs.toArray nS)], [], 0, rfl, .nil, .cons (fun r hr => Nat.ne_of_gt (l4 r (.tail _ (.tail _ hr)))) .nil, fun q hq => ?_, fun q hq => ?_, fun y hy => rfl⟩ ?_ ?_
  · simp only [List.mem_cons, List.mem_append, List.not_mem_nil, or_false] at hq ⊢
    rcases hq with h | h | h | h
    · exact .inr (.inr (.inl h))
    · exact .inr (.inl h)
    · exact .inl h
    · exact .inr (.inr (.inr h))
  · rcases List.mem_cons.mp hq with rfl | hq
    · exact hLW
    · rcases List.mem_cons.mp hq with rfl | hq
      · exact hDW
      · exact hLn q hq
  · rcases List.mem_cons.mp hq with rfl | hq
    · exact hD4
    · exact hne q hq
  · rintro i v m₁ _ s₁ I oI hcI hv ⟨ex, lvs, nL, rfl, hLs, ha, hW1, h41, mK⟩ hDm hI F5 N5
    have hil : i < ps'.length := by rw [← hSs.1]; exact (List.getElem?_eq_some_iff.mp hv).1
    obtain ⟨aT, nT, tx, tu, rfl, hTm⟩ := hSs.2 i v ps'[i] hv (List.getElem?_eq_getElem hil)
    have htk : ps'.take (i + 1) = ps'.take i ++ [ps'[i]] := by rw [List.take_add_one, List.getElem?_eq_getElem hil]; rfl
    generalize ps'[i] = pt at *
    have hTm2 : (aT, tupO [.int pt.1 tx, .int pt.2 tu] nT) ∈ ex ++ news := List.mem_append_right _ hTm
    have hlow : lowOf (ps'.take (i + 1)) = lowStep (lowOf (ps'.take i)) pt := by unfold lowOf; rw [htk, List.foldl_append]; rfl
    have hll : lvs.length ≤ 1000 := by
      have h1 := hLs.1
      have h2 := lowOf_len (ps'.take i) []
      have h3 := hSs.1
      have h4 := hPs.1
      have h5 := hperm.length_eq
      unfold lowOf at h1
      rw [List.length_take] at h2
      simp at h2; omega
    generalize lowOf (ps'.take i) = lo at *
    have hIW : LW ≠ I := hI (LW, _) (.head _)
    have hI4 : (L + 1 + 1 + 1 + 1 : Addr) ≠ I := hI (L + 1 + 1 + 1 + 1, o4n) (.tail _ (.head _))
    k_steps
    rename Fr _ _ _ _ => F6; rename News _ _ _ _ => N6; rename Addr => D7; rename (_ ∧ _) => l7
    have hD7W : D7 ≠ LW := Nat.ne_of_gt l7.2.1
    have hD74 : D7 ≠ L + 1 + 1 + 1 + 1 := Nat.ne_of_gt l7.2.2.1
    have hD7I : D7 ≠ I := Nat.ne_of_gt l7.1
    have hap : Apart ((D7, listOf (List.toArray []) 0) :: ex) news := .cons (fun r hr => Nat.ne_of_gt (tb_ltOf l7.2.2.2 r (List.mem_append_right _ hr))) ha
    have hKeep : KeepM m (fun y => if y = Str.ofString "point" then some (Value.ref aT) else m₁ y) [Str.ofString "point"] := fun y hy => by
      have := mK y hy
      simp only [List.mem_cons, List.not_mem_nil, or_false, not_or] at hy
      simp only [hy, if_false]
      exact this
    have hin : ∀ q ∈ news, q ∈ (D7, listOf (List.toArray []) 0) :: (I, oI) :: (LW, listOf lvs.toArray nL) :: (L + 1 + 1 + 1 + 1, o4n) :: (ex ++ news) := fun q hq => .tail _ (.tail _ (.tail _ (.tail _ (List.mem_append_right _ hq))))
    have stay : ∀ {tk : Nat}, lowStep lo pt = lo → Turned h₀ L I oI s₁ (fun m' nx => (DS, listOf svs.toArray nS) ∈ nx ∧ EJ m news L o4n ps' LW (i + 1) m' nx) .next { s₁ with heap := _, toks := tk } := fun {tk} e => by
      refine Turned.intro F6 (news₂ := (LW, listOf lvs.toArray nL) :: (L + 1 + 1 + 1 + 1, o4n) :: (((D7, listOf (List.toArray []) 0) :: ex) ++ news)) (fun q hq => N6 q ?_) (fun q hq => ?_) ⟨?_, _, lvs, nL, rfl, by rw [hlow, e]; exact hLs, hap, fun q hq => ?_, fun q hq => ?_, hKeep⟩
      · simp only [List.mem_cons, List.mem_append] at hq ⊢
        rcases hq with h | h | h | (h | h) | h
        · exact .inr (.inl h)
        · exact .inr (.inr (.inl h))
        · exact .inr (.inr (.inr (.inl h)))
        · exact .inl h
        · exact .inr (.inr (.inr (.inr (.inl h))))
        · exact .inr (.inr (.inr (.inr (.inr h))))
      · simp only [List.mem_cons, List.mem_append] at hq
        rcases hq with rfl | rfl | (rfl | h) | h
        · exact hIW
        · exact hI4
        · exact hD7I
        · exact hI q (.tail _ (.tail _ (List.mem_append_left _ h)))
        · exact hI q (.tail _ (.tail _ (List.mem_append_right _ h)))
      · rcases List.mem_cons.mp hDm with h | h
        · exact h ▸ .head _
        · rcases List.mem_cons.mp h with h | h
          · exact h ▸ .tail _ (.head _)
          · exact .tail _ (.tail _ (.tail _ h))
      · rcases List.mem_cons.mp hq with rfl | hq
        · exact hW1 _ (.head _)
        · rcases List.mem_cons.mp hq with rfl | hq
          · exact hD7W
          · exact hW1 q (.tail _ hq)
      · rcases List.mem_cons.mp hq with rfl | hq
        · exact hD74
        · exact h41 q hq
    have NA : News h₀ L _ ((LW, listOf lvs.toArray nL) :: (D7, listOf (List.toArray []) 0) :: (I, oI) :: (L + 1 + 1 + 1 + 1, o4n) :: (ex ++ news)) := fun q hq => N6 q (by
      simp only [List.mem_cons] at hq ⊢
      rcases hq with h | h | h | h | h
      · exact .inr (.inr (.inl h))
      · exact .inl h
      · exact .inr (.inl h)
      · exact .inr (.inr (.inr (.inl h)))
      · exact .inr (.inr (.inr (.inr h))))
    have ledW : ∀ q ∈ (D7, listOf (List.toArray []) 0) :: (I, oI) :: (L + 1 + 1 + 1 + 1, o4n) :: (ex ++ news), q.1 ≠ LW := fun q hq => by
      rcases List.mem_cons.mp hq with rfl | hq
      · exact hD7W
      · rcases List.mem_cons.mp hq with rfl | hq
        · exact Ne.symm hIW
        · exact hW1 q hq
    have grow : ∀ {h8 : Heap} {tk : Nat}, lowStep lo pt = lo ++ [pt] → Fr h₀ L h8 (fun y => if y = Str.ofString "point" then some (Value.ref aT) else m₁ y) →
        News h₀ L h8 ((LW, listOf (lvs ++ [Value.ref aT]).toArray (nL + 1)) :: (D7, listOf (List.toArray []) 0) :: (I, oI) :: (L + 1 + 1 + 1 + 1, o4n) :: (ex ++ news)) →
        Turned h₀ L I oI s₁ (fun m' nx => (DS, listOf svs.toArray nS) ∈ nx ∧ EJ m news L o4n ps' LW (i + 1) m' nx) .next { s₁ with heap := h8, toks := tk } := fun {h8 tk} e F8 N8 => by
      refine Turned.intro F8 (news₂ := (LW, listOf (lvs ++ [Value.ref aT]).toArray (nL + 1)) :: (L + 1 + 1 + 1 + 1, o4n) :: (((D7, listOf (List.toArray []) 0) :: ex) ++ news)) (fun q hq => N8 q ?_) (fun q hq => ?_)
        ⟨?_, _, lvs ++ [Value.ref aT], nL + 1, rfl, by rw [hlow, e]; exact hLs.append (.cons ⟨aT, nT, tx, tu, rfl, hTm⟩ .nil), hap, fun q hq => ?_, fun q hq => ?_, hKeep⟩
      · simp only [List.mem_cons, List.mem_append] at hq ⊢
        rcases hq with h | h | h | (h | h) | h
        · exact .inr (.inr (.inl h))
        · exact .inl h
        · exact .inr (.inr (.inr (.inl h)))
        · exact .inr (.inl h)
        · exact .inr (.inr (.inr (.inr (.inl h))))
        · exact .inr (.inr (.inr (.inr (.inr h))))
      · simp only [List.mem_cons, List.mem_append] at hq
        rcases hq with rfl | rfl | (rfl | h) | h
        · exact hIW
        · exact hI4
        · exact hD7I
        · exact hI q (.tail _ (.tail _ (List.mem_append_left _ h)))
        · exact hI q (.tail _ (.tail _ (List.mem_append_right _ h)))
      · rcases List.mem_cons.mp hDm with h | h
        · exact absurd (congrArg Prod.fst h) hDW
        · rcases List.mem_cons.mp h with h | h
          · exact h ▸ .tail _ (.head _)
          · exact .tail _ (.tail _ (.tail _ h))
      · rcases List.mem_cons.mp hq with rfl | hq
        · exact hW1 _ (.head _)
        · rcases List.mem_cons.mp hq with rfl | hq
          · exact hD7W
          · exact hW1 q (.tail _ hq)
      · rcases List.mem_cons.mp hq with rfl | hq
        · exact hD74
        · exact h41 q hq
    refine eq_nil N6 (.tail _ (.tail _ (.head _))) (hLs.mono fun v p h => h.mono hin) (.head _) (by omega) ?_
    by_cases hn : lo = []
    · rw [decide_eq_true hn]
      k_steps
      refine append_news F6 NA ledW hll ?_
      intro h8 F8 N8
      k_steps
      exact grow (by rw [hn]; rfl) F8 N8
    · rw [decide_eq_false hn]
      k_steps
      obtain ⟨lo', z, rfl⟩ : ∃ lo' z, lo = lo' ++ [z] := ⟨lo.dropLast, lo.getLast hn, (List.dropLast_concat_getLast hn).symm⟩
      obtain ⟨zs, zv, rfl, hz1, hz2⟩ := hLs.split
      obtain ⟨vz, r, rfl, hvz, hr⟩ := hz2.uncons
      have : r = [] := List.length_eq_zero_iff.mp hr.1
      subst this
      refine last_news N6 (.tail _ (.tail _ (.head _))) ?_
      obtain ⟨aZ, nZ, tz1, tz2, rfl, hzm⟩ := id hvz
      have hzm2 := hin _ hzm
      k_steps
      · rename z.1 ≠ pt.1 => hzp
        refine append_news F6 NA ledW hll ?_
        intro h8 F8 N8
        k_steps
        refine grow ?_ F8 N8
        unfold lowStep
        rw [if_neg (by rw [List.getLast?_concat]; intro e; injection e with e; exact hzp e)]
      · rename z.1 = pt.1 => hzp
        refine stay ?_
        unfold lowStep
        rw [if_pos (by rw [List.getLast?_concat]; show some z.1 = some pt.1; rw [hzp])]
  · rintro h' tk' m' _ F' N' hDm ⟨ex, lvs, nL, rfl, hLs, ha, hW1, h41, mK⟩
    rw [hSs.1, List.take_length] at hLs
    exact k h' tk' ((LW, listOf lvs.toArray nL) :: ex) m' o4n LW lvs nL ps' hperm hsort (.cons (fun r hr => Ne.symm (hW1 r (.tail _ (List.mem_append_right _ hr)))) ha) (fun r hr => by
      rcases List.mem_cons.mp hr with rfl | hr
      · exact Ne.symm (hW1 (L + 1 + 1 + 1 + 1, o4n) (.head _))
      · exact h41 r (List.mem_append_left _ hr)) (.head _) d4n hLs mK F' (fun q hq => N' q (by
        rcases List.mem_cons.mp hq with rfl | hq
        · exact .tail _ (.head _)
        · rcases List.mem_cons.mp hq with rfl | hq
          · exact .head _
          · exact .tail _ (.tail _ hq)))

end

section
local macro_rules | `(tactic| walk_at "compareOp Eq ref ref") => `(tactic| refine held ?_)
local macro_rules | `(tactic| walk_at "compareOp NotEq ref ref") => `(tactic| refine held ?_)
local macro_rules | `(tactic| walk_at "CompEnd") => `(tactic| refine held ?_)
local macro_rules | `(tactic| walk_at "execs cons") => `(tactic| ((with_reducible show wpAny _ _ (execs (Stmt.For _ _ _ _ _ :: _) _) _ _ _); refine held ?_))
noncomputable def rimB (lo : List (Int × Int)) (b : Int × Int) : Bool := decide (∀ a ∈ lo, ∀ c ∈ lo, a.1 < b.1 → b.1 < c.1 → bel a b c = true)
noncomputable def rimOf (lo : List (Int × Int)) : List (Int × Int) := lo.filter (rimB lo)
noncomputable def CondB (b a c : Int × Int) : Prop := a.1 < b.1 ∧ b.1 < c.1 ∧ bel a b c = false
noncomputable def BadInv (lo : List (Int × Int)) (b : Int × Int) (i j : Nat) (ps : List (Int × Int)) : Prop :=
  ps = [] ↔ ∀ (i' j' : Nat) (a c : Int × Int), lo[i']? = some a → lo[j']? = some c → (i' < i ∨ (i' = i ∧ j' < j)) → ¬ CondB b a c
theorem BadInv.start {lo : List (Int × Int)} {b : Int × Int} : BadInv lo b 0 0 [] := ⟨fun _ i' j' a c _ _ h => by omega, fun _ => rfl⟩
theorem BadInv.up {lo : List (Int × Int)} {b : Int × Int} {i : Nat} {ps : List (Int × Int)} (h : BadInv lo b i lo.length ps) : BadInv lo b (i + 1) 0 ps := by
  refine h.trans ⟨fun q i' j' a c h1 h2 h3 => q i' j' a c h1 h2 ?_, fun q i' j' a c h1 h2 h3 => q i' j' a c h1 h2 ?_⟩
  · have := (List.getElem?_eq_some_iff.mp h2).1; omega
  · omega
theorem BadInv.no {lo : List (Int × Int)} {b a c : Int × Int} {i j : Nat} {ps : List (Int × Int)} (h : BadInv lo b i j ps) (ha : lo[i]? = some a) (hc : lo[j]? = some c) (hn : ¬ CondB b a c) : BadInv lo b i (j + 1) ps := by
  refine h.trans ⟨fun q i' j' a' c' h1 h2 h3 => ?_, fun q i' j' a' c' h1 h2 h3 => q i' j' a' c' h1 h2 (by omega)⟩
  by_cases e : i' = i ∧ j' = j
  · obtain ⟨rfl, rfl⟩ := e
    rw [ha] at h1; rw [hc] at h2
    cases h1; cases h2; exact hn
  · exact q i' j' a' c' h1 h2 (by omega)
theorem BadInv.yes {lo : List (Int × Int)} {b a c : Int × Int} {i j : Nat} {ps : List (Int × Int)} (ha : lo[i]? = some a) (hc : lo[j]? = some c) (hn : CondB b a c) : BadInv lo b i (j + 1) (ps ++ [a]) :=
  ⟨fun e => by simp at e, fun q => absurd hn (q i j a c ha hc (by omega))⟩
theorem BadInv.done {lo : List (Int × Int)} {b : Int × Int} {ps : List (Int × Int)} (h : BadInv lo b lo.length 0 ps) : decide (ps = []) = rimB lo b := by
  unfold rimB
  rw [decide_eq_decide]
  refine h.trans ⟨fun q a ha c hc h1 h2 => ?_, fun q i' j' a c h1 h2 _ h3 => ?_⟩
  · obtain ⟨i', hi', rfl⟩ := List.getElem_of_mem ha
    obtain ⟨j', hj', rfl⟩ := List.getElem_of_mem hc
    have := q i' j' _ _ (List.getElem?_eq_getElem hi') (List.getElem?_eq_getElem hj') (.inl hi')
    cases hb : bel lo[i'] b lo[j'] with
    | true => rfl
    | false => exact absurd ⟨h1, h2, hb⟩ this
  · have := q a (List.mem_of_getElem? h1) c (List.mem_of_getElem? h2) h3.1 h3.2.1
    have h4 := h3.2.2
    rw [this] at h4; exact absurd h4 (by decide)
set_option maxRecDepth 100000 in
set_option maxHeartbeats 8000000 in
theorem stF {q : Str} {fa : Addr} {cd : Value} {Q : Flow → Shared → Prop} {LW H : Addr} {nL nH : Nat} {lvs hvs : List Value} {lo hps : List (Int × Int)} {o4 : Obj}
    (F : Fr h₀ L s.heap m) (N : News h₀ L s.heap news) (X : (hd.heap_1 w.params).In h₀) (T : Top p loose mean mg mb h₀)
    (hh : A.handled = none) (hroom : A.depth + 200 < recursionLimit) (hu : A.units + 2000 < cLine)
    (hc4 : (L + 1 + 1 + 1 + 1, o4) ∈ news) (d4 : o4.data = .cell (some (.ref LW))) (hLm : (LW, listOf lvs.toArray nL) ∈ news) (hLs : All2 (Tup2 news) lvs lo) (hll : lvs.length ≤ 60) (hsl : ∀ a ∈ lo, Small a)
    (hH : m (Str.ofString "hull") = some (.ref H)) (hHm : (H, listOf hvs.toArray nH) ∈ news) (hq : Pts w.params news hvs hps) (hlen : hvs.length ≤ 100) (heq : hps = rimOf lo)
    (k : ∀ h' tk ex m', (∀ y, y ≠ Str.ofString "rim" → m' y = m y) → Fr h₀ L h' m' → News h₀ L h' (ex ++ news) →
      wpAny (model prog w) A (execs (lawRest w.params 14) (lawEnv w.params q L fa cd)) Q (fun _ _ => False) { s with heap := h', toks := tk }) :
    wpAny (model prog w) A (execs (lawRest w.params 12) (lawEnv w.params q L fa cd)) Q (fun _ _ => False) s := by
  unfold lawRest lawEnv lawPieces fnPieces
  dsimp only [List.drop]
  k_steps
  refine Assign_comp_K (fun i ys nw => (∃ ex, nw = ex ++ news) ∧ All2 (Tup2 news) ys ((lo.take i).filter (rimB lo))) (by rfl) hh (by with_unfolding_all rfl) (by with_unfolding_all rfl) (by rfl) (by decide) (by intro _ _; rfl) (by intro _; rfl) (by rfl) (by rfl) (by rfl) (by rfl)
    ?_ F N hLm (by rw [sizeLine_eq]; omega) ⟨⟨[], rfl⟩, .nil⟩ ?_ ?_
  · intro E'
    k_steps
  · rintro i ys nw v I oI C oC K oK D h tk E' hi hv ⟨⟨ex, rfl⟩, hys⟩ hsub dK F1 N1 off
    have hv0 := hv
    have hil : i < lo.length := by rw [← hLs.1]; exact hi
    obtain ⟨aB, nB, tb1, tb2, rfl, hBm⟩ := hLs.2 i v lo[i] hv (List.getElem?_eq_getElem hil)
    have hsb := hsl _ (List.getElem_mem hil)
    have htk : lo.take (i + 1) = lo.take i ++ [lo[i]] := by rw [List.take_add_one, List.getElem?_eq_getElem hil]; rfl
    generalize lo[i] = b at *
    have hin : ∀ q ∈ news, q ∈ (K, oK) :: (I, oI) :: (C, oC) :: (D, PyProof.Rows.LCg.lst ys) :: (ex ++ news) := fun q hq => .tail _ (.tail _ (.tail _ (.tail _ (List.mem_append_right _ hq))))
    k_steps
    refine comp_2 (fun i j zs => (∃ ps, All2 (Tup2 news) zs ps ∧ BadInv lo b i j ps) ∧ zs.length ≤ i * 60 + j) hh (by with_unfolding_all rfl) (by decide) (by rfl) (by decide) (by rfl) (by rfl) (by decide) (by rfl)
      ?_ F1 N1 (hin _ hLm) ?_ ?_ ⟨⟨[], .nil, .start⟩, Nat.zero_le _⟩ ?_ ?_ ?_
    · intro E2
      have hc4' := hin _ hc4
      k_steps
    · intro C3 h3 tk3 led E3 hled N3
      have hc4' := hled _ (hin _ hc4)
      k_steps
    · rintro i2 j2 zs h1 h2 ⟨_, h3⟩
      rw [sizeLine_eq]
      have : i2 * 60 ≤ 60 * 60 := Nat.mul_le_mul_right _ (by omega)
      omega
    · rintro i2 zs h1 ⟨⟨ps, h2, h3⟩, h4⟩
      rw [hLs.1] at h3
      exact ⟨⟨ps, h2, h3.up⟩, by omega⟩
    · rintro i2 j2 zs va vc C3 oC3 m₂ led h4 tk4 E4 hi2 hj2 hva hvc ⟨⟨ps, hz, hb⟩, hzl⟩ hC3 hx hx2 hC3m hled F4 N4
      have hil2 : i2 < lo.length := by rw [← hLs.1]; exact hi2
      have hjl2 : j2 < lo.length := by rw [← hLs.1]; exact hj2
      have ha2 := List.getElem?_eq_getElem hil2
      have hc2 := List.getElem?_eq_getElem hjl2
      obtain ⟨aA, nA, ta1, ta2, rfl, hAm⟩ := hLs.2 i2 va _ hva ha2
      obtain ⟨aC, nC, tc1, tc2, rfl, hCm⟩ := hLs.2 j2 vc _ hvc hc2
      have hsa := hsl _ (List.getElem_mem hil2)
      have hsc := hsl _ (List.getElem_mem hjl2)
      generalize lo[i2] = a at *
      generalize lo[j2] = c at *
      have hAm' := hled _ (hin _ hAm)
      have hBm' := hled _ (hin _ hBm)
      have hCm' := hled _ (hin _ hCm)
      have hKm' := hled _ (show (K, oK) ∈ (K, oK) :: (I, oI) :: (C, oC) :: (D, PyProof.Rows.LCg.lst ys) :: (ex ++ news) from .head _)
      k_steps
      · refine wpAny_call (below_spec F4 N4 X T (by k_room) ⟨_, _, _, _, rfl, hAm'⟩ ⟨_, _, _, _, rfl, hBm'⟩ ⟨_, _, _, _, rfl, hCm'⟩ hsa hsb hsc ?_)
        intro h6 tk6 F6 N6
        dsimp only
        k_steps
        · rename bel a b c = true => hbl
          exact TwoEnd.intro F6 N6 ⟨⟨ps, hz, hb.no ha2 hc2 fun q => by have q2 := q.2.2; rw [hbl] at q2; exact absurd q2 (by decide)⟩, by first | omega | (simp; omega)⟩
        · rename bel a b c = false => hbl
          exact TwoEnd.intro F6 N6 ⟨⟨ps ++ [a], hz.append (.cons ⟨_, _, _, _, rfl, hAm⟩ .nil), .yes ha2 hc2 ⟨by assumption, by assumption, hbl⟩⟩, by first | omega | (simp; omega)⟩
      · refine TwoEnd.intro F4 N4 ⟨⟨ps, hz, hb.no ha2 hc2 fun q => ?_⟩, by first | omega | (simp; omega)⟩
        unfold CondB at q; omega
      · refine TwoEnd.intro F4 N4 ⟨⟨ps, hz, hb.no ha2 hc2 fun q => ?_⟩, by first | omega | (simp; omega)⟩
        unfold CondB at q; omega
    · rintro D2 h5 tk5 zs ⟨⟨ps, hz, hb⟩, hzl⟩ F5 N5 off5
      k_steps
      rename Fr _ _ _ _ => F6; rename News _ _ _ _ => N6; rename Addr => D6; rename (_ ∧ _) => l6
      have hin6 : ∀ q ∈ news, q ∈ (D6, listOf (List.toArray []) 0) :: (D2, PyProof.Rows.LCg.lst zs) :: (K, oK) :: (I, oI) :: (C, oC) :: (D, PyProof.Rows.LCg.lst ys) :: (ex ++ news) := fun q hq => .tail _ (.tail _ (hin q hq))
      refine eq_nil N6 (.tail _ (.head _)) (hz.mono fun v p h => h.mono hin6) (.head _) (by omega) ?_
      rw [hLs.1] at hb
      rw [hb.done]
      k_steps
      have fin2 : ∀ {h8 : Heap} {tk tk8 : Nat}, News h₀ L h8 ((D6, listOf (List.toArray []) 0) :: (D2, PyProof.Rows.LCg.lst zs) :: (K, oK) :: (I, oI) :: (C, oC) :: (D, PyProof.Rows.LCg.lst ys) :: (ex ++ news)) → Fr h₀ L h8 m →
          KEnd h₀ L m news K oK I oI C oC D (PyProof.Rows.LCg.lst ys) { s with heap := h, toks := tk } (fun nw' => (∃ ex, nw' = ex ++ news) ∧ All2 (Tup2 news) (if rimB lo b = true then ys ++ [Value.ref aB] else ys) ((lo.take (i + 1)).filter (rimB lo))) { s with heap := h8, toks := tk8 } := fun {h8 tk tk8} N8 F8 => by
        refine ⟨h8, _, (D6, listOf (List.toArray []) 0) :: (D2, PyProof.Rows.LCg.lst zs) :: ex ++ news, rfl, F8, fun q hq => N8 q ?_, fun q hq => ?_, fun q hq => .tail _ (.tail _ (hsub q hq)), ⟨_, rfl⟩, ?_⟩
        · simp only [List.mem_cons, List.mem_append, List.cons_append] at hq ⊢
          rcases hq with h | h | h | h | h | h | h
          · exact .inr (.inr (.inl h))
          · exact .inr (.inr (.inr (.inl h)))
          · exact .inr (.inr (.inr (.inr (.inl h))))
          · exact .inr (.inr (.inr (.inr (.inr (.inl h)))))
          · exact .inl h
          · exact .inr (.inl h)
          · exact .inr (.inr (.inr (.inr (.inr (.inr h)))))
        · rcases List.mem_cons.mp hq with rfl | hq
          · exact ⟨Nat.ne_of_gt l6.2.1, Nat.ne_of_gt l6.2.2.1, Nat.ne_of_gt l6.2.2.2.1, Nat.ne_of_gt l6.2.2.2.2.1⟩
          · rcases List.mem_cons.mp hq with rfl | hq
            · exact ⟨Ne.symm (off5 _ (.head _)), Ne.symm (off5 _ (.tail _ (.head _))), Ne.symm (off5 _ (.tail _ (.tail _ (.head _)))), Ne.symm (off5 _ (.tail _ (.tail _ (.tail _ (.head _)))))⟩
            · exact off q hq
        · rw [htk, List.filter_append]
          by_cases hr : rimB lo b = true
          · rw [if_pos hr, List.filter_cons_of_pos hr]
            exact hys.append (.cons ⟨aB, nB, tb1, tb2, rfl, hBm⟩ .nil)
          · rw [if_neg hr, List.filter_cons_of_neg hr, List.filter_nil, List.append_nil]
            exact hys
      exact fin2 N6 F6
  · rintro D h tk ys nw ⟨⟨ex, rfl⟩, hys⟩ hsub F1 N1 off
    k_steps
    refine PyProof.Rows.LCg.ListComp_U F1 (by with_unfolding_all rfl) (by decide) (by rfl) (by decide) (by rfl) ?_
    have mH : (fun z => if z = Str.ofString "rim" then some (Value.ref D) else m z) (Str.ofString "hull") = some (.ref H) := hH
    k_steps
    have hHm1 : (H, listOf hvs.toArray nH) ∈ ex ++ news := List.mem_append_right _ hHm
    have hql := hq.1
    refine src_inv (fun led j zs nw => nw = led ∧ All2 (Tup2 (ex ++ news)) zs (hps.take j)) hh F1 N1 (.tail _ hHm1) (by rw [sizeLine_eq]; omega) ⟨rfl, .nil⟩ ?_ ?_
    · rintro g j zs nw v I2 oI2 C oC D' m₂ h6 tk6 E' hj ⟨rfl, hz⟩ hv hC hx2 F6 N6 off ne
      have hjl : j < hps.length := by omega
      obtain ⟨x, d, tkx, tv, rfl, q1, q2, q3⟩ := hq.2 j v hps[j] hv (List.getElem?_eq_getElem hjl)
      obtain ⟨aX, nX, tx1, tx2, rfl, q4⟩ := id q3
      have q1' : (x, instObj 166 d) ∈ ex ++ news := List.mem_append_right _ q1
      have q2' : (d, qnDict w.params tkx (.ref aX)) ∈ ex ++ news := List.mem_append_right _ q2
      have htk : hps.take (j + 1) = hps.take j ++ [hps[j]] := by rw [List.take_add_one, List.getElem?_eq_getElem hjl]; rfl
      k_steps
      unfold Hold
      refine PyProof.Rows.LCg.CompEnd.intro F6 N6 _ (fun q hq => hq) off (.inr ⟨_, .tail _ hHm1, rfl, _, rfl⟩) ⟨rfl, ?_⟩
      rw [htk]
      exact hz.append (.cons (q3.mono fun r hr => List.mem_append_right _ hr) .nil)
    · rintro g zs nw ⟨rfl, hz⟩ D9 h9 tk9 F9 N9 o9
      rw [hql, List.take_length] at hz
      rw [hLs.1, List.take_length] at hys
      have hs9 : ∀ q ∈ ex ++ news, q ∈ (D9, PyProof.Rows.LCg.lst zs) :: (D, PyProof.Rows.LCg.lst ys) :: (ex ++ news) := fun q hq => .tail _ (.tail _ hq)
      k_steps
      refine ne_same (n₁ := ex ++ news) (n₂ := news) (ds := hps.map datP) N9 (.head _) rfl rfl (dat_tups hz) hs9 (.tail _ (.head _)) rfl rfl (by rw [heq]; exact dat_tups hys) (fun q hq => hs9 q (hsub q hq)) datP_ok (by omega) ?_
      k_steps
      unfold Hold
      exact k _ _ ((D9, PyProof.Rows.LCg.lst zs) :: (D, PyProof.Rows.LCg.lst ys) :: ex) _ (fun y hy => if_neg hy) F9 N9

end

section
theorem Inv.congr {hull pts pts' : List (Int × Int)} (I : Inv hull pts) (h : ∀ q, q ∈ pts ↔ q ∈ pts') : Inv hull pts' :=
  ⟨I.srt, fun a ha => (h a).mp (I.mem a ha), I.cvx, fun u v a q hq => I.abv u v a q ((h q).mpr hq), fun a ha q hq => I.lo a ha q ((h q).mpr hq), fun a ha q hq => I.hi a ha q ((h q).mpr hq), fun b hb q hq => I.low b hb q ((h q).mpr hq)⟩
theorem hull_inv (ps : List (Int × Int)) : Inv (hullOf ps) ps ∧ (hullOf ps = [] → ps = []) := by
  obtain ⟨a, b⟩ := hullOf_inv ps.reverse
  rw [List.reverse_reverse] at a b
  exact ⟨a.congr fun q => List.mem_reverse, fun h => by have := b h; simpa using this⟩
structure LowInv (acc pre : List (Int × Int)) : Prop where
  srt : Srt acc
  mem : ∀ b ∈ acc, b ∈ pre
  low : ∀ b ∈ acc, ∀ q ∈ pre, q.1 = b.1 → b.2 ≤ q.2
  has : ∀ q ∈ pre, ∃ b ∈ acc, b.1 = q.1
  top : ∀ z, acc.getLast? = some z → ∀ q ∈ pre, q.1 ≤ z.1
theorem LowInv.step {acc pre : List (Int × Int)} {p : Int × Int} (I : LowInv acc pre) (hp : ∀ q ∈ pre, LexLe q p) : LowInv (lowStep acc p) (p :: pre) := by
  have hle : ∀ q ∈ pre, q.1 ≤ p.1 := fun q hq => by have := hp q hq; unfold LexLe at this; omega
  have hlow : ∀ b ∈ acc, ∀ q ∈ p :: pre, q.1 = b.1 → b.2 ≤ q.2 := fun b hb q hq e => by
    rcases List.mem_cons.mp hq with rfl | hq
    · have := hp b (I.mem b hb); unfold LexLe at this; omega
    · exact I.low b hb q hq e
  unfold lowStep
  by_cases hc : acc.getLast?.map (·.1) = some p.1
  · rw [if_pos hc]
    cases hz : acc.getLast? with
    | none => rw [hz] at hc; cases hc
    | some z =>
      rw [hz] at hc
      have hzp : z.1 = p.1 := by injection hc
      refine ⟨I.srt, fun b hb => List.mem_cons_of_mem _ (I.mem b hb), hlow, fun q hq => ?_, fun z' hz' q hq => ?_⟩
      · rcases List.mem_cons.mp hq with rfl | hq
        · exact ⟨z, List.mem_of_getLast? hz, hzp⟩
        · exact I.has q hq
      · rw [hz] at hz'; cases hz'
        rcases List.mem_cons.mp hq with rfl | hq
        · omega
        · have := hle q hq; omega
  · rw [if_neg hc]
    have hlt : ∀ q ∈ pre, q.1 < p.1 := fun q hq => by
      rcases Int.lt_or_eq_of_le (hle q hq) with h | h
      · exact h
      · exfalso
        obtain ⟨b, hb, e⟩ := I.has q hq
        cases hz : acc.getLast? with
        | none => rw [List.getLast?_eq_none_iff.mp hz] at hb; cases hb
        | some z =>
          have h1 := I.top z hz q hq
          have h2 := hle z (I.mem z (List.mem_of_getLast? hz))
          apply hc
          rw [hz]; show some z.1 = some p.1
          congr 1; omega
    refine ⟨?_, fun b hb => ?_, fun b hb q hq e => ?_, fun q hq => ?_, fun z hz q hq => ?_⟩
    · unfold Srt
      rw [List.pairwise_append]
      refine ⟨I.srt, List.pairwise_singleton _ _, fun a ha b hb => ?_⟩
      rw [List.mem_singleton.mp hb]
      exact hlt a (I.mem a ha)
    · rcases List.mem_append.mp hb with hb | hb
      · exact List.mem_cons_of_mem _ (I.mem b hb)
      · rw [List.mem_singleton.mp hb]; exact List.mem_cons_self ..
    · rcases List.mem_append.mp hb with hb | hb
      · exact hlow b hb q hq e
      · have hb := List.mem_singleton.mp hb
        subst hb
        rcases List.mem_cons.mp hq with rfl | hq
        · exact Int.le_refl _
        · have := hlt q hq; omega
    · rcases List.mem_cons.mp hq with rfl | hq
      · exact ⟨q, by simp, rfl⟩
      · obtain ⟨b, hb, e⟩ := I.has q hq
        exact ⟨b, List.mem_append_left _ hb, e⟩
    · rw [List.getLast?_concat] at hz
      injection hz with hz
      subst hz
      rcases List.mem_cons.mp hq with rfl | hq
      · exact Int.le_refl _
      · exact hle q hq
theorem lowOf_rev : ∀ ps : List (Int × Int), ps.reverse.Pairwise LexLe → LowInv (lowOf ps.reverse) ps
  | [], _ => ⟨List.Pairwise.nil, fun b hb => (nomatch hb), fun b hb => (nomatch hb), fun q hq => (nomatch hq), fun z hz => (nomatch hz)⟩
  | p :: ps, h => by
    rw [List.reverse_cons] at h ⊢
    obtain ⟨h1, h2, h3⟩ := List.pairwise_append.mp h
    have e : lowOf (ps.reverse ++ [p]) = lowStep (lowOf ps.reverse) p := by unfold lowOf; rw [List.foldl_append]; rfl
    rw [e]
    exact (lowOf_rev ps h1).step fun q hq => h3 q (List.mem_reverse.mpr hq) p (List.mem_cons_self ..)
theorem lowOf_inv {ps : List (Int × Int)} (h : ps.Pairwise LexLe) : LowInv (lowOf ps) ps.reverse := by
  have := lowOf_rev ps.reverse (by rw [List.reverse_reverse]; exact h)
  rwa [List.reverse_reverse] at this
theorem srt_ext : ∀ {l1 l2 : List (Int × Int)}, Srt l1 → Srt l2 → (∀ x, x ∈ l1 ↔ x ∈ l2) → l1 = l2
  | [], [], _, _, _ => rfl
  | [], b :: l2, _, _, h => by have := (h b).mpr (List.mem_cons_self ..); cases this
  | a :: l1, [], _, _, h => by have := (h a).mp (List.mem_cons_self ..); cases this
  | a :: l1, b :: l2, h1, h2, h => by
    have p1 := List.pairwise_cons.mp h1
    have p2 := List.pairwise_cons.mp h2
    have e : a = b := by
      rcases List.mem_cons.mp ((h a).mp (List.mem_cons_self ..)) with e | ha
      · exact e
      · rcases List.mem_cons.mp ((h b).mpr (List.mem_cons_self ..)) with e | hb
        · exact e.symm
        · have := p2.1 a ha; have := p1.1 b hb; omega
    subst e
    rw [srt_ext (l1 := l1) (l2 := l2) p1.2 p2.2 fun x => ⟨fun hx => ?_, fun hx => ?_⟩]
    · rcases List.mem_cons.mp ((h x).mp (List.mem_cons_of_mem _ hx)) with rfl | hx'
      · have := p1.1 x hx; omega
      · exact hx'
    · rcases List.mem_cons.mp ((h x).mpr (List.mem_cons_of_mem _ hx)) with rfl | hx'
      · have := p2.1 x hx; omega
      · exact hx'
theorem Ln.lower {a a' c c' b : Int × Int} (h1 : a'.1 = a.1) (h2 : a'.2 ≤ a.2) (h3 : c'.1 = c.1) (h4 : c'.2 ≤ c.2) (ha : a.1 < b.1) (hc : b.1 < c.1) (h : Ln a' c' b < 0) : Ln a c b < 0 := by
  have e1 : 0 ≤ (c.1 - b.1) * (a.2 - a'.2) := Int.mul_nonneg (by omega) (by omega)
  have e2 : 0 ≤ (b.1 - a.1) * (c.2 - c'.2) := Int.mul_nonneg (by omega) (by omega)
  have e3 : Ln a c b = Ln a' c' b - (c.1 - b.1) * (a.2 - a'.2) - (b.1 - a.1) * (c.2 - c'.2) := by unfold Ln; rw [h1, h3]; grind
  omega
/-- what the loop leaves is the rim that the law reckons -/
theorem hull_rim {ps ps' : List (Int × Int)} (hperm : ps'.Perm ps) (hs : ps'.Pairwise LexLe) : hullOf ps = rimOf (lowOf ps') := by
  obtain ⟨I, hne⟩ := hull_inv ps
  have J := lowOf_inv hs
  have hm : ∀ q, q ∈ ps'.reverse ↔ q ∈ ps := fun q => List.mem_reverse.trans hperm.mem_iff
  refine srt_ext I.srt (J.srt.sublist List.filter_sublist) fun b => ⟨fun hb => ?_, fun hb => ?_⟩
  · obtain ⟨r1, r2, r3⟩ := I.rim hb
    obtain ⟨b', hb', e⟩ := J.has b ((hm b).mpr r1)
    have e1 := J.low b' hb' b ((hm b).mpr r1) e.symm
    have e2 := r2 b' ((hm b').mp (J.mem b' hb')) e
    have : b' = b := Prod.ext e (by omega)
    subst this
    refine List.mem_filter.mpr ⟨hb', decide_eq_true fun a ha c hc h1 h2 => (bel_iff _ _ _).mpr (r3 a ((hm a).mp (J.mem a ha)) c ((hm c).mp (J.mem c hc)) h1 h2)⟩
  · obtain ⟨h1, h2⟩ := List.mem_filter.mp hb
    have h2 := of_decide_eq_true h2
    have hbp := (hm b).mp (J.mem b h1)
    refine I.of_rim (fun e => by rw [hne e] at hbp; cases hbp) ⟨hbp, fun a ha e => J.low b h1 a ((hm a).mpr ha) e, fun a ha c hc ha1 hc1 => ?_⟩
    obtain ⟨a', ha', ea⟩ := J.has a ((hm a).mpr ha)
    obtain ⟨c', hc', ec⟩ := J.has c ((hm c).mpr hc)
    exact Ln.lower ea (J.low a' ha' a ((hm a).mpr ha) ea.symm) ec (J.low c' hc' c ((hm c).mpr hc) ec.symm) ha1 hc1 ((bel_iff _ _ _).mp (h2 a' ha' c' hc' (by omega) (by omega)))
noncomputable def costP (q : Int × Int) (t : Int) : Int := q.2 + q.1 * t
theorem rise_get {ps : List (Int × Int)} {t : Int} {i : Nat} {u v : Int × Int} (h1 : ps[i]? = some u) (h2 : ps[i + 1]? = some v) : rise ps t i = costP v t - costP u t := by
  unfold rise costOf costP; rw [h1, h2]
theorem rise_step {u v w : Int × Int} {t : Int} (h1 : u.1 < v.1) (h2 : v.1 < w.1) (h : 0 < Ln u v w) (hr : costP w t - costP v t ≤ 0) : costP v t - costP u t < 0 := by
  have e1 : (v.1 - u.1) * (costP w t - costP v t) ≤ 0 := Int.mul_nonpos_of_nonneg_of_nonpos (by omega) hr
  have e2 : (w.1 - v.1) * (costP v t - costP u t) = (v.1 - u.1) * (costP w t - costP v t) - Ln u v w := by unfold costP Ln; grind
  have e3 : (w.1 - v.1) * (costP v t - costP u t) < 0 := by omega
  exact Int.lt_of_not_ge fun q => by
    have : 0 ≤ (w.1 - v.1) * (costP v t - costP u t) := Int.mul_nonneg (by omega) q
    omega
theorem adj_get {α : Type} {ps : List α} {i : Nat} {u v : α} (h1 : ps[i]? = some u) (h2 : ps[i + 1]? = some v) : Adj ps u v := by
  refine ⟨ps.take i, ps.drop (i + 2), ?_⟩
  obtain ⟨a1, b1⟩ := List.getElem?_eq_some_iff.mp h1
  obtain ⟨a2, b2⟩ := List.getElem?_eq_some_iff.mp h2
  have e1 : ps.drop i = u :: ps.drop (i + 1) := by rw [List.drop_eq_getElem_cons a1, b1]
  have e2 : ps.drop (i + 1) = v :: ps.drop (i + 2) := by rw [List.drop_eq_getElem_cons a2, b2]
  rw [← e2, ← e1, List.take_append_drop]
theorem tri_get {α : Type} {ps : List α} {i : Nat} {u v w : α} (h1 : ps[i]? = some u) (h2 : ps[i + 1]? = some v) (h3 : ps[i + 2]? = some w) : Tri ps u v w := by
  refine ⟨ps.take i, ps.drop (i + 3), ?_⟩
  obtain ⟨a1, b1⟩ := List.getElem?_eq_some_iff.mp h1
  obtain ⟨a2, b2⟩ := List.getElem?_eq_some_iff.mp h2
  obtain ⟨a3, b3⟩ := List.getElem?_eq_some_iff.mp h3
  have e1 : ps.drop i = u :: ps.drop (i + 1) := by rw [List.drop_eq_getElem_cons a1, b1]
  have e2 : ps.drop (i + 1) = v :: ps.drop (i + 2) := by rw [List.drop_eq_getElem_cons a2, b2]
  have e3 : ps.drop (i + 2) = w :: ps.drop (i + 3) := by rw [List.drop_eq_getElem_cons a3, b3]
  rw [← e3, ← e2, ← e1, List.take_append_drop]
theorem rise_down {hps pts : List (Int × Int)} {t : Int} (I : Inv hps pts) {j : Nat} (hj : j + 1 < hps.length) (hr : rise hps t j ≤ 0) : ∀ (d i : Nat), i + (d + 1) = j → rise hps t i < 0 := by
  intro d
  induction d with
  | zero =>
    intro i hi
    have h0 := List.getElem?_eq_getElem (l := hps) (i := i) (by omega)
    have h1 := List.getElem?_eq_getElem (l := hps) (i := i + 1) (by omega)
    have h2 := List.getElem?_eq_getElem (l := hps) (i := i + 2) (by omega)
    rw [rise_get h0 h1]
    have e : j = i + 1 := by omega
    subst e
    rw [rise_get h1 h2] at hr
    exact rise_step ((adj_get h0 h1).srt I.srt) ((adj_get h1 h2).srt I.srt) (I.cvx _ _ _ (tri_get h0 h1 h2)) hr
  | succ d ih =>
    intro i hi
    have hn := ih (i + 1) (by omega)
    have h0 := List.getElem?_eq_getElem (l := hps) (i := i) (by omega)
    have h1 := List.getElem?_eq_getElem (l := hps) (i := i + 1) (by omega)
    have h2 := List.getElem?_eq_getElem (l := hps) (i := i + 2) (by omega)
    rw [rise_get h0 h1]
    rw [rise_get h1 h2] at hn
    exact rise_step ((adj_get h0 h1).srt I.srt) ((adj_get h1 h2).srt I.srt) (I.cvx _ _ _ (tri_get h0 h1 h2)) (Int.le_of_lt hn)
theorem rise_m1 {hps pts : List (Int × Int)} {t : Int} (I : Inv hps pts) : ∀ i j, i < j → j + 1 < hps.length → rise hps t j < 0 → rise hps t i < 0 :=
  fun i j hij hj hr => rise_down I hj (Int.le_of_lt hr) (j - i - 1) i (by omega)
theorem rise_m2 {hps pts : List (Int × Int)} {t : Int} (I : Inv hps pts) : ∀ i j, i < j → j + 1 < hps.length → ¬ 0 < rise hps t j → ¬ 0 < rise hps t i :=
  fun i j hij hj hr => by have := rise_down I hj (Int.not_lt.mp hr) (j - i - 1) i (by omega); omega
theorem right_of {a v q : Int × Int} {t : Int} (h1 : a.1 < v.1) (h2 : a.1 < q.1) (h : 0 ≤ Ln a v q) : (0 ≤ costP v t - costP a t → costP a t ≤ costP q t) ∧ (0 < costP v t - costP a t → costP a t < costP q t) := by
  have e : (v.1 - a.1) * (costP q t - costP a t) = Ln a v q + (q.1 - a.1) * (costP v t - costP a t) := by unfold costP Ln; grind
  refine ⟨fun r => ?_, fun r => ?_⟩
  · have e1 : 0 ≤ (q.1 - a.1) * (costP v t - costP a t) := Int.mul_nonneg (by omega) r
    have e2 : 0 ≤ (v.1 - a.1) * (costP q t - costP a t) := by omega
    have := Int.nonneg_of_mul_nonneg_right e2 (show 0 < v.1 - a.1 by omega); omega
  · have e1 : 0 < (q.1 - a.1) * (costP v t - costP a t) := Int.mul_pos (by omega) r
    have e2 : 0 < (v.1 - a.1) * (costP q t - costP a t) := by omega
    have := Int.pos_of_mul_pos_right e2 (by omega); omega
theorem left_of {u a q : Int × Int} {t : Int} (h1 : u.1 < a.1) (h2 : q.1 < a.1) (h : 0 ≤ Ln u a q) : (costP a t - costP u t ≤ 0 → costP a t ≤ costP q t) ∧ (costP a t - costP u t < 0 → costP a t < costP q t) := by
  have e : (a.1 - u.1) * (costP q t - costP a t) = Ln u a q + (a.1 - q.1) * (costP u t - costP a t) := by unfold costP Ln; grind
  refine ⟨fun r => ?_, fun r => ?_⟩
  · have e1 : 0 ≤ (a.1 - q.1) * (costP u t - costP a t) := Int.mul_nonneg (by omega) (by omega)
    have e2 : 0 ≤ (a.1 - u.1) * (costP q t - costP a t) := by omega
    have := Int.nonneg_of_mul_nonneg_right e2 (show 0 < a.1 - u.1 by omega); omega
  · have e1 : 0 < (a.1 - q.1) * (costP u t - costP a t) := Int.mul_pos (by omega) (by omega)
    have e2 : 0 < (a.1 - u.1) * (costP q t - costP a t) := by omega
    have := Int.pos_of_mul_pos_right e2 (by omega); omega
theorem costP_same {a q : Int × Int} {t : Int} (h1 : q.1 = a.1) (h2 : a.2 ≤ q.2) : costP a t ≤ costP q t ∧ (costP q t = costP a t → q = a) := by
  unfold costP; rw [h1]
  exact ⟨by omega, fun e => Prod.ext h1 (by omega)⟩
theorem few_ok {hps pts : List (Int × Int)} {t : Int} (I : Inv hps pts) {c : Nat} {a : Int × Int} (ha : hps[c]? = some a) (h1 : ∀ i, i < c → rise hps t i < 0) (h2 : ∀ i, c ≤ i → i + 1 < hps.length → ¬ rise hps t i < 0) :
    ∀ q ∈ pts, costP a t ≤ costP q t ∧ (costP q t = costP a t → LexLe a q) := by
  intro q hq
  have ham := List.mem_of_getElem? ha
  have hcl := (List.getElem?_eq_some_iff.mp ha).1
  rcases Int.lt_trichotomy q.1 a.1 with c1 | c1 | c1
  · cases c with
    | zero =>
      have := I.lo a (by rw [List.head?_eq_getElem?]; exact ha) q hq
      omega
    | succ c =>
      have h0 := List.getElem?_eq_getElem (l := hps) (i := c) (by omega)
      have hadj := adj_get h0 ha
      have hr := h1 c (by omega)
      rw [rise_get h0 ha] at hr
      have := (left_of (t := t) (hadj.srt I.srt) c1 (I.abv _ _ hadj q hq)).2 hr
      exact ⟨by omega, fun e => by omega⟩
  · have := costP_same (t := t) c1 (I.low a ham q hq c1)
    exact ⟨this.1, fun e => by rw [this.2 e]; exact LexLe.refl _⟩
  · by_cases hl : c + 1 < hps.length
    · have hn := List.getElem?_eq_getElem (l := hps) (i := c + 1) hl
      have hadj := adj_get ha hn
      have hr := h2 c (Nat.le_refl _) hl
      rw [rise_get ha hn] at hr
      exact ⟨(right_of (t := t) (hadj.srt I.srt) c1 (I.abv _ _ hadj q hq)).1 (by omega), fun _ => .inl c1⟩
    · have := I.hi a (by rw [List.getLast?_eq_getElem?, show hps.length - 1 = c by omega]; exact ha) q hq
      omega
theorem many_ok {hps pts : List (Int × Int)} {t : Int} (I : Inv hps pts) {c : Nat} {a : Int × Int} (ha : hps[c]? = some a) (h1 : ∀ i, i < c → ¬ 0 < rise hps t i) (h2 : ∀ i, c ≤ i → i + 1 < hps.length → 0 < rise hps t i) :
    ∀ q ∈ pts, costP a t ≤ costP q t ∧ (costP q t = costP a t → LexLe q a) := by
  intro q hq
  have ham := List.mem_of_getElem? ha
  have hcl := (List.getElem?_eq_some_iff.mp ha).1
  rcases Int.lt_trichotomy q.1 a.1 with c1 | c1 | c1
  · cases c with
    | zero =>
      have := I.lo a (by rw [List.head?_eq_getElem?]; exact ha) q hq
      omega
    | succ c =>
      have h0 := List.getElem?_eq_getElem (l := hps) (i := c) (by omega)
      have hadj := adj_get h0 ha
      have hr := h1 c (by omega)
      rw [rise_get h0 ha] at hr
      exact ⟨(left_of (t := t) (hadj.srt I.srt) c1 (I.abv _ _ hadj q hq)).1 (by omega), fun _ => .inl c1⟩
  · have := costP_same (t := t) c1 (I.low a ham q hq c1)
    exact ⟨this.1, fun e => by rw [this.2 e]; exact LexLe.refl _⟩
  · by_cases hl : c + 1 < hps.length
    · have hn := List.getElem?_eq_getElem (l := hps) (i := c + 1) hl
      have hadj := adj_get ha hn
      have hr := h2 c (Nat.le_refl _) hl
      rw [rise_get ha hn] at hr
      have := (right_of (t := t) (hadj.srt I.srt) c1 (I.abv _ _ hadj q hq)).2 hr
      exact ⟨by omega, fun e => by omega⟩
    · have := I.hi a (by rw [List.getLast?_eq_getElem?, show hps.length - 1 = c by omega]; exact ha) q hq
      omega
theorem LexLe.anti {a b : Int × Int} (h : LexLe a b) (k : LexLe b a) : a = b := by
  unfold LexLe at *; exact Prod.ext (by omega) (by omega)
/-- those who cost the least -/
noncomputable def dueOf (ps : List (Int × Int)) (t least : Int) : List (Int × Int) := ps.filter fun q => decide (costP q t = least)
theorem due_ends {hps pts : List (Int × Int)} {t least : Int} (I : Inv hps pts) {c1 c2 : Nat} {a b p q : Int × Int} (hl : ∃ z ∈ pts, costP z t = least) (hl2 : ∀ z ∈ pts, least ≤ costP z t)
    (ha : hps[c1]? = some a) (h1 : ∀ i, i < c1 → rise hps t i < 0) (h2 : ∀ i, c1 ≤ i → i + 1 < hps.length → ¬ rise hps t i < 0)
    (hb : hps[c2]? = some b) (h3 : ∀ i, i < c2 → ¬ 0 < rise hps t i) (h4 : ∀ i, c2 ≤ i → i + 1 < hps.length → 0 < rise hps t i)
    (hp : p ∈ dueOf pts t least) (hp2 : ∀ z ∈ dueOf pts t least, LexLe p z) (hq : q ∈ dueOf pts t least) (hq2 : ∀ z ∈ dueOf pts t least, LexLe z q) : a = p ∧ b = q := by
  obtain ⟨z, hz, ez⟩ := hl
  have ham := I.mem a (List.mem_of_getElem? ha)
  have hbm := I.mem b (List.mem_of_getElem? hb)
  have fa := few_ok I ha h1 h2
  have mb := many_ok I hb h3 h4
  have ea : costP a t = least := by have := (fa z hz).1; have := hl2 a ham; omega
  have eb : costP b t = least := by have := (mb z hz).1; have := hl2 b hbm; omega
  have had : a ∈ dueOf pts t least := List.mem_filter.mpr ⟨ham, decide_eq_true ea⟩
  have hbd : b ∈ dueOf pts t least := List.mem_filter.mpr ⟨hbm, decide_eq_true eb⟩
  obtain ⟨hp3, hp4⟩ := List.mem_filter.mp hp
  obtain ⟨hq3, hq4⟩ := List.mem_filter.mp hq
  exact ⟨((fa p hp3).2 ((of_decide_eq_true hp4).trans ea.symm)).anti (hp2 a had), ((hq2 b hbd).anti ((mb q hq3).2 ((of_decide_eq_true hq4).trans eb.symm)))⟩

end

section
local macro_rules | `(tactic| walk_at "storeName") => `(tactic| with_reducible refine heldStore "turns" ?_)
local macro_rules | `(tactic| walk_at "storeName") => `(tactic| with_reducible refine heldStore "least" ?_)
local macro_rules | `(tactic| walk_at "subscriptTail Name Slice ref ref") => `(tactic| refine held ?_)
local macro_rules | `(tactic| walk_at "binaryOp Add ref ref") => `(tactic| refine held ?_)
local macro_rules | `(tactic| walk_at "CompEnd") => `(tactic| refine held ?_)
local macro_rules | `(tactic| walk_at "call builtin:min") => `(tactic| refine held ?_)
local macro_rules | `(tactic| walk_at "call builtin:max") => `(tactic| refine held ?_)
local macro_rules | `(tactic| walk_at "call builtin:abs") => `(tactic| refine held ?_)
local macro_rules | `(tactic| walk_at "compareOp NotEq ref ref") => `(tactic| refine held ?_)
local macro_rules | `(tactic| walk_at "execs cons") => `(tactic| ((with_reducible show wpAny _ _ (execs (Stmt.Return _ _ :: _) _) _ _ _); refine held ?_))
theorem srcT_inv {prog : Program} {w : World} {A : Around} {h₀ : Heap} {L : Addr} {m : Str → Option Value} {env : Env} {ct elt : PySem.Expr} {x : Str} {scope : Scope} {cl : List (Str × Addr)} {Fin : Shared → List Value → List (Addr × Obj) → Prop} {ax : Addr} {vs : List Value} {k : Nat} {news : List (Addr × Obj)} {s₁ : Shared}
    (Inv : List (Addr × Obj) → Nat → List Value → List (Addr × Obj) → Prop)
    (hh : A.handled = none) (F : Fr h₀ L s₁.heap m) (N : News h₀ L s₁.heap news) (hm : (ax, listOf vs.toArray k) ∈ news) (hsz : vs.length ≤ sizeLine) (h0 : Inv news 0 [] news)
    (turn : ∀ g i ys nw v I oI C oC D m₂ h tk (E' : Value → Shared → Prop), i < vs.length → Inv news i ys nw → vs[i]? = some v → PyProof.Rows.LCg.NsObj oC m₂ → m₂ x = some v → Fr h₀ L h m → News h₀ L h ((I, oI) :: (C, oC) :: (D, PyProof.Rows.LCg.lst ys) :: nw) → PyProof.Rows.LCg.Off3 I C D nw → ((@Ne Nat I C) ∧ (@Ne Nat I D) ∧ (@Ne Nat C D)) →
      wpAny (model prog w) A (isTrue ct (compEnvC scope cl C env) (eval ct (compEnvC scope cl C env))) (fun ok s' => if ok = true then
        wpAny (model prog w) A (eval elt (compEnvC scope cl C env)) (PyProof.Rows.LCg.CompEnd h₀ L m { { s₁ with heap := g } with heap := h, toks := tk } I oI C oC D (PyProof.Rows.LCg.lst ys) (PyProof.Rows.LCg.SrcAt h₀ ax vs.toArray) (fun y nw' => Inv news (i + 1) (ys ++ [y]) nw')) E' s'
        else PyProof.Rows.LCg.CompEnd h₀ L m { { s₁ with heap := g } with heap := h, toks := tk } I oI C oC D (PyProof.Rows.LCg.lst ys) (PyProof.Rows.LCg.SrcAt h₀ ax vs.toArray) (fun _ nw' => Inv news (i + 1) ys nw') Value.none s') E' { { s₁ with heap := g } with heap := h, toks := tk })
    (fin : ∀ g ys nw, Inv news vs.length ys nw → Fin { s₁ with heap := g } ys nw) : PyProof.Rows.LCt.CompSrcT prog w A h₀ L m env ct elt x scope cl Fin (.ref ax) s₁ := by
  refine PyProof.Rows.LCt.CompSrcT.ledger hh F N hm (by rw [List.size_toArray]; exact hsz) fun g => ?_
  have e : vs.toArray.size = vs.length := List.size_toArray
  rw [e]
  exact restT_inv (Inv news) h0 (fun i ys nw v I oI C oC D m₂ h tk E' hi hI hP => turn g i ys nw v I oI C oC D m₂ h tk E' hi hI (by simpa using hP)) (fin g)
inductive GJ (m₀ : Str → Option Value) (news : List (Addr × Obj)) (L : Addr) (_ : Nat) (m₁ : Str → Option Value) (nw : List (Addr × Obj)) : Prop
  | mk (ex tb o5 o6 v5 v6) (f1 : nw = (L + 1 + 1 + 1 + 1 + 1, o5) :: (L + 1 + 1 + 1 + 1 + 1 + 1, o6) :: (247, tabObj tb) :: (ex ++ news)) (f2 : o5.data = .cell v5) (f3 : o6.data = .cell v6) (f4 : TabSt tb (ex ++ news)) (f5 : (∀ q ∈ ex ++ news, q.1 ≠ L + 1 + 1 + 1 + 1 + 1 ∧ q.1 ≠ L + 1 + 1 + 1 + 1 + 1 + 1 ∧ q.1 ≠ 247)) (f6 : KeepM m₀ m₁ [Str.ofString "due"])
set_option maxRecDepth 100000 in
set_option maxHeartbeats 8000000 in
theorem stG {q : Str} {fa : Addr} {cd : Value} {Q : Flow → Shared → Prop} {S P H : Addr} {nP nH : Nat} {vs pvs hvs : List Value} {ns : List Int} {ps : List (Int × Int)} {o5 o6 : Obj} {v5 v6 : Option Value} {tb : Array Value}
    (F : Fr h₀ L s.heap m) (N : News h₀ L s.heap ((L + 1 + 1 + 1 + 1 + 1, o5) :: (L + 1 + 1 + 1 + 1 + 1 + 1, o6) :: (247, tabObj tb) :: news)) (hne : ∀ q ∈ news, q.1 ≠ L + 1 + 1 + 1 + 1 + 1 ∧ q.1 ≠ L + 1 + 1 + 1 + 1 + 1 + 1 ∧ q.1 ≠ 247)
    (X : (hd.heap_1 w.params).In h₀) (T : Top p loose mean mg mb h₀) (CH : CodeHd h₀ 251 247) (h247 : @LT.lt Nat _ 247 L)
    (hh : A.handled = none) (hroom : A.depth + 200 < recursionLimit) (hu : A.units + 2000 < cLine)
    (hS : m (Str.ofString "script") = some (.ref S)) (hl : h₀.IsList S vs.toArray) (hi : IntsAre vs ns) (hlen : ns.length ≤ 63)
    (hP : m (Str.ofString "points") = some (.ref P)) (hPm : (P, listOf pvs.toArray nP) ∈ news) (hPs : All2 (Tup2 news) pvs ps) (h2 : 2 ≤ pvs.length) (h64 : pvs.length ≤ 60) (hss : ∀ a ∈ ps, Small a)
    (hH : m (Str.ofString "hull") = some (.ref H)) (hHm : (H, listOf hvs.toArray nH) ∈ news) (hq : Pts w.params news hvs (hullOf ps))
    (d5 : o5.data = .cell v5) (d6 : o6.data = .cell v6) (htb : TabSt tb news)
    (k : ∀ h' tk m' news' tb', (247, tabObj tb') ∈ news' → Fr h₀ L h' m' → News h₀ L h' news' →
      wpAny (model prog w) A (execs (lawRest w.params 15) (lawEnv w.params q L fa cd)) Q (fun _ _ => False) { s with heap := h', toks := tk }) :
    wpAny (model prog w) A (execs (lawRest w.params 14) (lawEnv w.params q L fa cd)) Q (fun _ _ => False) s := by
  unfold lawRest lawEnv lawPieces fnPieces
  dsimp only [List.drop]
  k_steps
  refine For_invT h₀ ?_ (by intro _; rfl) PassesOwn.never
  k_steps
  rename Fr _ _ _ _ => F1; rename News _ _ _ _ => N1; rename Addr => D1; rename (_ ∧ _) => l1
  refine PyProof.Rows.LCg.ListComp_U F1 (by with_unfolding_all rfl) (by decide) (by rfl) (by decide) (by rfl) ?_
  k_steps
  refine kmk_slice F1 (N1.grown fun _ _ e => e) (hl.at fun o e => F1.keep _ o e) .none (.int 2 _) (fun D2 h2' F2 N2 l2 => ?_) (by with_unfolding_all rfl) (by intro _; with_unfolding_all rfl) (by rw [sizeLine_eq, List.size_toArray, hi.length]; omega)
  have hsl : slicePick vs.toArray none (some 2) none = (vs.take 2).toArray := slicePick_upto' vs.toArray 2
  rw [hsl] at N2
  k_steps
  have hi2 := hi.take 2
  refine src_inv (fun led j zs nw => nw = led ∧ zs.length = j ∧ ∃ zns, IntsAre zs zns) hh F2 N2 (.head _) (by rw [sizeLine_eq, List.length_take]; omega) ⟨rfl, rfl, [], .nil⟩ ?_ ?_
  · rintro g j zs nw v I2 oI2 C oC D' m₂ h6 tk6 E' hj ⟨rfl, hzl, zns, hz⟩ hv hC hx2 F6 N6 off ne
    obtain ⟨xv, tv, rfl, _⟩ := IntsAre.at hi2 j v hv
    k_steps
    refine call_abs_int fun u7 tk7 => ?_
    k_steps
    unfold Hold
    exact PyProof.Rows.LCg.CompEnd.intro F6 N6 _ (fun q hq => hq) off (.inr ⟨_, .head _, rfl, _, rfl⟩) ⟨rfl, by simp [hzl], _, ksk_snoc hz⟩
  · rintro g zs nw ⟨rfl, hzl, zns, hz⟩ D9 h9 tk9 F9 N9 o9
    k_steps
    have hltL := fun (q : Addr × Obj) hq => Heap.lt_size (N9 q hq).1
    refine add_arrays_ints F9 N9 (News.isList N9 (.tail _ (.tail _ (.head _)))) (News.isList N9 (.head _)) (.cons _ _ (.cons _ _ (.cons _ _ (.cons _ _ (.cons _ _ (.cons _ _ .nil)))))) hz (fun h10 F10 N10 hiL => ?_) (by
      have h1 := hz.length
      rw [List.length_take] at hzl
      rw [sizeLine_eq]; simp; omega)
    rw [List.toList_toArray, List.toList_toArray] at N10 hiL
    generalize h9.objs.size = DL at *
    k_steps
    obtain ⟨LV, NV, eLV, hLV⟩ : ∃ LV NV, LV = _ ∧ IntsAre LV NV := ⟨_, _, rfl, hiL⟩
    rw [← eLV] at N10
    clear hiL eLV
    have m5 : (L + 1 + 1 + 1 + 1 + 1, o5) ∈ (L + 1 + 1 + 1 + 1 + 1, o5) :: (L + 1 + 1 + 1 + 1 + 1 + 1, o6) :: (247, tabObj tb) :: news := .head _
    have m6 : (L + 1 + 1 + 1 + 1 + 1 + 1, o6) ∈ (L + 1 + 1 + 1 + 1 + 1, o5) :: (L + 1 + 1 + 1 + 1 + 1 + 1, o6) :: (247, tabObj tb) :: news := .tail _ (.head _)
    have m7 : (247, tabObj tb) ∈ (L + 1 + 1 + 1 + 1 + 1, o5) :: (L + 1 + 1 + 1 + 1 + 1 + 1, o6) :: (247, tabObj tb) :: news := .tail _ (.tail _ (.head _))
    have offs : ∀ r ∈ (L + 1 + 1 + 1 + 1 + 1, o5) :: (L + 1 + 1 + 1 + 1 + 1 + 1, o6) :: (247, tabObj tb) :: news, DL ≠ r.1 := fun r hr => Nat.ne_of_gt (hltL r (.tail _ (.tail _ (.tail _ hr))))
    have hDL5 : DL ≠ L + 1 + 1 + 1 + 1 + 1 := offs _ m5
    have hDL6 : DL ≠ L + 1 + 1 + 1 + 1 + 1 + 1 := offs _ m6
    have hDL7 : DL ≠ (247 : Addr) := offs _ m7
    refine for_list (L := L) (GJ m news L) rfl hh F10 (news := (L + 1 + 1 + 1 + 1 + 1, o5) :: (L + 1 + 1 + 1 + 1 + 1 + 1, o6) :: (247, tabObj tb) :: ([(DL, listOf LV.toArray 0)] ++ news)) (fun r hr => N10 r ?_) (.tail _ (.tail _ (.tail _ (.head _))))
      ⟨_, tb, o5, o6, v5, v6, rfl, d5, d6, htb.mono fun r hr => List.mem_append_right _ hr, fun r hr => ?_, fun y hy => rfl⟩ ?_ ?_
    · simp only [List.mem_cons, List.mem_append, List.not_mem_nil, or_false] at hr ⊢
      rcases hr with h | h | h | h | h
      · exact .inr (.inr (.inr (.inr (.inl h))))
      · exact .inr (.inr (.inr (.inr (.inr (.inl h)))))
      · exact .inr (.inr (.inr (.inr (.inr (.inr (.inl h))))))
      · exact .inl h
      · exact .inr (.inr (.inr (.inr (.inr (.inr (.inr h))))))
    · rcases List.mem_append.mp hr with hr | hr
      · rw [List.mem_singleton.mp hr]
        exact ⟨offs _ m5, offs _ m6, offs _ m7⟩
      · exact hne r hr
    · rintro i v m₁ _ s₁ I oI hcI hv ⟨ex, tb, o5, o6, v5, v6, rfl, d5, d6, htb, hoff, mK⟩ hDm hI F11 N11
      obtain ⟨t, tv, rfl, _⟩ := IntsAre.at hLV i v hv
      have hI5 : (L + 1 + 1 + 1 + 1 + 1 : Addr) ≠ I := hI (L + 1 + 1 + 1 + 1 + 1, o5) (.head _)
      have hI6 : (L + 1 + 1 + 1 + 1 + 1 + 1 : Addr) ≠ I := hI (L + 1 + 1 + 1 + 1 + 1 + 1, o6) (.tail _ (.head _))
      have hI7 : (247 : Addr) ≠ I := hI (247, tabObj tb) (.tail _ (.tail _ (.head _)))
      have h56 : (L + 1 + 1 + 1 + 1 + 1 : Addr) ≠ L + 1 + 1 + 1 + 1 + 1 + 1 := Nat.ne_of_lt (Nat.lt_succ_self _)
      have h57 : (L + 1 + 1 + 1 + 1 + 1 : Addr) ≠ 247 := Nat.ne_of_gt (by show (247 : Nat) < L + 1 + 1 + 1 + 1 + 1; omega)
      have h67 : (L + 1 + 1 + 1 + 1 + 1 + 1 : Addr) ≠ 247 := Nat.ne_of_gt (by show (247 : Nat) < L + 1 + 1 + 1 + 1 + 1 + 1; omega)
      have hPm1 : (P, listOf pvs.toArray nP) ∈ ex ++ news := List.mem_append_right _ hPm
      have hHm1 : (H, listOf hvs.toArray nH) ∈ ex ++ news := List.mem_append_right _ hHm
      have mP : m₁ (Str.ofString "points") = some (.ref P) := (mK _ (by decide)).trans hP
      have mH : m₁ (Str.ofString "hull") = some (.ref H) := (mK _ (by decide)).trans hH
      k_steps
      refine store_cell ((I, oI) :: (L + 1 + 1 + 1 + 1 + 1 + 1, o6) :: (247, tabObj tb) :: (ex ++ news)) F11 N11 (c := L + 1 + 1 + 1 + 1 + 1) (by rfl) (.tail _ (.head _)) d5 (fun r hr => ?_) (fun h12 o5n F12 N12 d5n => ?_)
      · rcases List.mem_cons.mp hr with rfl | hr
        · exact ⟨.head _, Ne.symm hI5⟩
        · rcases List.mem_cons.mp hr with rfl | hr
          · exact ⟨.tail _ (.tail _ (.head _)), Ne.symm h56⟩
          · rcases List.mem_cons.mp hr with rfl | hr
            · exact ⟨.tail _ (.tail _ (.tail _ (.head _))), Ne.symm h57⟩
            · exact ⟨.tail _ (.tail _ (.tail _ (.tail _ hr))), (hoff r hr).1⟩
      k_steps
      refine PyProof.Rows.LCg.ListComp_U F12 (by with_unfolding_all rfl) (by decide) (by rfl) (by decide) (by rfl) ?_
      k_steps
      refine src_inv (fun led j zs nw => nw = led ∧ IntsAre zs ((ps.take j).map fun q => costP q t)) hh F12 N12 (.tail _ (.tail _ (.tail _ (.tail _ hPm1)))) (by rw [sizeLine_eq]; omega) ⟨rfl, .nil⟩ ?_ ?_
      · rintro g2 j zs2 nw v2 I2 oI2 C oC D' m₂ h6 tk6 E' hj ⟨rfl, hz2⟩ hv2 hC hx2 F6 N6 off ne
        have hjl : j < ps.length := by rw [← hPs.1]; exact hj
        obtain ⟨aT, nT, tx, tu, rfl, hTm⟩ := hPs.2 j v2 ps[j] hv2 (List.getElem?_eq_getElem hjl)
        have hsp := hss _ (List.getElem_mem hjl)
        have htk : ps.take (j + 1) = ps.take j ++ [ps[j]] := by rw [List.take_add_one, List.getElem?_eq_getElem hjl]; rfl
        generalize ps[j] = pt at *
        have hTm2 : (aT, tupO [.int pt.1 tx, .int pt.2 tu] nT) ∈ ex ++ news := List.mem_append_right _ hTm
        k_steps
        refine wpAny_call (cost_spec F6 N6 X T (by k_room) ⟨_, _, _, _, rfl, .tail _ (.tail _ (.tail _ (.tail _ (.tail _ (.tail _ (.tail _ hTm2))))))⟩ hsp ?_)
        intro h7 tk7 t7 F7 N7
        dsimp only
        k_steps
        unfold Hold
        refine PyProof.Rows.LCg.CompEnd.intro F7 N7 _ (fun q hq => hq) off (.inr ⟨_, .tail _ (.tail _ (.tail _ (.tail _ hPm1))), rfl, _, rfl⟩) ⟨rfl, ?_⟩
        rw [htk, List.map_append]
        exact ksk_snoc hz2
      · rintro g2 zs2 nw ⟨rfl, hz2⟩ D13 h13 tk13 F13 N13 o13
        rw [hPs.1, List.take_length] at hz2
        k_steps
        refine kso_min F13 N13 (News.isList N13 (.head _)) hz2 (by rw [List.length_map, ← hPs.1]; omega) hh ?_
        intro h14 M t14 tk14 F14 N14 hM1 hM2
        k_steps
        refine store_cell ((D13, PyProof.Rows.LCg.lst zs2) :: (L + 1 + 1 + 1 + 1 + 1, o5n) :: (I, oI) :: (247, tabObj tb) :: (ex ++ news)) F14 N14 (c := L + 1 + 1 + 1 + 1 + 1 + 1) (by rfl) (.tail _ (.tail _ (.tail _ (.head _)))) d6 (fun r hr => ?_) (fun h15 o6n F15 N15 d6n => ?_)
        · rcases List.mem_cons.mp hr with rfl | hr
          · exact ⟨.head _, Ne.symm (off1_mem o13 (L + 1 + 1 + 1 + 1 + 1 + 1, o6) (.tail _ (.tail _ (.head _))))⟩
          · rcases List.mem_cons.mp hr with rfl | hr
            · exact ⟨.tail _ (.head _), h56⟩
            · rcases List.mem_cons.mp hr with rfl | hr
              · exact ⟨.tail _ (.tail _ (.head _)), Ne.symm hI6⟩
              · rcases List.mem_cons.mp hr with rfl | hr
                · exact ⟨.tail _ (.tail _ (.tail _ (.tail _ (.head _)))), Ne.symm h67⟩
                · exact ⟨.tail _ (.tail _ (.tail _ (.tail _ (.tail _ hr)))), (hoff r hr).2.1⟩
        k_steps
        refine PyProof.Rows.LCt.Assign_ListComp_T F15 (by rfl) (by with_unfolding_all rfl) (by with_unfolding_all rfl) (by decide) (by rfl) (by decide) (by rfl) (by rfl) (by rfl) ?_
        k_steps
        refine srcT_inv (fun led j zs nw => nw = led ∧ All2 (Tup2 news) zs (dueOf (ps.take j) t M)) hh F15 N15 (.tail _ (.tail _ (.tail _ (.tail _ (.tail _ hPm1))))) (by rw [sizeLine_eq]; omega) ⟨rfl, .nil⟩ ?_ ?_
        · rintro g3 j zs3 nw v2 I2 oI2 C oC D' m₂ h6 tk6 E' hj ⟨rfl, hz3⟩ hv2 hC hx2 F6 N6 off ne
          have hjl : j < ps.length := by rw [← hPs.1]; exact hj
          obtain ⟨aT, nT, tx, tu, rfl, hTm⟩ := hPs.2 j v2 ps[j] hv2 (List.getElem?_eq_getElem hjl)
          have hsp := hss _ (List.getElem_mem hjl)
          have htk : ps.take (j + 1) = ps.take j ++ [ps[j]] := by rw [List.take_add_one, List.getElem?_eq_getElem hjl]; rfl
          generalize ps[j] = pt at *
          have hTm2 : (aT, tupO [.int pt.1 tx, .int pt.2 tu] nT) ∈ ex ++ news := List.mem_append_right _ hTm
          k_steps
          refine wpAny_call (cost_spec F6 N6 X T (by k_room) ⟨_, _, _, _, rfl, .tail _ (.tail _ (.tail _ (.tail _ (.tail _ (.tail _ (.tail _ (.tail _ hTm2)))))))⟩ hsp ?_)
          intro h7 tk7 t7 F7 N7
          dsimp only
          k_steps
          · rename pt.2 + pt.1 * t = M => hpm
            unfold Hold
            refine PyProof.Rows.LCg.CompEnd.intro F7 N7 _ (fun q hq => hq) off (.inr ⟨_, .tail _ (.tail _ (.tail _ (.tail _ (.tail _ hPm1)))), rfl, _, rfl⟩) ⟨rfl, ?_⟩
            unfold dueOf at hz3 ⊢
            rw [htk, List.filter_append, List.filter_cons_of_pos (by exact decide_eq_true hpm)]
            exact hz3.append (.cons ⟨aT, nT, tx, tu, rfl, hTm⟩ .nil)
          · rename pt.2 + pt.1 * t ≠ M => hpm
            unfold Hold
            refine PyProof.Rows.LCg.CompEnd.intro F7 N7 _ (fun q hq => hq) off (.inr ⟨_, .tail _ (.tail _ (.tail _ (.tail _ (.tail _ hPm1)))), rfl, _, rfl⟩) ⟨rfl, ?_⟩
            unfold dueOf at hz3 ⊢
            rw [htk, List.filter_append, List.filter_cons_of_neg (by rw [show decide (costP pt t = M) = false from decide_eq_false hpm]; decide), List.filter_nil, List.append_nil]
            exact hz3
        · rintro g3 zs3 nw ⟨rfl, hz3⟩ D16 h16 tk16 F16 N16 o16
          rw [hPs.1, List.take_length] at hz3
          k_steps
          obtain ⟨HI, hHne⟩ := hull_inv ps
          have hpl : 2 ≤ ps.length := by rw [← hPs.1]; exact h2
          have hhl : 1 ≤ hvs.length := by
            rw [hq.1]
            cases e : hullOf ps with
            | nil => rw [hHne e] at hpl; simp at hpl
            | cons a l => simp
          have hhl2 : hvs.length ≤ 100 := by
            have h1 := hq.1; have h2 := (hullOf_ok ps).2.2; have h3 := hPs.1; omega
          have sub16 : ∀ q ∈ ex ++ news, q ∈ (D16, PyProof.Rows.LCg.lst zs3) :: (L + 1 + 1 + 1 + 1 + 1 + 1, o6n) :: (D13, PyProof.Rows.LCg.lst zs2) :: (L + 1 + 1 + 1 + 1 + 1, o5n) :: (I, oI) :: (ex ++ news) := fun q hq => .tail _ (.tail _ (.tail _ (.tail _ (.tail _ hq))))
          have N17 : News h₀ L h16 ((247, tabObj tb) :: (D16, PyProof.Rows.LCg.lst zs3) :: (L + 1 + 1 + 1 + 1 + 1 + 1, o6n) :: (D13, PyProof.Rows.LCg.lst zs2) :: (L + 1 + 1 + 1 + 1 + 1, o5n) :: (I, oI) :: (ex ++ news)) := fun r hr => N16 r (by
            simp only [List.mem_cons] at hr ⊢
            rcases hr with h | h | h | h | h | h | h
            · exact .inr (.inr (.inr (.inr (.inr (.inl h)))))
            · exact .inl h
            · exact .inr (.inl h)
            · exact .inr (.inr (.inl h))
            · exact .inr (.inr (.inr (.inl h)))
            · exact .inr (.inr (.inr (.inr (.inl h))))
            · exact .inr (.inr (.inr (.inr (.inr (.inr h))))))
          have hpost : ∀ r ∈ (D16, PyProof.Rows.LCg.lst zs3) :: (L + 1 + 1 + 1 + 1 + 1 + 1, o6n) :: (D13, PyProof.Rows.LCg.lst zs2) :: (L + 1 + 1 + 1 + 1 + 1, o5n) :: (I, oI) :: (ex ++ news), r.1 ≠ 247 := fun r hr => by
            rcases List.mem_cons.mp hr with rfl | hr
            · exact Ne.symm (off1_mem o16 (247, tabObj tb) (.tail _ (.tail _ (.tail _ (.tail _ (.head _))))))
            · rcases List.mem_cons.mp hr with rfl | hr
              · exact h67
              · rcases List.mem_cons.mp hr with rfl | hr
                · exact Ne.symm (off1_mem o13 (247, tabObj tb) (.tail _ (.tail _ (.tail _ (.head _)))))
                · rcases List.mem_cons.mp hr with rfl | hr
                  · exact h57
                  · rcases List.mem_cons.mp hr with rfl | hr
                    · exact Ne.symm hI7
                    · exact (hoff r hr).2.2
          refine wpAny_call (best_spec (t := t) F16 N17 X T CH hh (htb.mono sub16) hpost (by omega) (by omega) (sub16 _ hHm1) hhl2 hhl (hq.mono fun v p h => h.mono fun r hr => sub16 r (List.mem_append_right _ hr)) (fun a ha => hss a (HI.mem a ha)) (rise_m1 HI) (rise_m2 HI) ?_)
          intro h18 tk18 c1 c2 DB nB va vb a b ex18 tb' hc1 hc2 r1 r2 r3 r4 ea eb tva tvb hDB hex hap18 htb' F18 N18
          dsimp only
          k_steps
          have sub18 : ∀ q ∈ (D16, PyProof.Rows.LCg.lst zs3) :: (L + 1 + 1 + 1 + 1 + 1 + 1, o6n) :: (D13, PyProof.Rows.LCg.lst zs2) :: (L + 1 + 1 + 1 + 1 + 1, o5n) :: (I, oI) :: (ex ++ news), q ∈ (247, tabObj tb') :: (ex18 ++ (D16, PyProof.Rows.LCg.lst zs3) :: (L + 1 + 1 + 1 + 1 + 1 + 1, o6n) :: (D13, PyProof.Rows.LCg.lst zs2) :: (L + 1 + 1 + 1 + 1 + 1, o5n) :: (I, oI) :: (ex ++ news)) := fun q hq => .tail _ (List.mem_append_right _ hq)
          have hz4 : All2 (Tup2 ((247, tabObj tb') :: (ex18 ++ (D16, PyProof.Rows.LCg.lst zs3) :: (L + 1 + 1 + 1 + 1 + 1 + 1, o6n) :: (D13, PyProof.Rows.LCg.lst zs2) :: (L + 1 + 1 + 1 + 1 + 1, o5n) :: (I, oI) :: (ex ++ news)))) zs3 (dueOf ps t M) := hz3.mono fun v p h => h.mono fun r hr => sub18 r (sub16 r (List.mem_append_right _ hr))
          obtain ⟨z, hzm, hzc⟩ := List.mem_map.mp hM1
          have hzd : z ∈ dueOf ps t M := List.mem_filter.mpr ⟨hzm, decide_eq_true hzc⟩
          refine min_tups hh (by omega) F18 N18 (sub18 _ (.head _)) hz4 (List.length_pos_of_mem hzd) ?_
          intro h19 tk19 v1 p1 F19 N19 tv1 hp1 hp1m
          k_steps
          refine max_tups hh (by omega) F19 N19 (sub18 _ (.head _)) hz4 (List.length_pos_of_mem hzd) ?_
          intro h20 tk20 v2 p2 F20 N20 tv2 hp2 hp2m
          k_steps
          rename Fr _ _ _ _ => F21; rename News _ _ _ _ => N21; rename Addr => DP; rename (_ ∧ _) => l21
          obtain ⟨e1, e2⟩ := due_ends HI ⟨z, hzm, hzc⟩ (fun y hy => hM2 _ (List.mem_map_of_mem hy)) ea r1 r2 eb r3 r4 hp1 hp1m hp2 hp2m
          subst e1; subst e2
          refine ne_same (n₁ := (D16, PyProof.Rows.LCg.lst zs3) :: (L + 1 + 1 + 1 + 1 + 1 + 1, o6n) :: (D13, PyProof.Rows.LCg.lst zs2) :: (L + 1 + 1 + 1 + 1 + 1, o5n) :: (I, oI) :: (ex ++ news)) (ds := [a, b].map datP)
            N21 (.tail _ (.tail _ (List.mem_append_left _ hDB))) rfl rfl (dat_tups (.cons tva (.cons tvb .nil))) (fun q hq => .tail _ (sub18 q hq)) (.head _) rfl rfl (dat_tups (.cons tv1 (.cons tv2 .nil))) (fun q hq => .tail _ hq) datP_ok (by omega) ?_
          k_steps
          refine Turned.intro F21 (news₂ := (L + 1 + 1 + 1 + 1 + 1, o5n) :: (L + 1 + 1 + 1 + 1 + 1 + 1, o6n) :: (247, tabObj tb') :: ((ex18 ++ ex) ++ news)) (fun r hr => N21 r ?_) (fun r hr => ?_)
            ⟨?_, ex18 ++ ex, tb', o5n, o6n, _, _, rfl, d5n, d6n, ?_, fun r hr => ?_, fun y hy => ?_⟩
          · simp only [List.mem_cons, List.mem_append] at hr ⊢
            rcases hr with h | h | h | h | (h | h) | h
            · exact .inr (.inr (.inr (.inr (.inr (.inr (.inr (.inl h)))))))
            · exact .inr (.inr (.inr (.inr (.inr (.inr (.inl h))))))
            · exact .inr (.inr (.inr (.inr (.inl h))))
            · exact .inr (.inl h)
            · exact .inr (.inr (.inl h))
            · exact .inr (.inr (.inr (.inr (.inr (.inr (.inr (.inr (.inl h))))))))
            · exact .inr (.inr (.inr (.inr (.inr (.inr (.inr (.inr (.inr h))))))))
          · simp only [List.mem_cons, List.mem_append] at hr
            rcases hr with rfl | rfl | rfl | (h | h) | h
            · exact hI5
            · exact hI6
            · exact hI7
            · exact hap18 r h (I, oI) (.tail _ (.tail _ (.tail _ (.tail _ (.head _)))))
            · exact hI r (.tail _ (.tail _ (.tail _ (List.mem_append_left _ h))))
            · exact hI r (.tail _ (.tail _ (.tail _ (List.mem_append_right _ h))))
          · rcases List.mem_cons.mp hDm with h | h
            · exact absurd (congrArg Prod.fst h) hDL5
            · rcases List.mem_cons.mp h with h | h
              · exact absurd (congrArg Prod.fst h) hDL6
              · rcases List.mem_cons.mp h with h | h
                · exact absurd (congrArg Prod.fst h) hDL7
                · refine .tail _ (.tail _ (.tail _ ?_))
                  rw [List.append_assoc]
                  exact List.mem_append_right _ h
          · rcases htb' with h | h
            · exact h.mono fun r hr => by rw [List.append_assoc]; exact List.mem_append_left _ hr
            · rw [h]; exact htb.mono fun r hr => by rw [List.append_assoc]; exact List.mem_append_right _ hr
          · rw [List.append_assoc] at hr
            rcases List.mem_append.mp hr with hr | hr
            · exact ⟨hap18 r hr (L + 1 + 1 + 1 + 1 + 1, o5n) (.tail _ (.tail _ (.tail _ (.head _)))), hap18 r hr (L + 1 + 1 + 1 + 1 + 1 + 1, o6n) (.tail _ (.head _)), hex r hr⟩
            · exact hoff r hr
          · have := mK y hy
            simp only [List.mem_cons, List.not_mem_nil, or_false] at hy
            simp only [hy, if_false]
            exact this
    · rintro h' tk' m' _ F' N' hDm ⟨ex, tb', o5', o6', v5', v6', rfl, d5', d6', htb', hoff', mK'⟩
      exact k h' tk' m' _ tb' (.tail _ (.tail _ (.head _))) F' N'

end

section
theorem KeepM.get {m m' : Str → Option Value} {ys : List Str} {y : Str} {v : Option Value} (h : KeepM m m' ys) (hv : m y = v) (hy : y ∉ ys) : m' y = v := (h y hy).trans hv
theorem small_all {news : List (Addr × Obj)} {ys : List Value} {bs : List (Str × Int)} {which : Int} (hA : All2 (Bid news) ys bs) : ∀ a ∈ bs.map (ptOf which), Small a := fun a ha => by
  obtain ⟨b, hb, rfl⟩ := List.mem_map.mp ha
  obtain ⟨jb, hjb, ejb⟩ := List.getElem_of_mem hb
  obtain ⟨vj, hvj, aj, nj, txj, tuj, _, hTj, hokj, hj0, hj1⟩ := hA.get (i := jb) (List.getElem?_eq_getElem hjb)
  rw [ejb] at hokj hj0 hj1
  exact small_pt hokj hj0 hj1
abbrev Cells5 (L : Addr) (o1 o2 o4 o5 o6 : Obj) : List (Addr × Obj) :=
  [(L + 1, o1), (L + 1 + 1, o2), (L + 1 + 1 + 1 + 1, o4), (L + 1 + 1 + 1 + 1 + 1, o5), (L + 1 + 1 + 1 + 1 + 1 + 1, o6), (247, tabObj #[])]
theorem n3 {L : Addr} {o1 o2 o4 o5 o6 : Obj} (h : @LT.lt Nat _ 247 L) : ∀ q ∈ Cells5 L o1 o2 o4 o5 o6, q.1 ≠ L + 1 + 1 + 1 := fun q hq => by
  simp only [List.mem_cons, List.not_mem_nil, or_false] at hq
  rcases hq with rfl | rfl | rfl | rfl | rfl | rfl
  all_goals first | (refine Nat.ne_of_lt ?_; show @LT.lt Nat _ _ _; omega) | (refine Nat.ne_of_gt ?_; show @LT.lt Nat _ _ _; omega)
abbrev Cells4 (L : Addr) (o1 o2 o5 o6 : Obj) : List (Addr × Obj) :=
  [(L + 1, o1), (L + 1 + 1, o2), (L + 1 + 1 + 1 + 1 + 1, o5), (L + 1 + 1 + 1 + 1 + 1 + 1, o6), (247, tabObj #[])]
theorem n4 {L : Addr} {o1 o2 o5 o6 : Obj} (h : @LT.lt Nat _ 247 L) : ∀ q ∈ Cells4 L o1 o2 o5 o6, q.1 ≠ L + 1 + 1 + 1 + 1 := fun q hq => by
  simp only [List.mem_cons, List.not_mem_nil, or_false] at hq
  rcases hq with rfl | rfl | rfl | rfl | rfl
  all_goals first | (refine Nat.ne_of_lt ?_; show @LT.lt Nat _ _ _; omega) | (refine Nat.ne_of_gt ?_; show @LT.lt Nat _ _ _; omega)
set_option maxRecDepth 100000 in
set_option maxHeartbeats 8000000 in
theorem lawAll {q : Str} {fa : Addr} {cd : Value} {Q : Flow → Shared → Prop} {S : Addr} {vs : List Value} {ns : List Int} {o1 o2 o3 o4 o5 o6 : Obj} {v3 v4 v5 v6 : Option Value}
    (F : Fr h₀ L s.heap m) (N : News h₀ L s.heap [(L + 1 + 1 + 1 + 1 + 1 + 1, o6), (L + 1 + 1 + 1 + 1 + 1, o5), (L + 1 + 1 + 1 + 1, o4), (L + 1 + 1 + 1, o3), (L + 1 + 1, o2), (L + 1, o1), (247, tabObj #[])]) (X : (hd.heap_1 w.params).In h₀) (T : Top p loose mean mg mb h₀)
    (CH : CodeHd h₀ 251 247) (hh : A.handled = none) (hroom : A.depth + 200 < recursionLimit) (hu : A.units + 2000 < cLine)
    (hS : m (Str.ofString "script") = some (.ref S)) (hl : h₀.IsList S vs.toArray) (hi : IntsAre vs ns) (hlen : ns.length ≤ 63)
    (d1 : o1.data = .cell none) (d2 : o2.data = .cell none) (d3 : o3.data = .cell v3) (d4 : o4.data = .cell v4) (d5 : o5.data = .cell v5) (d6 : o6.data = .cell v6) (h247 : @LT.lt Nat _ 247 L)
    (k : ∀ h' tk m' news' tb', (247, tabObj tb') ∈ news' → Fr h₀ L h' m' → News h₀ L h' news' →
      wpAny (model prog w) A (execs (lawRest w.params 15) (lawEnv w.params q L fa cd)) Q (fun _ _ => False) { s with heap := h', toks := tk }) :
    wpAny (model prog w) A (execs (lawRest w.params 0) (lawEnv w.params q L fa cd)) Q (fun _ _ => False) s := by
  refine stA F N X T hh hroom hu hS hl hi hlen d1 d2 h247 ?_
  intro hA tkA ex D4 oT o1' o2' B nB ys bs which t1 h3w apA hD4 hT hs4 d1' d2' hB hBid hyl hy2 FA NA
  have hbl : ys.length = bs.length := hBid.1
  refine stB FA NA X T hh hroom hu h3w (by rw [if_pos rfl]) (List.mem_append_left _ hB) (hBid.mono fun v b h => h.mono fun r hr => List.mem_append_left _ hr) (by omega) (o2 := o2') (by simp) d2' (List.mem_append_left _ hD4) hT hs4 ?_
  intro hBh tkB exB mB P W nP nW pvs wvs hPm hWm hPs hWs apB mP mW KB FB NB
  have hpl : pvs.length = bs.length := by have := hPs.1; simpa using this
  have subC : ∀ r ∈ exB ++ (ex ++ Cells5 L o1' o2' o4 o5 o6), r ∈ exB ++ (ex ++ Cells6 L o1' o2' o3 o4 o5 o6 #[]) := fun r hr => by
    simp only [List.mem_append, List.mem_cons, List.not_mem_nil, or_false] at hr ⊢
    rcases hr with h | h | h | h | h | h | h | h <;> simp [h]
  have mem3 : (L + 1 + 1 + 1, o3) ∈ Cells6 L o1' o2' o3 o4 o5 o6 #[] := .tail _ (.tail _ (.head _))
  have neC : ∀ r ∈ exB ++ (ex ++ Cells5 L o1' o2' o4 o5 o6), r.1 ≠ L + 1 + 1 + 1 := fun r hr => by
    rcases List.mem_append.mp hr with hr | hr
    · exact apB r hr _ (List.mem_append_right _ mem3)
    · rcases List.mem_append.mp hr with hr | hr
      · exact apA r hr _ mem3
      · exact n3 h247 r hr
  have inB : ∀ r ∈ ex, r ∈ exB ++ (ex ++ Cells5 L o1' o2' o4 o5 o6) := fun r hr => List.mem_append_right _ (List.mem_append_left _ hr)
  have inC : ∀ r ∈ Cells5 L o1' o2' o4 o5 o6, r ∈ exB ++ (ex ++ Cells5 L o1' o2' o4 o5 o6) := fun r hr => List.mem_append_right _ (List.mem_append_right _ hr)
  refine stC FB (fun r hr => NB r ?_) neC X T hh hroom hu h3w (KB.get (if_pos rfl) (by decide)) (inB _ hB) (hBid.mono fun v b h => h.mono inB) (by omega) mW (List.mem_append_left _ hWm) hWs
    (inC _ (.head _)) d1' (inC _ (.tail _ (.head _))) d2' d3 (inB _ hD4) hT hs4 ?_
  · rcases List.mem_cons.mp hr with rfl | hr
    · exact List.mem_append_right _ (List.mem_append_right _ mem3)
    · exact subC r hr
  intro hCh tkC exC mC R rvs nR o3' apC ne3 hRm mR hRd KC FC NC
  have NC' : News h₀ L hCh (exC ++ (exB ++ (ex ++ Cells5 L o1' o2' o4 o5 o6))) := fun r hr => NC r (.tail _ hr)
  have mB1 : mB (Str.ofString "bidders") = some (.ref B) := KB.get (if_pos rfl) (by decide)
  have inB2 : ∀ r ∈ ex, r ∈ exC ++ (exB ++ (ex ++ Cells5 L o1' o2' o4 o5 o6)) := fun r hr => List.mem_append_right _ (inB r hr)
  have inP2 : ∀ r ∈ exB, r ∈ exC ++ (exB ++ (ex ++ Cells5 L o1' o2' o4 o5 o6)) := fun r hr => List.mem_append_right _ (List.mem_append_left _ hr)
  refine stD FC NC' X T hh hroom hu h3w (KC.get mB1 (by decide)) (inB2 _ hB) (hBid.mono fun v b h => h.mono inB2) (by omega) (KC.get mP (by decide)) (inP2 _ hPm) (hPs.mono fun v p h => h.mono inP2)
    mR (List.mem_append_left _ hRm) hRd ?_
  intro hDh tkD exD mD H hvs nH hHm hPts apD mH KD FD ND
  have mem4 : (L + 1 + 1 + 1 + 1, o4) ∈ Cells5 L o1' o2' o4 o5 o6 := .tail _ (.tail _ (.head _))
  have mem4' : (L + 1 + 1 + 1 + 1, o4) ∈ Cells6 L o1' o2' o3 o4 o5 o6 #[] := .tail _ (.tail _ (.tail _ (.head _)))
  have sub5 : ∀ r ∈ Cells4 L o1' o2' o5 o6, r ∈ Cells5 L o1' o2' o4 o5 o6 := fun r hr => by
    simp only [List.mem_cons, List.not_mem_nil, or_false] at hr ⊢
    rcases hr with h | h | h | h | h <;> simp [h]
  have subE : ∀ r ∈ exD ++ (exC ++ (exB ++ (ex ++ Cells4 L o1' o2' o5 o6))), r ∈ exD ++ (exC ++ (exB ++ (ex ++ Cells5 L o1' o2' o4 o5 o6))) := fun r hr => by
    simp only [List.mem_append] at hr ⊢
    rcases hr with h | h | h | h | h
    · exact .inl h
    · exact .inr (.inl h)
    · exact .inr (.inr (.inl h))
    · exact .inr (.inr (.inr (.inl h)))
    · exact .inr (.inr (.inr (.inr (sub5 r h))))
  have neE : ∀ r ∈ exD ++ (exC ++ (exB ++ (ex ++ Cells4 L o1' o2' o5 o6))), r.1 ≠ L + 1 + 1 + 1 + 1 := fun r hr => by
    rcases List.mem_append.mp hr with hr | hr
    · exact apD r hr _ (List.mem_append_right _ (inC _ mem4))
    · rcases List.mem_append.mp hr with hr | hr
      · exact apC r hr _ (inC _ mem4)
      · rcases List.mem_append.mp hr with hr | hr
        · exact apB r hr _ (List.mem_append_right _ mem4')
        · rcases List.mem_append.mp hr with hr | hr
          · exact apA r hr _ mem4'
          · exact n4 h247 r hr
  have hsmall := small_all (which := which) hBid
  have inPE : ∀ r ∈ exB, r ∈ exD ++ (exC ++ (exB ++ (ex ++ Cells4 L o1' o2' o5 o6))) := fun r hr => List.mem_append_right _ (List.mem_append_right _ (List.mem_append_left _ hr))
  refine stE FD (fun r hr => ND r ?_) neE X T hh hroom hu (KD.get (KC.get mP (by decide)) (by decide)) (inPE _ hPm) (hPs.mono fun v p h => h.mono inPE) (by omega) (by omega) (fun a ha => hsmall a ha) d4 ?_
  · rcases List.mem_cons.mp hr with rfl | hr
    · exact List.mem_append_right _ (List.mem_append_right _ (inC _ mem4))
    · exact subE r hr
  intro hEh tkE exE mE o4' LW lvs nL ps' hperm hsort apE ne4 hLW d4' hLs KE FE NE
  have hLlen : lvs.length ≤ 60 := by
    have h1 := hLs.1
    have h2 := lowOf_len ps' []
    have h3 := hperm.length_eq
    unfold lowOf at h1
    rw [List.length_map] at h3
    simp at h2; omega
  have hqG : Pts w.params (exE ++ (exD ++ (exC ++ (exB ++ ex)))) hvs (hullOf (bs.map (ptOf which))) := hPts.mono fun v p h => h.without fun r hr => by
    rcases List.mem_append.mp hr with hr | hr
    · exact .inl (List.mem_append_right _ (List.mem_append_left _ hr))
    · rcases List.mem_append.mp hr with hr | hr
      · exact .inl (List.mem_append_right _ (List.mem_append_right _ (List.mem_append_left _ hr)))
      · rcases List.mem_append.mp hr with hr | hr
        · exact .inl (List.mem_append_right _ (List.mem_append_right _ (List.mem_append_right _ (List.mem_append_left _ hr))))
        · rcases List.mem_append.mp hr with hr | hr
          · exact .inl (List.mem_append_right _ (List.mem_append_right _ (List.mem_append_right _ (List.mem_append_right _ hr))))
          · simp only [List.mem_cons, List.not_mem_nil, or_false] at hr
            rcases hr with rfl | rfl | rfl | rfl | rfl | rfl
            · exact .inr (notq_cell d1')
            · exact .inr (notq_cell d2')
            · exact .inr (notq_cell d4)
            · exact .inr (notq_cell d5)
            · exact .inr (notq_cell d6)
            · exact .inr ⟨fun d e => (by cases e), fun es n e => (by cases e), fun vs n e => (by cases e)⟩
  have subG : ∀ r ∈ exE ++ (exD ++ (exC ++ (exB ++ ex))), r ∈ exE ++ (exD ++ (exC ++ (exB ++ (ex ++ Cells4 L o1' o2' o5 o6)))) := fun r hr => by
    simp only [List.mem_append] at hr ⊢
    rcases hr with h | h | h | h | h
    · exact .inl h
    · exact .inr (.inl h)
    · exact .inr (.inr (.inl h))
    · exact .inr (.inr (.inr (.inl h)))
    · exact .inr (.inr (.inr (.inr (.inl h))))
  have hvl : hvs.length ≤ 100 := by
    have h1 := hPts.1
    have h2 := (hullOf_ok (bs.map (ptOf which))).2.2
    rw [List.length_map] at h2; omega
  have inEF : ∀ r ∈ exD ++ (exC ++ (exB ++ (ex ++ Cells4 L o1' o2' o5 o6))), r ∈ (L + 1 + 1 + 1 + 1, o4') :: (exE ++ (exD ++ (exC ++ (exB ++ (ex ++ Cells4 L o1' o2' o5 o6))))) := fun r hr => .tail _ (List.mem_append_right _ hr)
  have mHE : mE (Str.ofString "hull") = some (.ref H) := KE.get mH (by decide)
  refine stF FE NE X T hh hroom hu (.head _) d4' (.tail _ (List.mem_append_left _ hLW)) (hLs.mono fun v p h => h.mono inEF) hLlen (fun a ha => ?_) mHE (.tail _ (List.mem_append_right _ (List.mem_append_left _ hHm)))
    (hqG.mono fun v p h => h.mono fun r hr => .tail _ (subG r hr)) hvl (hull_rim hperm hsort) ?_
  · exact hsmall a (hperm.mem_iff.mp (List.mem_reverse.mp ((lowOf_inv hsort).mem a ha)))
  intro hFh tkF exF mF KF FF NF
  have m5 : (L + 1 + 1 + 1 + 1 + 1, o5) ∈ Cells4 L o1' o2' o5 o6 := .tail _ (.tail _ (.head _))
  have m6 : (L + 1 + 1 + 1 + 1 + 1 + 1, o6) ∈ Cells4 L o1' o2' o5 o6 := .tail _ (.tail _ (.tail _ (.head _)))
  have m7 : (247, tabObj #[]) ∈ Cells4 L o1' o2' o5 o6 := .tail _ (.tail _ (.tail _ (.tail _ (.head _))))
  have all4 : ∀ c ∈ Cells4 L o1' o2' o5 o6, ∀ r ∈ exE ++ (exD ++ (exC ++ (exB ++ ex))), r.1 ≠ c.1 := fun c hc r hr => by
    have c5 := sub5 c hc
    have c6 : c ∈ Cells6 L o1' o2' o3 o4 o5 o6 #[] := by
      simp only [List.mem_cons, List.not_mem_nil, or_false] at hc ⊢
      rcases hc with h | h | h | h | h <;> simp [h]
    rcases List.mem_append.mp hr with hr | hr
    · exact apE r hr c (List.mem_append_right _ (List.mem_append_right _ (List.mem_append_right _ (List.mem_append_right _ hc))))
    · rcases List.mem_append.mp hr with hr | hr
      · exact apD r hr c (List.mem_append_right _ (inC _ c5))
      · rcases List.mem_append.mp hr with hr | hr
        · exact apC r hr c (inC _ c5)
        · rcases List.mem_append.mp hr with hr | hr
          · exact apB r hr c (List.mem_append_right _ c6)
          · exact apA r hr c c6
  have inC4 : ∀ c ∈ Cells4 L o1' o2' o5 o6, c ∈ exF ++ (L + 1 + 1 + 1 + 1, o4') :: (exE ++ (exD ++ (exC ++ (exB ++ (ex ++ Cells4 L o1' o2' o5 o6))))) := fun c hc =>
    List.mem_append_right _ (.tail _ (List.mem_append_right _ (List.mem_append_right _ (List.mem_append_right _ (List.mem_append_right _ (List.mem_append_right _ hc))))))
  have mS : mF (Str.ofString "script") = some (.ref S) := (KF _ (by decide)).trans (KE.get (KD.get (KC.get (KB.get ((if_neg (by decide)).trans hS) (by decide)) (by decide)) (by decide)) (by decide))
  refine stG FF (fun r hr => NF r ?_) (fun r hr => ⟨all4 _ m5 r hr, all4 _ m6 r hr, all4 _ m7 r hr⟩) X T CH h247 hh hroom hu mS hl hi hlen
    ((KF _ (by decide)).trans (KE.get (KD.get (KC.get mP (by decide)) (by decide)) (by decide))) (nP := nP) (pvs := pvs) ?_ (hPs.mono fun v p h => h.mono fun r hr => ?_) (by omega) (by omega) hsmall
    ((KF _ (by decide)).trans mHE) (List.mem_append_right _ (List.mem_append_left _ hHm)) hqG d5 d6 (.inl rfl) k
  · rcases List.mem_cons.mp hr with rfl | hr
    · exact inC4 _ m5
    · rcases List.mem_cons.mp hr with rfl | hr
      · exact inC4 _ m6
      · rcases List.mem_cons.mp hr with rfl | hr
        · exact inC4 _ m7
        · exact List.mem_append_right _ (.tail _ (subG r hr))
  · exact List.mem_append_right _ (List.mem_append_right _ (List.mem_append_right _ (List.mem_append_left _ hPm)))
  · exact List.mem_append_right _ (List.mem_append_right _ (List.mem_append_right _ (List.mem_append_left _ hr)))

end

section
local macro_rules | `(tactic| walk_at "no such key") => `(tactic| skip)
set_option maxRecDepth 100000 in
set_option maxHeartbeats 8000000 in
theorem fin0 : PySem.Challenge.rw_wu0079_01.Holds := hd (by
  k_go0
  refine' wpAny_mono (lawAll (q := Str.ofString "law") ?zF ?zN ?zX ?zT ?zC ?zhh ?zroom ?zu ?zS ?zl ?zi ?zlen ?zd1 ?zd2 ?zd3 ?zd4 ?zd5 ?zd6 ?zlt ?zk) (fun _ _ h => h) (fun _ _ e => e.elim)
  case zF => assumption
  case zN => assumption
  case zX => assumption
  case zT => assumption
  case zC => assumption
  case zhh => exact rfl
  case zroom => k_room
  case zu => k_units
  case zS => exact rfl
  case zl => assumption
  case zi => assumption
  case zlen => omega
  case zd1 => assumption
  case zd2 => assumption
  case zd3 => assumption
  case zd4 => assumption
  case zd5 => assumption
  case zd6 => assumption
  case zlt => assumption
  case zk =>
    intro h9 tk9 m9 news9 tb9 hm9 F9 N9
    unfold lawRest lawEnv lawPieces fnPieces
    dsimp only [List.drop]
    k_steps
    refine goodW_bool F9 (by assumption) (raisesW_false ?_) ?_
    · wrow_none_raised
    · kc_post)

end

end

end

end Mine
set_option maxRecDepth 100000 in
set_option maxHeartbeats 8000000 in
theorem PySem.Challenge.cw_wu0079_01_holds : PySem.Challenge.rw_wu0079_01.Holds := by
  exact Mine.fin0
