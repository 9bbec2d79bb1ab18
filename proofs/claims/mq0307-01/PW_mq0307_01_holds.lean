import PyProof.Rows.All
import Wide.All
import OpenK.AllK
import Wide.FinOn
import PySem.Challenge.RW_mq0307_01
set_option Elab.async false
set_option maxRecDepth 100000
section
open PySem PySem.W PySem.Calls PyProof.Rows
set_option maxHeartbeats 8000000
namespace Mine
set_option synthInstance.maxSize 1 in
open_top hd for PySem.Challenge.rw_mq0307_01
end Mine
end
theorem Mine.start_C0 : True := by
  w_top off
  trivial
section
open PySem PySem.W PySem.Calls PyProof.Rows
set_option maxRecDepth 100000
set_option maxHeartbeats 8000000
namespace Mine


/-- the surroundings, written out -/
abbrev AR (dp un : Nat) (gd : Option (List Code)) (outer : List Env) : Around := { handled := none, depth := dp, frames := some outer, guards := gd, units := un }

/-- what a call may lean on: the ground heap g holds the text's own objects; room for k more calls -/
structure Gr (k : Nat) (w : World) (A : Around) (g : Heap) : Prop where
  ex : ∃ dp un gd outer A₀ base mean mg mb, A = AR dp un gd outer ∧ dp + k < recursionLimit ∧ un + 60 * k < cLine ∧ Below A₀ base outer g ∧ (hd.heap_39 w.params).In g ∧
    Top hd.view_39 (looseW hd.view_39 [Str.ofString "nsmallest", Str.ofString "nlargest"]) mean mg mb g

noncomputable def Stays (g h : Heap) : Prop := ∀ b o, g.get? b = some o → h.get? b = some o

section
variable {w : World} {A : Around} {E : Value → Shared → Prop} {s : Shared} {K : Frag} {g : Heap}
theorem enter {Q : Value → Shared → Prop} {name qual : Str} {params : Arguments} {body : List Stmt} {scope : Scope} {dV kV doc pm cdv ct oc : Value} {an od : Option Addr} {osl : Array (Option Value)} {f : Addr} {args : List Value} {kw : List (Str × Value)} {binds : List (Str × Value)}
    (hroom : A.depth < recursionLimit) (hn : g.NoLimit) (X : K.In g) (hg : Stays g s.heap) (hgs : g.objs.size ≤ s.heap.objs.size)
    (ho : K.lookup f = some ⟨oc, od, .func (fnOf name qual params body scope dV kV doc pm an cdv ct), osl⟩) (hcd : codeIn K cdv qual = true)
    (hbind : BindsTo s (fnOf name qual params body scope dV kV doc pm an cdv ct) ⟨args, kw⟩ binds) (hloc : ∀ y ∈ binds, scope.names.lookup y.1 = some .local)
    (h : ∀ h₁, Fr g s.heap.objs.size h₁ (fun y => binds.reverse.lookup y) → Stays s.heap h₁ →
      wpAny (model PySem.Challenge.rw_mq0307_01.row.prog w) (A.deeper (envOf qual scope s.heap.objs.size f cdv)) (execs body (envOf qual scope s.heap.objs.size f cdv))
        (fun fl s' => Q (match fl with | .ret v => v | _ => .none) s') (fun _ _ => False)
        { s with heap := h₁, toks := s.toks + binds.length })
    (hco : scope.isCoroutine = false) (hgen : scope.isGenerator = false) (hk : scope.kind = .function)
    (hcell : ∀ x ∈ scope.names, x.2 ≠ .cell) : wpAny (model PySem.Challenge.rw_mq0307_01.row.prog w) A (call (.ref f) args kw) Q E s := by
  have X' : K.In s.heap := fun a o e => hg a o (X a o e)
  refine wpAny_call (codeAny_call_def (fd := fnOf name qual params body scope dV kV doc pm an cdv ct) (body := body) (binds := binds) hroom (X' _ _ ho) rfl (hn.keeps hg) (codeRec_of X' hcd) rfl hbind hcell hloc (fun h₁ hns hk₁ => ?_) hco hgen hk)
  refine wpAny_mono (h h₁ ⟨hns, fun b o e => hk₁ b o (hg b o e), hgs⟩ hk₁) (fun fl s' hl => hl) fun _ _ y => y.elim
end
end Mine
end
theorem Mine.start_C1 : True := by
  w_top off
  trivial
section
open PySem PySem.W PySem.Calls PyProof.Rows
set_option maxRecDepth 100000
set_option maxHeartbeats 8000000
namespace Mine

theorem Stays.refl (h : Heap) : Stays h h := fun _ _ e => e
theorem Stays.trans {a b c : Heap} (x : Stays a b) (y : Stays b c) : Stays a c := fun i o e => y i o (x i o e)
theorem stays_hide (h : Heap) (l : List Addr) : Stays (hideAll h l) h := fun _ _ e => of_hideAll l e

noncomputable def refs (as : List Nat) : List Value := as.map Value.ref
theorem refs_get {as : List Nat} {k : Nat} (h : k < as.length) : (refs as)[k]? = some (.ref (as.getD k 0)) := by
  simp [refs, h]
theorem refs_length (as : List Nat) : (refs as).length = as.length := by simp [refs]
theorem getD_mem {as : List Nat} {k : Nat} (h : k < as.length) : as.getD k 0 ∈ as := by
  simp [h]

/-- comparing the objects at two of these addresses gives lt -/
noncomputable def CmpOk (w : World) (lt : Nat → Nat → Bool) (as : List Nat) (g : Heap) : Prop :=
  ∀ (a b : Nat), a ∈ as → b ∈ as → ∀ (A : Around) (E : Value → Shared → Prop) (Q : Value → Shared → Prop) (s : Shared), Stays g s.heap → A.units + 20 < cLine → 
    (∀ tk, Q (.bool (lt a b)) { s with toks := tk }) → wpAny (model PySem.Challenge.rw_mq0307_01.row.prog w) A (compareOp .Lt (.ref a) (.ref b)) Q E s
theorem CmpOk.up {w : World} {lt : Nat → Nat → Bool} {as : List Nat} {g g' : Heap} (h : CmpOk w lt as g) (st : Stays g g') : CmpOk w lt as g' :=
  fun a b ha hb A E Q s hs hu hq => h a b ha hb A E Q s (st.trans hs) hu hq
theorem CmpOk.sub {w : World} {lt : Nat → Nat → Bool} {as bs : List Nat} {g : Heap} (h : CmpOk w lt as g) (st : ∀ x ∈ bs, x ∈ as) : CmpOk w lt bs g :=
  fun a b ha hb A E Q s hs hu hq => h a b (st a ha) (st b hb) A E Q s hs hu hq

/-- a call that changes the object at l alone -/
noncomputable def MutSpec (k : Nat) (w : World) (f : Addr) (args : List Value) (l : Addr) (o o' : Obj) (C : Heap → Prop) (v : Value) : Prop :=
  ∀ (A : Around) (g : Heap) (s : Shared) (Q E : Value → Shared → Prop), Gr k w A g → Stays g s.heap → g.objs.size ≤ s.heap.objs.size → g.get? l = none → s.heap.get? l = some o → C g →
    (∀ h' tk', Stays g h' → s.heap.objs.size ≤ h'.objs.size → h'.get? l = some o' → Q v { s with heap := h', toks := tk' }) →
    wpAny (model PySem.Challenge.rw_mq0307_01.row.prog w) A (call (.ref f) args) Q E s

section
variable {w : World} {A : Around} {E : Value → Shared → Prop} {s : Shared} {K : Frag} {g : Heap}
theorem item_refs {value slice : PySem.Expr} {L l : Addr} {news : List (Addr × Obj)} {as : List Nat} {n k : Nat} {u : Tok} {Q : Value → Shared → Prop}
    (N : News g L s.heap news) (hm : (l, listOf (refs as).toArray n) ∈ news) (hlen : as.length < 64) (hk : k < as.length) (h : Q (.ref (as.getD k 0)) s)
    (hs : subscripted slice false (.ref l) (.int k u) = operate [.ref l, .int k u] (getItem (.ref l) (.int k u)) := by with_unfolding_all rfl) (hgo : ∀ r, letTemporaryGo value (.ref l) r = pure () := by intro _; with_unfolding_all rfl) :
    wpAny (model PySem.Challenge.rw_mq0307_01.row.prog w) A (subscriptTail value slice (.ref l) (.int k u)) Q E s :=
  item_listL ⟨_, (N _ hm).1, rfl, n, rfl⟩ (by omega) (by omega) (by rw [Int.toNat_natCast]; exact refs_get (by omega)) h hs hgo
theorem item_refsI {value slice : PySem.Expr} {L l : Addr} {news : List (Addr × Obj)} {as : List Nat} {n : Nat} {k : Int} {u : Tok} {Q : Value → Shared → Prop}
    (N : News g L s.heap news) (hm : (l, listOf (refs as).toArray n) ∈ news) (hlen : as.length < 64) (h0 : 0 ≤ k) (hk : k < as.length) (h : Q (.ref (as.getD k.toNat 0)) s)
    (hs : subscripted slice false (.ref l) (.int k u) = operate [.ref l, .int k u] (getItem (.ref l) (.int k u)) := by with_unfolding_all rfl) (hgo : ∀ r, letTemporaryGo value (.ref l) r = pure () := by intro _; with_unfolding_all rfl) :
    wpAny (model PySem.Challenge.rw_mq0307_01.row.prog w) A (subscriptTail value slice (.ref l) (.int k u)) Q E s :=
  item_listL ⟨_, (N _ hm).1, rfl, n, rfl⟩ (by omega) (by omega) (refs_get (by omega)) h hs hgo
theorem set_refs {L l : Addr} {m : Str → Option Value} {as : List Nat} {n x k : Nat} {u : Tok} {Q : Unit → Shared → Prop}
    (F : Fr g L s.heap m) (N : News g L s.heap [(l, listOf (refs as).toArray n)]) (hlen : as.length < 64) (hk : k < as.length)
    (h : ∀ h', Fr g L h' m → News g L h' [(l, listOf (refs (as.set k x)).toArray n)] → Q () { s with heap := h' }) :
    wpAny (model PySem.Challenge.rw_mq0307_01.row.prog w) A (setItem (.ref l) (.int k u) (.ref x)) Q E s := by
  have z := N _ (List.mem_singleton.mpr rfl)
  have hs : (refs as).toArray.size = as.length := by simp [refs]
  refine ki_setAt z.1 (by omega) (by omega) (by omega) (h _ (F.change (Heap.SameBut.update ..) z.2.1 z.2.2) (ki_turn (pre := []) (post := []) _ N (fun _ h => nomatch h) (fun _ h => nomatch h) ?_ ?_))
  · apply Array.toList_inj.mp
    simp [refs, List.map_set]
  · simp [refs]
theorem cmp_refs {L : Addr} {m : Str → Option Value} {as : List Nat} {lt : Nat → Nat → Bool} {a b : Nat} {Q : Value → Shared → Prop}
    (hc : CmpOk w lt as g) (F : Fr g L s.heap m) (ha : a ∈ as) (hb : b ∈ as) (hu : A.units + 20 < cLine) (h : ∀ tk, Q (.bool (lt a b)) { s with toks := tk }) :
    wpAny (model PySem.Challenge.rw_mq0307_01.row.prog w) A (compareOp .Lt (.ref a) (.ref b)) Q E s := hc a b ha hb A E Q s F.keep hu h
theorem shr1 {p : Nat} {t u : Tok} {Q : Value → Shared → Prop} (hp : 1 ≤ p) (h : Q (.int (((p - 1) / 2 : Nat) : Int) s.toks) { s with toks := s.toks + 1 }) :
    wpAny (model PySem.Challenge.rw_mq0307_01.row.prog w) A (binaryOp .RShift (.int ((p : Int) - 1) t) (.int 1 u)) Q E s := by
  refine rshift_int (by decide) ?_
  have e : ((p : Int) - 1).fdiv (2 ^ (1 : Int).toNat) = (((p - 1) / 2 : Nat) : Int) := by
    rw [show ((2 : Int) ^ (1 : Int).toNat) = 2 from rfl, Int.fdiv_eq_ediv_of_nonneg _ (by decide)]
    omega
  rw [e]; exact h

/-- the ledger of one list, behind a call -/
theorem back1 {L l : Addr} {m : Str → Option Value} {o o' : Obj} {h h' : Heap} (F : Fr g L h m) (N : News g L h [(l, o)]) (st : Stays (hideAll h [l]) h') (hl : h'.get? l = some o') :
    Fr g L h' m ∧ News g L h' [(l, o')] := by
  have z := N _ (List.mem_singleton.mpr rfl)
  obtain ⟨oL, es, ep, hL, r⟩ := F.ns
  have gl : ∀ b x, g.get? b = some x → b ∉ [l] := fun b x e q => by
    rw [List.mem_singleton.mp q, z.2.2] at e; cases e
  refine ⟨⟨⟨oL, es, ep, st _ _ (hideAll_get _ hL fun q => z.2.1 (List.mem_singleton.mp q).symm), r⟩, fun b x e => st b x (hideAll_get _ (F.keep b x e) (gl b x e)), F.above⟩, fun q hq => ?_⟩
  cases List.mem_singleton.mp hq
  exact ⟨hl, z.2.1, z.2.2⟩
/-- such a call from a walked frame whose ledger is the list alone -/
theorem mut_walk {k dp un : Nat} {gd : Option (List Code)} {outer : List Env} {A₀ : Around} {base : Heap} {mean : ExcName → Option Value} {mg mb : Str → Option Value} {L l f fa : Addr} {m : Str → Option Value} {o o' : Obj} {C : Heap → Prop} {v cd : Value} {args : List Value} {cn : Str} {cs : Scope} {Q : Value → Shared → Prop}
    (S : MutSpec k w f args l o o' C v) (hC : C g) (hup : ∀ g', Stays g g' → C g → C g')
    (B : Below A₀ base outer g) (X : (hd.heap_39 w.params).In g) (T : Top hd.view_39 (looseW hd.view_39 [Str.ofString "nsmallest", Str.ofString "nlargest"]) mean mg mb g)
    (F : Fr g L s.heap m) (N : News g L s.heap [(l, o)]) (hdp : dp + (k + 1) < recursionLimit) (hun : un + 60 * (k + 1) < cLine) 
    (ret : ∀ h' tk', Fr g L h' m → News g L h' [(l, o')] → Q v { s with heap := h', toks := tk' })
    (hke : cs.kind = .function := by rfl) :
    wpAny (model PySem.Challenge.rw_mq0307_01.row.prog w) ((AR dp un gd outer).deeper (envOf cn cs L fa cd)) (call (.ref f) args) Q E s := by
  have z := N _ (List.mem_singleton.mpr rfl)
  obtain ⟨FG, BG, st, -⟩ := groundX (A := (AR dp un gd outer).deeper (envOf cn cs L fa cd)) (env := envOf cn cs L fa cd) (R := fun _ _ => True) B F N rfl rfl hke
  refine S _ (hideAll s.heap [l]) s Q E ⟨dp + 1, un + 3, gd, envOf cn cs L fa cd :: outer, _, base, mean, mg, mb, rfl, by omega, by omega, BG, X.keeps st, T.keeps st⟩ (stays_hide _ _) (Nat.le_of_eq (hideAll_size _ _)) (hideAll_none _ (.head _)) z.1 (hup _ st hC) fun h' tk' a1 _ a3 => ?_
  obtain ⟨F', N'⟩ := back1 F N a1 a3
  exact ret h' tk' F' N'
/-- the same, with other objects in the ledger -/
theorem mut_walkR {k dp un : Nat} {gd : Option (List Code)} {outer : List Env} {A₀ : Around} {base : Heap} {mean : ExcName → Option Value} {mg mb : Str → Option Value} {L l f fa : Addr} {m : Str → Option Value} {o o' : Obj} {C : Heap → Prop} {v cd : Value} {args : List Value} {cn : Str} {cs : Scope} {rest : List (Addr × Obj)} {Q : Value → Shared → Prop}
    (S : MutSpec k w f args l o o' C v) (hC : C (hideAll s.heap [l]))
    (B : Below A₀ base outer g) (X : (hd.heap_39 w.params).In g) (T : Top hd.view_39 (looseW hd.view_39 [Str.ofString "nsmallest", Str.ofString "nlargest"]) mean mg mb g)
    (F : Fr g L s.heap m) (N : News g L s.heap ((l, o) :: rest)) (hne : ∀ p ∈ rest, p.1 ≠ l) (hdp : dp + (k + 1) < recursionLimit) (hun : un + 60 * (k + 1) < cLine) 
    (ret : ∀ h' tk', Fr g L h' m → News g L h' ((l, o') :: rest) → Stays (hideAll s.heap [l]) h' → Q v { s with heap := h', toks := tk' })
    (hke : cs.kind = .function := by rfl) :
    wpAny (model PySem.Challenge.rw_mq0307_01.row.prog w) ((AR dp un gd outer).deeper (envOf cn cs L fa cd)) (call (.ref f) args) Q E s := by
  have N1 : News g L s.heap [(l, o)] := fun p hp => N p (by cases List.mem_singleton.mp hp; exact .head _)
  have z := N1 _ (List.mem_singleton.mpr rfl)
  obtain ⟨FG, BG, st, -⟩ := groundX (A := (AR dp un gd outer).deeper (envOf cn cs L fa cd)) (env := envOf cn cs L fa cd) (R := fun _ _ => True) B F N1 rfl rfl hke
  refine S _ (hideAll s.heap [l]) s Q E ⟨dp + 1, un + 3, gd, envOf cn cs L fa cd :: outer, _, base, mean, mg, mb, rfl, by omega, by omega, BG, X.keeps st, T.keeps st⟩ (stays_hide _ _) (Nat.le_of_eq (hideAll_size _ _)) (hideAll_none _ (.head _)) z.1 hC fun h' tk' a1 _ a3 => ?_
  obtain ⟨F', N'⟩ := back1 F N1 a1 a3
  refine ret h' tk' F' (fun p hp => ?_) a1
  rcases List.mem_cons.mp hp with rfl | hp
  · exact N' _ (.head _)
  · exact ⟨a1 _ _ (hideAll_get _ (N p (.tail _ hp)).1 fun q => hne p hp (List.mem_singleton.mp q)), (N p (.tail _ hp)).2⟩
theorem stays_ground {L l : Addr} {m : Str → Option Value} {o : Obj} {rest : List (Addr × Obj)} {h : Heap} (F : Fr g L h m) (N : News g L h ((l, o) :: rest)) : Stays g (hideAll h [l]) := fun b x e =>
  hideAll_get _ (F.keep b x e) fun q => by have := (N _ (.head _)).2.2; rw [List.mem_singleton.mp q, this] at e; cases e
end
end Mine
end
theorem Mine.start_C2 : True := by
  w_top off
  trivial
section
open PySem PySem.W PySem.Calls PyProof.Rows
set_option maxRecDepth 100000
set_option maxHeartbeats 8000000
namespace Mine

theorem funFrames_up {base g h : Heap} (st : Stays g h) : ∀ {l : List Env}, g.FunFrames base l → h.FunFrames base l
  | [], _ => trivial
  | _ :: _, ⟨hk, ⟨L, o, hf, hn, ho, hd⟩, hr⟩ => ⟨hk, ⟨L, o, hf, hn, st _ _ ho, hd⟩, funFrames_up st hr⟩
theorem Gr.up {k : Nat} {w : World} {A : Around} {g h : Heap} (G : Gr k w A g) (st : Stays g h) : Gr k w A h := by
  obtain ⟨dp, un, gd, outer, A₀, base, mean, mg, mb, hA, hdp, hun, B, X, T⟩ := G.ex
  exact ⟨dp, un, gd, outer, A₀, base, mean, mg, mb, hA, hdp, hun, ⟨B.stack, fun b o e => st b o (B.stays b o e), funFrames_up st B.frames⟩, X.keeps st, T.keeps st⟩
theorem Gr.less {k j : Nat} {w : World} {A : Around} {g : Heap} (G : Gr k w A g) (h : j ≤ k) : Gr j w A g := by
  obtain ⟨dp, un, gd, outer, A₀, base, mean, mg, mb, hA, hdp, hun, B, X, T⟩ := G.ex
  exact ⟨dp, un, gd, outer, A₀, base, mean, mg, mb, hA, by omega, by omega, B, X, T⟩
/-- a call of a builtin takes a unit -/
theorem Gr.in1 {k : Nat} {w : World} {A : Around} {g : Heap} (G : Gr (k + 1) w A g) : Gr k w A.in1 g := by
  obtain ⟨dp, un, gd, outer, A₀, base, mean, mg, mb, rfl, hdp, hun, B, X, T⟩ := G.ex
  exact ⟨dp, un + 1, gd, outer, A₀, base, mean, mg, mb, rfl, by omega, by omega, B, X, T⟩

/-- a call that changes nothing and gives v -/
noncomputable def PureSpec (k : Nat) (w : World) (f : Addr) (args : List Value) (v : Tok → Value) : Prop :=
  ∀ (A : Around) (s : Shared) (Q E : Value → Shared → Prop), Gr k w A s.heap →
    (∀ h' tk' t, Stays s.heap h' → s.heap.objs.size ≤ h'.objs.size → Q (v t) { s with heap := h', toks := tk' }) →
    wpAny (model PySem.Challenge.rw_mq0307_01.row.prog w) A (call (.ref f) args) Q E s
theorem pure_walk {w : World} {E : Value → Shared → Prop} {s : Shared} {g : Heap} {k dp un : Nat} {gd : Option (List Code)} {outer : List Env} {A₀ : Around} {base : Heap} {mean : ExcName → Option Value} {mg mb : Str → Option Value} {L f fa : Addr} {m : Str → Option Value} {v : Tok → Value} {cd : Value} {args : List Value} {cn : Str} {cs : Scope} {news : List (Addr × Obj)} {Q : Value → Shared → Prop}
    (S : PureSpec k w f args v) (B : Below A₀ base outer g) (X : (hd.heap_39 w.params).In g) (T : Top hd.view_39 (looseW hd.view_39 [Str.ofString "nsmallest", Str.ofString "nlargest"]) mean mg mb g)
    (F : Fr g L s.heap m) (N : News g L s.heap news) (hdp : dp + (k + 1) < recursionLimit) (hun : un + 60 * (k + 1) < cLine) 
    (ret : ∀ h' tk' t, Fr g L h' m → News g L h' news → Q (v t) { s with heap := h', toks := tk' })
    (hke : cs.kind = .function := by rfl) :
    wpAny (model PySem.Challenge.rw_mq0307_01.row.prog w) ((AR dp un gd outer).deeper (envOf cn cs L fa cd)) (call (.ref f) args) Q E s := by
  have BG := B.push (name := cn) (scope := cs) (a := fa) (cd := cd) F hke
  refine S _ s Q E ⟨dp + 1, un + 3, gd, envOf cn cs L fa cd :: outer, _, base, mean, mg, mb, rfl, by omega, by omega, BG, X.keeps F.keep, T.keeps F.keep⟩ fun h' tk' t a1 _ => ?_
  obtain ⟨oL, es, ep, hL, r⟩ := F.ns
  exact ret h' tk' t ⟨⟨oL, es, ep, a1 _ _ hL, r⟩, fun b x e => a1 b x (F.keep b x e), F.above⟩ fun p hp => ⟨a1 _ _ (N p hp).1, (N p hp).2⟩
end Mine
end
theorem Mine.start_U1 : True := by
  w_top off
  trivial
section
open PySem PySem.W PySem.Calls PyProof.Rows
set_option maxRecDepth 100000
set_option maxHeartbeats 8000000
namespace Mine
/-- the caret writing of a code -/
noncomputable def unrep (c : Int) : Str := if c = 127 then Str.ofString "^?" else if (decide (32 ≤ Builtin.bitAnd c 127) && decide (Builtin.bitAnd c 127 ≤ 126)) = true then ⟨#[(Builtin.bitAnd c 127).toNat]⟩ else Str.ofString "^" ++ ⟨#[(Builtin.bitOr (Builtin.bitAnd c 127) 32 + 32).toNat]⟩
noncomputable def unc (c : Int) : Str := if Builtin.bitAnd c 128 = 0 then unrep c else Str.ofString "!" ++ unrep c
theorem code_all {P : Int → Prop} [DecidablePred P] (h : (List.range 640).all (fun i => decide (P ((i : Int) - 128))) = true) {c : Int} (h0 : -128 ≤ c) (h1 : c ≤ 511) : P c := by
  have := List.all_eq_true.mp h (c + 128).toNat (List.mem_range.mpr (by (first | lia | omega)))
  have e : (((c + 128).toNat : Nat) : Int) - 128 = c := by (first | lia | omega)
  rw [e] at this
  exact of_decide_eq_true this
theorem chr_bound {c : Int} (h0 : -128 ≤ c) (h1 : c ≤ 511) : 0 ≤ Builtin.bitOr (Builtin.bitAnd c 127) 32 + 32 ∧ Builtin.bitOr (Builtin.bitAnd c 127) 32 + 32 ≤ 1114111 :=
  code_all (P := fun c => 0 ≤ Builtin.bitOr (Builtin.bitAnd c 127) 32 + 32 ∧ Builtin.bitOr (Builtin.bitAnd c 127) 32 + 32 ≤ 1114111) (by decide +kernel) h0 h1
theorem ret_str {g : Heap} {L : Addr} {m : Str → Option Value} {s : Shared} {Q : Value → Shared → Prop} {x y : Str} {h' : Heap} {tk' : Nat} {t : Tok} (hret : ∀ (h' : Heap) (tk' : Nat) (t : Tok), Stays g h' → L ≤ h'.objs.size → Q (.str x t) { s with heap := h', toks := tk' }) (e : y = x) (F : Fr g L h' m) : Q (.str y t) { s with heap := h', toks := tk' } := by
  subst e
  exact hret _ _ _ F.keep (Nat.le_of_lt F.ns.lt)
theorem ret_int {g : Heap} {L : Addr} {m : Str → Option Value} {s : Shared} {Q : Value → Shared → Prop} {x y : Int} {h' : Heap} {tk' : Nat} {t : Tok} (hret : ∀ (h' : Heap) (tk' : Nat) (t : Tok), Stays g h' → L ≤ h'.objs.size → Q (.int x t) { s with heap := h', toks := tk' }) (e : y = x) (F : Fr g L h' m) : Q (.int y t) { s with heap := h', toks := tk' } := by
  subst e
  exact hret _ _ _ F.keep (Nat.le_of_lt F.ns.lt)
noncomputable def lcode (n : Int) : Int := (n.fdiv 2).fmod 640 - 128
noncomputable def lkey (n : Int) (t : Tok) : Value := if n.fmod 2 = 1 ∧ 0 ≤ lcode n then .str ⟨#[(lcode n).toNat]⟩ t else .int (lcode n) t
theorem lcode_ge (n : Int) : -128 ≤ lcode n := by unfold lcode; rw [Int.fmod_eq_emod_of_nonneg _ (by decide)]; (first | lia | omega)
theorem lcode_le (n : Int) : lcode n ≤ 511 := by unfold lcode; rw [Int.fmod_eq_emod_of_nonneg _ (by decide)]; (first | lia | omega)
noncomputable def lplace (c : Int) : Int := if c = 127 then 63 else if c.fmod 128 = 127 then 96 else if c.fmod 128 < 32 then c.fmod 128 + 64 else if c.fmod 128 < 95 then c.fmod 128 - 32 else c.fmod 128 + 2
noncomputable def lrank (c : Int) : Int := if (c.fdiv 128).fmod 2 = 1 then lplace c + 2 else if lplace c < 2 then lplace c else lplace c + 129
section
variable {w : World}
theorem ctoi_int {c : Int} {tc : Tok} : PureSpec 1 w 89 [.int c tc] (fun _ => .int c tc) := by
  intro A s Q E G ret
  obtain ⟨dp, un, gd, outer, A₀, base, mean, mg, mb, rfl, hdp, hun, B, X, T⟩ := G.ex
  w_strict (
  revert X
  k_fill
  intro X
  refine' enter (binds := [(Str.ofString "c", .int c tc)]) ?_ ?_ X (Stays.refl _) (Nat.le_refl _) ?k1 ?k2 ?k3 ?k4 ?_ ?_ ?_ ?_ ?k5
  case k1 => k_is
  case k2 => k_is
  case k3 => exact BindsTo.of_eq rfl
  case k4 => exact locs rfl
  case k5 => decide
  all_goals try exact rfl
  · exact Nat.lt_of_le_of_lt (Nat.le_add_right _ _) hdp
  · exact T.nolimit
  intro h₁ F hk₁
  have N : News s.heap s.heap.objs.size h₁ [] := News.nil
  generalize hL : s.heap.objs.size = L' at *
  (try dsimp only)
  (try k_fold)
  k_with_none
  k_steps
  k_with_none
  all_goals (try dsimp only)
  all_goals ((rename Fr _ _ _ _ => eF)))
  exact ret _ _ 0 eF.keep (Nat.le_of_lt eF.ns.lt)
theorem ctoi_str {c : Nat} {tc : Tok} : PureSpec 1 w 89 [.str ⟨#[c]⟩ tc] (fun t => .int c t) := by
  intro A s Q E G ret
  obtain ⟨dp, un, gd, outer, A₀, base, mean, mg, mb, rfl, hdp, hun, B, X, T⟩ := G.ex
  w_strict (
  revert X
  k_fill
  intro X
  refine' enter (binds := [(Str.ofString "c", .str ⟨#[c]⟩ tc)]) ?_ ?_ X (Stays.refl _) (Nat.le_refl _) ?k1 ?k2 ?k3 ?k4 ?_ ?_ ?_ ?_ ?k5
  case k1 => k_is
  case k2 => k_is
  case k3 => exact BindsTo.of_eq rfl
  case k4 => exact locs rfl
  case k5 => decide
  all_goals try exact rfl
  · exact Nat.lt_of_le_of_lt (Nat.le_add_right _ _) hdp
  · exact T.nolimit
  intro h₁ F hk₁
  have N : News s.heap s.heap.objs.size h₁ [] := News.nil
  generalize hL : s.heap.objs.size = L' at *
  (try dsimp only)
  (try k_fold)
  k_with_none
  k_steps
  k_with_none
  all_goals (try dsimp only)
  all_goals ((rename Fr _ _ _ _ => eF)))
  exact ret _ _ _ eF.keep (Nat.le_of_lt eF.ns.lt)
theorem isprint_int {c : Int} {tc : Tok} : PureSpec 2 w 96 [.int c tc] (fun _ => .bool (decide (32 ≤ c) && decide (c ≤ 126))) := by
  intro A s Q E G ret
  obtain ⟨dp, un, gd, outer, A₀, base, mean, mg, mb, rfl, hdp, hun, B, X, T⟩ := G.ex
  w_strict (
  revert X
  k_fill
  intro X
  refine' enter (binds := [(Str.ofString "c", .int c tc)]) ?_ ?_ X (Stays.refl _) (Nat.le_refl _) ?k1 ?k2 ?k3 ?k4 ?_ ?_ ?_ ?_ ?k5
  case k1 => k_is
  case k2 => k_is
  case k3 => exact BindsTo.of_eq rfl
  case k4 => exact locs rfl
  case k5 => decide
  all_goals try exact rfl
  · exact Nat.lt_of_le_of_lt (Nat.le_add_right _ _) hdp
  · exact T.nolimit
  intro h₁ F hk₁
  have N : News s.heap s.heap.objs.size h₁ [] := News.nil
  generalize hL : s.heap.objs.size = L' at *
  (try dsimp only)
  (try k_fold)
  k_with_none
  k_with "call ref" => (refine' pure_walk ctoi_int ?k1 ?k2 ?k3 ?k4 ?k5 ?k6 ?k7 ?_ ?k8; (case k1 => assumption); (case k2 => assumption); (case k3 => assumption); (case k4 => assumption); (case k5 => assumption); (case k6 => (first | lia | omega)); (case k7 => (first | lia | omega)); (case k8 => rfl); intro h' tk' t' F' N'; (try dsimp only))
  k_steps
  k_with_none
  all_goals (try dsimp only)
  all_goals ((rename Fr _ _ _ _ => eF)))
  · rename_i h1
    rw [decide_eq_true h1, Bool.true_and] at ret
    exact ret _ _ 0 eF.keep (Nat.le_of_lt eF.ns.lt)
  · rename_i h1
    rw [decide_eq_false h1, Bool.false_and] at ret
    rw [decide_eq_false h1]
    exact ret _ _ 0 eF.keep (Nat.le_of_lt eF.ns.lt)
theorem unctrl_int {c : Int} {tc : Tok} (hc0 : -128 ≤ c) (hc1 : c ≤ 511) : PureSpec 3 w 103 [.int c tc] (fun t => .str (unc c) t) := by
  intro A s Q E G ret
  obtain ⟨dp, un, gd, outer, A₀, base, mean, mg, mb, rfl, hdp, hun, B, X, T⟩ := G.ex
  w_strict (
  revert X
  k_fill
  intro X
  refine' enter (binds := [(Str.ofString "c", .int c tc)]) ?_ ?_ X (Stays.refl _) (Nat.le_refl _) ?k1 ?k2 ?k3 ?k4 ?_ ?_ ?_ ?_ ?k5
  case k1 => k_is
  case k2 => k_is
  case k3 => exact BindsTo.of_eq rfl
  case k4 => exact locs rfl
  case k5 => decide
  all_goals try exact rfl
  · exact Nat.lt_of_le_of_lt (Nat.le_add_right _ _) hdp
  · exact T.nolimit
  intro h₁ F hk₁
  have N : News s.heap s.heap.objs.size h₁ [] := News.nil
  generalize hL : s.heap.objs.size = L' at *
  (try dsimp only)
  (try k_fold)
  k_with_none
  k_with "call builtin:chr" => refine chr_of_range (chr_bound hc0 hc1).1 (chr_bound hc0 hc1).2 ?_
  k_with "call ref" => (refine' pure_walk isprint_int ?k1 ?k2 ?k3 ?k4 ?k5 ?k6 ?k7 ?_ ?k8; (case k1 => assumption); (case k2 => assumption); (case k3 => assumption); (case k4 => assumption); (case k5 => assumption); (case k6 => (first | lia | omega)); (case k7 => (first | lia | omega)); (case k8 => rfl); intro h' tk' t' F' N'; (try dsimp only))
  k_with "call ref" => (refine' pure_walk ctoi_int ?k1 ?k2 ?k3 ?k4 ?k5 ?k6 ?k7 ?_ ?k8; (case k1 => assumption); (case k2 => assumption); (case k3 => assumption); (case k4 => assumption); (case k5 => assumption); (case k6 => (first | lia | omega)); (case k7 => (first | lia | omega)); (case k8 => rfl); intro h' tk' t' F' N'; (try dsimp only))
  k_steps
  k_with_none
  all_goals (try dsimp only)
  all_goals ((rename Fr _ _ _ _ => eF)))
  all_goals (refine ret_str ret ?_ eF)
  all_goals (first | (unfold unc unrep; simp [*]; done) | (have e7 : (c : Int) = 127 := by assumption); first | exact absurd (by rw [e7]; decide +kernel) (by assumption : Builtin.bitAnd (c : Int) 128 ≠ 0) | (unfold unc unrep; rw [e7, if_pos (by decide +kernel), if_pos rfl]))
theorem unctrl_str {c : Nat} {tc : Tok} (hc1 : c ≤ 511) : PureSpec 3 w 103 [.str ⟨#[c]⟩ tc] (fun t => .str (unc c) t) := by
  intro A s Q E G ret
  obtain ⟨dp, un, gd, outer, A₀, base, mean, mg, mb, rfl, hdp, hun, B, X, T⟩ := G.ex
  w_strict (
  revert X
  k_fill
  intro X
  refine' enter (binds := [(Str.ofString "c", .str ⟨#[c]⟩ tc)]) ?_ ?_ X (Stays.refl _) (Nat.le_refl _) ?k1 ?k2 ?k3 ?k4 ?_ ?_ ?_ ?_ ?k5
  case k1 => k_is
  case k2 => k_is
  case k3 => exact BindsTo.of_eq rfl
  case k4 => exact locs rfl
  case k5 => decide
  all_goals try exact rfl
  · exact Nat.lt_of_le_of_lt (Nat.le_add_right _ _) hdp
  · exact T.nolimit
  intro h₁ F hk₁
  have N : News s.heap s.heap.objs.size h₁ [] := News.nil
  generalize hL : s.heap.objs.size = L' at *
  (try dsimp only)
  (try k_fold)
  k_with_none
  k_with "call builtin:chr" => refine chr_of_range (chr_bound (by (first | lia | omega) : -128 ≤ (c : Int)) (by (first | lia | omega) : (c : Int) ≤ 511)).1 (chr_bound (by (first | lia | omega) : -128 ≤ (c : Int)) (by (first | lia | omega) : (c : Int) ≤ 511)).2 ?_
  k_with "call ref" => (refine' pure_walk isprint_int ?k1 ?k2 ?k3 ?k4 ?k5 ?k6 ?k7 ?_ ?k8; (case k1 => assumption); (case k2 => assumption); (case k3 => assumption); (case k4 => assumption); (case k5 => assumption); (case k6 => (first | lia | omega)); (case k7 => (first | lia | omega)); (case k8 => rfl); intro h' tk' t' F' N'; (try dsimp only))
  k_with "call ref" => (refine' pure_walk ctoi_str ?k1 ?k2 ?k3 ?k4 ?k5 ?k6 ?k7 ?_ ?k8; (case k1 => assumption); (case k2 => assumption); (case k3 => assumption); (case k4 => assumption); (case k5 => assumption); (case k6 => (first | lia | omega)); (case k7 => (first | lia | omega)); (case k8 => rfl); intro h' tk' t' F' N'; (try dsimp only))
  k_steps
  k_with_none
  all_goals (try dsimp only)
  all_goals ((rename Fr _ _ _ _ => eF)))
  all_goals (refine ret_str ret ?_ eF)
  all_goals (first | (unfold unc unrep; simp [*]; done) | (have e7 : (c : Int) = 127 := by assumption); first | exact absurd (by rw [e7]; decide +kernel) (by assumption : Builtin.bitAnd (c : Int) 128 ≠ 0) | (unfold unc unrep; rw [e7, if_pos (by decide +kernel), if_pos rfl]))
theorem law_code_spec {n : Int} {tc : Tok} : PureSpec 1 w 110 [.int n tc] (fun t => .int (lcode n) t) := by
  intro A s Q E G ret
  obtain ⟨dp, un, gd, outer, A₀, base, mean, mg, mb, rfl, hdp, hun, B, X, T⟩ := G.ex
  w_strict (
  revert X
  k_fill
  intro X
  refine' enter (binds := [(Str.ofString "number", .int n tc)]) ?_ ?_ X (Stays.refl _) (Nat.le_refl _) ?k1 ?k2 ?k3 ?k4 ?_ ?_ ?_ ?_ ?k5
  case k1 => k_is
  case k2 => k_is
  case k3 => exact BindsTo.of_eq rfl
  case k4 => exact locs rfl
  case k5 => decide
  all_goals try exact rfl
  · exact Nat.lt_of_le_of_lt (Nat.le_add_right _ _) hdp
  · exact T.nolimit
  intro h₁ F hk₁
  have N : News s.heap s.heap.objs.size h₁ [] := News.nil
  generalize hL : s.heap.objs.size = L' at *
  (try dsimp only)
  (try k_fold)
  k_with_none
  k_steps
  k_with_none
  all_goals (try dsimp only)
  all_goals ((rename Fr _ _ _ _ => eF)))
  exact ret _ _ _ eF.keep (Nat.le_of_lt eF.ns.lt)
theorem law_key_spec {n : Int} {tc : Tok} : PureSpec 2 w 117 [.int n tc] (fun t => lkey n t) := by
  intro A s Q E G ret
  obtain ⟨dp, un, gd, outer, A₀, base, mean, mg, mb, rfl, hdp, hun, B, X, T⟩ := G.ex
  w_strict (
  revert X
  k_fill
  intro X
  refine' enter (binds := [(Str.ofString "number", .int n tc)]) ?_ ?_ X (Stays.refl _) (Nat.le_refl _) ?k1 ?k2 ?k3 ?k4 ?_ ?_ ?_ ?_ ?k5
  case k1 => k_is
  case k2 => k_is
  case k3 => exact BindsTo.of_eq rfl
  case k4 => exact locs rfl
  case k5 => decide
  all_goals try exact rfl
  · exact Nat.lt_of_le_of_lt (Nat.le_add_right _ _) hdp
  · exact T.nolimit
  intro h₁ F hk₁
  have N : News s.heap s.heap.objs.size h₁ [] := News.nil
  generalize hL : s.heap.objs.size = L' at *
  (try dsimp only)
  (try k_fold)
  k_with_none
  have hc0 := lcode_ge n
  have hc1 := lcode_le n
  k_with "call builtin:chr" => refine chr_of_range (by (first | lia | omega)) (by (first | lia | omega)) ?_
  k_with "call ref" => (refine' pure_walk law_code_spec ?k1 ?k2 ?k3 ?k4 ?k5 ?k6 ?k7 ?_ ?k8; (case k1 => assumption); (case k2 => assumption); (case k3 => assumption); (case k4 => assumption); (case k5 => assumption); (case k6 => (first | lia | omega)); (case k7 => (first | lia | omega)); (case k8 => rfl); intro h' tk' t' F' N'; (try dsimp only))
  k_steps
  k_with_none
  all_goals (try dsimp only)
  all_goals ((rename Fr _ _ _ _ => eF)))
  · rename_i h1 h2
    have e : ∀ t, lkey n t = .str ⟨#[(lcode n).toNat]⟩ t := fun t => if_pos ⟨h1, h2⟩
    simp only [e] at ret
    exact ret _ _ _ eF.keep (Nat.le_of_lt eF.ns.lt)
  · rename_i h1 h2
    have e : ∀ t, lkey n t = .int (lcode n) t := fun t => if_neg fun q => h2 q.2
    simp only [e] at ret
    exact ret _ _ _ eF.keep (Nat.le_of_lt eF.ns.lt)
  · rename_i h1
    have e : ∀ t, lkey n t = .int (lcode n) t := fun t => if_neg fun q => h1 q.1
    simp only [e] at ret
    exact ret _ _ _ eF.keep (Nat.le_of_lt eF.ns.lt)
theorem law_rank_spec {c : Int} {tc : Tok} : PureSpec 1 w 124 [.int c tc] (fun t => .int (lrank c) t) := by
  intro A s Q E G ret
  obtain ⟨dp, un, gd, outer, A₀, base, mean, mg, mb, rfl, hdp, hun, B, X, T⟩ := G.ex
  w_strict (
  revert X
  k_fill
  intro X
  refine' enter (binds := [(Str.ofString "code", .int c tc)]) ?_ ?_ X (Stays.refl _) (Nat.le_refl _) ?k1 ?k2 ?k3 ?k4 ?_ ?_ ?_ ?_ ?k5
  case k1 => k_is
  case k2 => k_is
  case k3 => exact BindsTo.of_eq rfl
  case k4 => exact locs rfl
  case k5 => decide
  all_goals try exact rfl
  · exact Nat.lt_of_le_of_lt (Nat.le_add_right _ _) hdp
  · exact T.nolimit
  intro h₁ F hk₁
  have N : News s.heap s.heap.objs.size h₁ [] := News.nil
  generalize hL : s.heap.objs.size = L' at *
  (try dsimp only)
  (try k_fold)
  k_with_none
  k_steps
  k_with_none
  all_goals (try dsimp only)
  all_goals ((rename Fr _ _ _ _ => eF)))
  all_goals (refine ret_int ret ?_ eF)
  all_goals (have f0 : 0 ≤ c.fmod 128 := Int.fmod_nonneg_of_pos _ (by decide))
  all_goals (clear ret eF; unfold lrank lplace; (repeat' split) <;> (first | lia | omega))
end
end Mine
end
theorem Mine.start_C3 : True := by
  w_top off
  trivial
section
open PySem PySem.W PySem.Calls PyProof.Rows
set_option maxRecDepth 100000
set_option maxHeartbeats 8000000
namespace Mine
section
variable {w : World} {A : Around} {E : Value → Shared → Prop} {s : Shared} {K : Frag} {g : Heap}
/-- entering a def some of whose parameters are cells -/
theorem enterC {Q : Value → Shared → Prop} {name qual : Str} {params : Arguments} {body : List Stmt} {scope : Scope} {dV kV doc pm cdv ct oc : Value} {an od : Option Addr} {osl : Array (Option Value)} {f : Addr} {args : List Value} {kw : List (Str × Value)} {binds : List (Str × Value)}
    (hroom : A.depth < recursionLimit) (hn : g.NoLimit) (X : K.In g) (hg : Stays g s.heap) (hgs : g.objs.size ≤ s.heap.objs.size)
    (ho : K.lookup f = some ⟨oc, od, .func (fnOf name qual params body scope dV kV doc pm an cdv ct), osl⟩) (hcd : codeIn K cdv qual = true)
    (hbind : BindsTo s (fnOf name qual params body scope dV kV doc pm an cdv ct) ⟨args, kw⟩ binds)
    (hkind : (binds.all fun y => scope.names.lookup y.1 == some .local || scope.names.lookup y.1 == some .cell) = true)
    (hnd : ((cellsFrom 0 scope.names []).map (·.1)).Nodup)
    (h : ∀ h₁ tk cells, Fr g s.heap.objs.size h₁ (bindL (envOfC qual scope s.heap.objs.size f cdv).kindOf binds fun _ => none) → News g s.heap.objs.size h₁ cells →
      CellsAre (bindC (envOfC qual scope s.heap.objs.size f cdv).kindOf binds fun _ => none) (cellsFrom (s.heap.objs.size + 1) scope.names []) cells → Stays s.heap h₁ →
      wpAny (model PySem.Challenge.rw_mq0307_01.row.prog w) (A.deeper (envOfC qual scope s.heap.objs.size f cdv)) (execs body (envOfC qual scope s.heap.objs.size f cdv))
        (fun fl s' => Q (match fl with | .ret v => v | _ => .none) s') (fun _ _ => False)
        { s with heap := h₁, toks := tk })
    (hco : scope.isCoroutine = false) (hgen : scope.isGenerator = false) (hk : scope.kind = .function) : wpAny (model PySem.Challenge.rw_mq0307_01.row.prog w) A (call (.ref f) args kw) Q E s := by
  have X' : K.In s.heap := fun a o e => hg a o (X a o e)
  refine wpAny_call (codeAny_call_function hroom (X' _ _ ho) rfl hco hgen rfl (codeRec_of X' hcd) (hbind _ _ _ _ ?_))
  refine wpAny_newFunctionEnv_cells hk (kindsX hkind _) fun env' he s' x => ?_
  subst he
  refine ⟨(hn.keeps hg).keeps x.toInCall.keep, codeAny_func ?_⟩
  obtain ⟨h₁, tk, rfl, _⟩ := x.done
  have hk₁ := x.toInCall.keep
  obtain ⟨cells, NC, Y⟩ := Cl.news (h₀ := s.heap) (Nat.le_refl _) fun n c hm => ⟨x.cell n c (lookup_of_mem_nodup (cellsFrom_names scope.names 0 (s.heap.objs.size + 1) [] [] rfl ▸ hnd) hm), x.above n c hm⟩
  refine wpAny_mono (h h₁ tk cells ⟨x.toInCall.ns, fun b o e => hk₁ b o (hg b o e), hgs⟩ (fun p hp => ⟨(NC p hp).1, (NC p hp).2.1, ?_⟩) Y hk₁) (fun fl s' hl => hl) fun _ _ y => y.elim
  cases q : g.get? p.1 with
  | none => rfl
  | some o => have := hg _ _ q; rw [(NC p hp).2.2] at this; cases this
end
end Mine
end
theorem Mine.start_Z1 : True := by
  w_top off
  trivial
section
open PySem PySem.W PySem.Calls PyProof.Rows
set_option maxRecDepth 100000
set_option maxHeartbeats 4000000
namespace Mine
/-- a list iterator: what it walks (none once it has ended), its place -/
abbrev LIt (h : Heap) (it : Addr) (f : Value) (i : Nat) : Prop := h.get? it = some { cls := .type "list_iterator", dict := none, data := .fields #[f, .int i 0], slots := #[] }
section
variable {prog : Program} {w : World} {A : Around} {E : Value → Shared → Prop} {s : Shared}
theorem lit_item {it l : Addr} {i : Nat} {items : Array Value} {x : Value} {Q : Value → Shared → Prop} (hit : LIt s.heap it (.ref l) i) (hl : s.heap.IsList l items) (hx : items[i]? = some x)
    (hQ : ∀ h', LIt h' it (.ref l) (i + 1) → Heap.SameBut it s.heap h' → Q x { s with heap := h' }) :
    wpAny (model prog w) A (Builtin.«list_iterator.__next__» ⟨[.ref it], []⟩) (fun fin s' => ∃ v, fin = .done (.ret v) ∧ Q v s') E s := by
  obtain ⟨ol, hol, _, nl, hdl⟩ := hl
  show wpAny _ _ (field (.ref it) 0 >>= _) _ _ s
  refine wpAny_bind (wpAny_field hit rfl (x := .ref l) rfl ?_)
  show wpAny _ _ (if (Value.ref l == Value.none) = true then _ else _) _ _ s
  rw [if_neg (show ¬ ((Value.ref l == Value.none) = true) from Bool.false_ne_true)]
  show wpAny _ _ (field (.ref it) 1 >>= _) _ _ s
  refine wpAny_bind (wpAny_field hit rfl (x := .int i 0) rfl ?_)
  show wpAny _ _ (seqItems? (.ref l) >>= _) _ _ s
  refine wpAny_bind (wpAny_seqItems hol hdl ?_)
  simp only [Int.toNat_natCast, hx]
  exact wpAny_bind (wpAny_setField_rec hit (by simp) fun h' hz hs => wpAny_pure ⟨x, rfl, hQ h' hz hs⟩)
theorem stop_now {α : Type} {Q : α → Shared → Prop} (hh : A.handled = none) (h : ∀ h' e, Stays s.heap h' → s.heap.objs.size ≤ h'.objs.size → s.heap.objs.size ≤ e → (∃ o, h'.get? e = some o ∧ o.cls = .type "StopIteration") → E (.ref e) { s with heap := h' }) :
    wpAny (model prog w) A (Builtin.SmallTypes.stopIteration : Sem α) Q E s := by
  show wpAny _ _ (newExc (.type "StopIteration") [] >>= _) _ _ _
  refine wpAny_bind ?_
  simp only [newExc, newTuple]
  refine wpAny_bind (wpAny_newObj_type ?_ (by size_fits))
  refine wpAny_bind (m := firstArgMember _ _) (wpAny_of_eq (a := Value.none) (by first | rfl | (simp only [firstArgMember]; rfl)) ?_)
  refine wpAny_newObj_type ?_ (by size_fits)
  simp only [raiseNew]
  refine wpAny_bind (wpAny_handled ?_)
  rw [hh]
  refine wpAny_bind (wpAny_pure (wpAny_throw ?_))
  refine h _ _ (fun b o e => Heap.get?_push_of_some _ (Heap.get?_push_of_some _ e)) (by simp only [Heap.size_push]; omega) (by simp only [Heap.size_push]; omega) ⟨_, Heap.get?_push_size _ rfl, rfl⟩
theorem lit_end {it l : Addr} {i : Nat} {items : Array Value} {Q : PySem.Fin → Shared → Prop} (hh : A.handled = none) (hit : LIt s.heap it (.ref l) i) (hl : s.heap.IsList l items) (hx : items[i]? = none)
    (h : ∀ h' e, LIt h' it .none i → Heap.ExtBut it s.heap h' → s.heap.objs.size ≤ h'.objs.size → s.heap.objs.size ≤ e → (∃ o, h'.get? e = some o ∧ o.cls = .type "StopIteration") → E (.ref e) { s with heap := h' }) :
    wpAny (model prog w) A (Builtin.«list_iterator.__next__» ⟨[.ref it], []⟩) Q E s := by
  obtain ⟨ol, hol, _, nl, hdl⟩ := hl
  show wpAny _ _ (field (.ref it) 0 >>= _) _ _ s
  refine wpAny_bind (wpAny_field hit rfl (x := .ref l) rfl ?_)
  show wpAny _ _ (if (Value.ref l == Value.none) = true then _ else _) _ _ s
  rw [if_neg (show ¬ ((Value.ref l == Value.none) = true) from Bool.false_ne_true)]
  show wpAny _ _ (field (.ref it) 1 >>= _) _ _ s
  refine wpAny_bind (wpAny_field hit rfl (x := .int i 0) rfl ?_)
  show wpAny _ _ (seqItems? (.ref l) >>= _) _ _ s
  refine wpAny_bind (wpAny_seqItems hol hdl ?_)
  simp only [Int.toNat_natCast, hx]
  refine wpAny_bind (wpAny_rule (wpAny_bind (wpAny_setField_rec hit (by simp) fun h' hz hs => ?_)))
  refine stop_now hh fun h2 e st hsz hle he => ?_
  exact h h2 e (st _ _ (by simpa using hz)) (fun b o hb x => st _ _ (hs.extBut b o hb x)) (by rw [hs.1] at hsz; exact hsz) (by rw [hs.1] at hle; exact hle) he
theorem lit_ended {it : Addr} {i : Nat} {Q : PySem.Fin → Shared → Prop} (hh : A.handled = none) (hit : LIt s.heap it .none i)
    (h : ∀ h' e, Stays s.heap h' → s.heap.objs.size ≤ h'.objs.size → s.heap.objs.size ≤ e → (∃ o, h'.get? e = some o ∧ o.cls = .type "StopIteration") → E (.ref e) { s with heap := h' }) :
    wpAny (model prog w) A (Builtin.«list_iterator.__next__» ⟨[.ref it], []⟩) Q E s := by
  show wpAny _ _ (field (.ref it) 0 >>= _) _ _ s
  refine wpAny_bind (wpAny_field hit rfl (x := .none) rfl ?_)
  show wpAny _ _ (if (Value.none == Value.none) = true then _ else _) _ _ s
  rw [if_pos (show (Value.none == Value.none) = true from rfl)]
  exact wpAny_bind (wpAny_rule (wpAny_bind (stop_now hh h)))
theorem LIt.typeIs {f : Value} {it : Addr} {i : Nat} (h : LIt s.heap it f i) : s.TypeIs (.ref it) "list_iterator" := ⟨_, h, rfl⟩
theorem lit_pyNext {it l : Addr} {i : Nat} {items : Array Value} {x : Value} {Q : Option Value → Shared → Prop} (hit : LIt s.heap it (.ref l) i) (hl : s.heap.IsList l items) (hx : items[i]? = some x)
    (hQ : ∀ h', LIt h' it (.ref l) (i + 1) → Heap.SameBut it s.heap h' → Q (some x) { s with heap := h' }) : wpAny (model prog w) A (pyNext (.ref it)) Q E s := by
  unfold pyNext
  exact wpAny_bind (wpAny_attempt (wpAny_callSpecial?_slot (name := Str.ofString "__next__") hit.typeIs slot_listiter_next
    (wpAny_call_entry slot_listiter_next hit.typeIs entry_listiter_next (lit_item hit hl hx fun h' a b => wpAny_pure (hQ h' a b)) (args_listiter_next _))))
theorem lit_pyNext_end {it l : Addr} {i : Nat} {items : Array Value} {Q : Option Value → Shared → Prop} (hh : A.handled = none) (hit : LIt s.heap it (.ref l) i) (hl : s.heap.IsList l items) (hx : items[i]? = none)
    (hQ : ∀ h', LIt h' it .none i → Heap.ExtBut it s.heap h' → s.heap.objs.size ≤ h'.objs.size → Q none { s with heap := h' }) : wpAny (model prog w) A (pyNext (.ref it)) Q E s := by
  unfold pyNext
  refine wpAny_bind (wpAny_attempt (wpAny_callSpecial?_slot (name := Str.ofString "__next__") hit.typeIs slot_listiter_next
    (wpAny_call_entry slot_listiter_next hit.typeIs entry_listiter_next (lit_end hh hit hl hx fun h' e a b c _ d => ?_) (args_listiter_next _))))
  obtain ⟨o, ho, hc⟩ := d
  exact wpAny_bind (wpAny_isInstance (T := "StopIteration") (b := true) ⟨o, ho, hc⟩ isSubtype_stop (wpAny_pure (hQ _ a b c)))
theorem lit_pyNext_ended {it : Addr} {i : Nat} {Q : Option Value → Shared → Prop} (hh : A.handled = none) (hit : LIt s.heap it .none i)
    (hQ : ∀ h', Stays s.heap h' → s.heap.objs.size ≤ h'.objs.size → Q none { s with heap := h' }) : wpAny (model prog w) A (pyNext (.ref it)) Q E s := by
  unfold pyNext
  refine wpAny_bind (wpAny_attempt (wpAny_callSpecial?_slot (name := Str.ofString "__next__") hit.typeIs slot_listiter_next
    (wpAny_call_entry slot_listiter_next hit.typeIs entry_listiter_next (lit_ended hh hit fun h' e b c _ d => ?_) (args_listiter_next _))))
  obtain ⟨o, ho, hc⟩ := d
  exact wpAny_bind (wpAny_isInstance (T := "StopIteration") (b := true) ⟨o, ho, hc⟩ isSubtype_stop (wpAny_pure (hQ _ b c)))
theorem lit_pyIter {f : Value} {it : Addr} {i : Nat} {Q : Value → Shared → Prop} (hit : LIt s.heap it f i) (h : Q (.ref it) s) : wpAny (model prog w) A (pyIter (.ref it)) Q E s := by
  refine wpAny_pyIter_slot hit.typeIs slot_listiter_iter (wpAny_call_entry slot_listiter_iter hit.typeIs entry_listiter_iter ?_ (args_listiter_iter _))
  show wpAny _ _ (ret (.ref it)) _ _ s
  exact wpAny_pure ⟨_, rfl, "list_iterator", _, hit.typeIs, slot_listiter_next.lookup, h⟩
theorem iter_of {a : Addr} {Q : Value → Shared → Prop} (h : wpAny (model prog w) A.in1 (pyIter (.ref a)) Q E s) : wpAny (model prog w) A (call (.builtin "iter") [.ref a]) Q E s := by
  refine call_function_entry (by decide +kernel) (by decide +kernel) kdk_entry_iter (kdk_args_iter _) ?_
  unfold Builtin.«iter»
  refine wpAny_bind (m := someArgs "iter" 1 2 _) (wpAny_of_eq (a := [Value.ref a]) (by first | rfl | kernel_rfl!) ?_)
  show wpAny _ _ (pyIter (.ref a) >>= _) _ _ _
  exact wpAny_bind (wpAny_mono h (fun v s' hq => wpAny_pure ⟨_, rfl, hq⟩) fun _ _ x => x)
end
end Mine
end
theorem Mine.start_C4 : True := by
  w_top off
  trivial
section
open PySem PySem.W PySem.Calls PyProof.Rows
set_option maxRecDepth 100000
set_option maxHeartbeats 4000000
namespace Mine
section
variable {w : World} {E : Value → Shared → Prop} {s : Shared} {g : Heap}
theorem isDict_nf {o : Obj} {es : Array DictEntry} {ep : Nat} (h : o.data = .dict es ep) : ∀ vs, o.data ≠ .fields vs := fun vs q => by rw [h] at q; cases q
/-- the ground of a call made two frames deep -/
theorem gr_of {k dp un : Nat} {gd : Option (List Code)} {env env1 : Env} {L L' : Addr} {oL : Obj} {h : Heap} {m : Str → Option Value} {mean : ExcName → Option Value} {mg mb : Str → Option Value}
    (X : (hd.heap_39 w.params).In g) (T : Top hd.view_39 (looseW hd.view_39 [Str.ofString "nsmallest", Str.ofString "nlargest"]) mean mg mb g)
    (st : Stays g h) (hg' : g.get? L' = none) (hns : h.Ns L' m) (hL : h.get? L = some oL) (hoL : ∀ vs, oL.data ≠ .fields vs) (hgL : g.get? L = none)
    (hf : env.frame = some L') (hk : env.scope.kind = .function) (hf1 : env1.frame = some L) (hk1 : env1.scope.kind = .function)
    (hdp : dp + (k + 1) < recursionLimit) (hun : un + 60 * (k + 1) < cLine) : Gr k w ((AR dp un gd [env1]).deeper env) h := by
  refine ⟨dp + 1, un + 3, gd, [env, env1], (AR dp un gd [env1]).deeper env, g, mean, mg, mb, rfl, by omega, by omega, ⟨rfl, st, ?_⟩, X.keeps st, T.keeps st⟩
  obtain ⟨o, es, ep, ho, hd, _⟩ := hns
  exact ⟨by rw [hk]; decide, ⟨L', o, hf, hg', ho, isDict_nf hd⟩, by rw [hk1]; decide, ⟨L, oL, hf1, hgL, hL, hoL⟩, trivial⟩

/-- noting the frame of a new exception, two frames deep: the caller's locals keep all but their slots -/
theorem note2 {A : Around} {h : Heap} {e L L' : Addr} {oL : Obj} {env env1 : Env} {m : Str → Option Value} {rest : List (Addr × Obj)} {C : String} {Q : Unit → Shared → Prop}
    (hfr : A.frames = some [env, env1]) (hf : env.frame = some L') (hk : env.scope.kind = .function) (hf1 : env1.frame = some L) (hk1 : env1.scope.kind = .function)
    (hx : Heap.NewExc h s.heap e C) (F : Fr g L' h m) (N : News g L' h ((L, oL) :: rest)) (hoL : ∀ vs, oL.data ≠ .fields vs) (hne : ∀ p ∈ rest, p.1 ≠ L)
    (k : ∀ h' sl oe vs T oT ts, Fr g L' h' m → News g L' h' ((e, oe) :: (T, oT) :: (L, { oL with slots := sl }) :: rest) → oe.cls = .type C → oe.data = .fields vs → vs[1]? = some (.ref T) →
      oT.data = .fields ts → 3 < ts.size → T ≠ e → T ≠ L → (∀ p ∈ rest, p.1 ≠ T) → Q () { s with heap := h' }) :
    wpAny (model PySem.Challenge.rw_mq0307_01.row.prog w) A (noteFrame (.ref e) env) Q E s := by
  obtain ⟨ob, tp, he, hcls, hd⟩ := hx.there
  have zL := N _ (.head _)
  obtain ⟨o', es, ep, ho', hd', hr'⟩ := F.ns
  have hgL' : g.get? L' = none := by
    cases q : g.get? L' with
    | none => rfl
    | some o => exact absurd (Nat.lt_of_lt_of_le (Heap.lt_size q) F.above) (Nat.lt_irrefl _)
  have hff : s.heap.FunFrames (TI.gone h [L', L]) [env, env1] :=
    ⟨by rw [hk]; decide, ⟨L', o', hf, TI.gone_none (.head _), hx.keeps _ _ ho', isDict_nf hd'⟩, by rw [hk1]; decide, ⟨L, oL, hf1, TI.gone_none (.tail _ (.head _)), hx.keeps _ _ zL.1, hoL⟩, trivial⟩
  unfold noteFrame
  simp only [hf]
  refine wpAny_bind (wpAny_field he hd (x := .none) rfl ?_)
  rw [if_neg (by decide)]
  refine wpAny_entryW (a0 := tp) hfr hff hf he (fun b o eb => hx.keeps b o (TI.gone_some eb).2) (TI.none_of (fun b o eb => (TI.gone_some eb).2) hx.new) hd (by show 1 < 6; decide) rfl fun h' hN => ?_
  obtain ⟨k1, _, ⟨oe, vs, T, oT, ts, he2, ⟨hcl, _⟩, hd2, h1, hnT, hTe, hT, hdT, h3⟩, k4⟩ := hN
  have keep : ∀ b o, b ≠ L' → b ≠ L → h.get? b = some o → h'.get? b = some o := fun b o n1 n2 ho => k1 b o ((TI.gone_get (by simp [n1, n2])).trans ho)
  have hgk : ∀ b o, g.get? b = some o → h'.get? b = some o := fun b o eb => keep b o (fun q => by rw [q, hgL'] at eb; cases eb) (fun q => by rw [q, zL.2.2] at eb; cases eb) (F.keep b o eb)
  obtain ⟨sl', hl'⟩ := k4 L' o' (hx.keeps _ _ ho') (isDict_nf hd')
  obtain ⟨sl, hl⟩ := k4 L oL (hx.keeps _ _ zL.1) hoL
  have hTL' : T ≠ L' := fun q => by
    rw [q, hl'] at hT; cases hT
    exact isDict_nf (o := { o' with slots := sl' }) hd' _ hdT
  have hTL : T ≠ L := fun q => by
    rw [q, hl] at hT; cases hT
    exact hoL _ hdT
  have hTh : h.get? T = none := by
    cases q : h.get? T with
    | none => rfl
    | some o => rw [TI.gone_get (by simp [hTL, hTL']), q] at hnT; cases hnT
  have hrT : ∀ p ∈ rest, p.1 ≠ T := fun p hp q => by have := (N p (.tail _ hp)).1; rw [q, hTh] at this; cases this
  have heL' : e ≠ L' := fun q => by have := hx.new; rw [q, ho'] at this; cases this
  refine k h' sl oe vs T oT ts ⟨⟨_, es, ep, hl', hd', hr'⟩, hgk, F.above⟩ (fun p hp => ?_) (hcl.trans hcls) hd2 h1 hdT (Array.getElem?_eq_some_iff.mp h3).1 hTe hTL hrT
  rcases List.mem_cons.mp hp with rfl | hp
  · exact ⟨he2, heL', TI.none_of F.keep hx.new⟩
  rcases List.mem_cons.mp hp with rfl | hp
  · exact ⟨hT, hTL', TI.none_of F.keep hTh⟩
  rcases List.mem_cons.mp hp with rfl | hp
  · exact ⟨hl, zL.2.1, zL.2.2⟩
  · have z := N p (.tail _ hp)
    exact ⟨keep _ _ z.2.1 (hne p hp) z.1, z.2⟩
/-- the exception has landed -/
theorem land2 {A : Around} {e T L' : Addr} {oe oT : Obj} {m : Str → Option Value} {vs ts : Array Value} {rest : List (Addr × Obj)} {Q : Unit → Shared → Prop}
    (F : Fr g L' s.heap m) (N : News g L' s.heap ((e, oe) :: (T, oT) :: rest)) (hd : oe.data = .fields vs) (h1 : vs[1]? = some (.ref T)) (hdT : oT.data = .fields ts) (hsz : 3 < ts.size) (hTe : T ≠ e) (hr : ∀ p ∈ rest, p.1 ≠ T)
    (k : ∀ h' oT' ts', Fr g L' h' m → News g L' h' ((e, oe) :: (T, oT') :: rest) → oT'.data = .fields ts' → 3 < ts'.size → Q () { s with heap := h' }) :
    wpAny (model PySem.Challenge.rw_mq0307_01.row.prog w) A (setFlight (.ref e) none) Q E s := by
  have ze := N _ (.head _)
  have zT := N _ (.tail _ (.head _))
  have hdT' := Obj.data_mapFields hdT (·.setIfInBounds 3 Value.none)
  obtain ⟨o', es, ep, ho', r⟩ := F.ns
  refine wpAny_setFlight_none ze.1 hd h1 zT.1 hdT hsz (k _ (Obj.mapFields (·.setIfInBounds 3 Value.none) oT) _ ⟨⟨o', es, ep, (Heap.get?_update_ne _ _ _ _ zT.2.1.symm).trans ho', r⟩, fun b o hb => (Heap.get?_update_ne _ _ _ _ (fun q => by have := zT.2.2; rw [q, this] at hb; cases hb)).trans (F.keep b o hb), F.above⟩ (fun p hp => ?_) hdT' (by simpa using hsz))
  rcases List.mem_cons.mp hp with rfl | hp
  · exact ⟨(Heap.get?_update_ne _ _ _ _ (Ne.symm hTe)).trans ze.1, ze.2⟩
  rcases List.mem_cons.mp hp with rfl | hp
  · exact ⟨Heap.get?_update_self _ zT.1 (Obj.isFreed_of_fields hdT'), zT.2⟩
  · have z := N p (.tail _ (.tail _ hp))
    exact ⟨(Heap.get?_update_ne _ _ _ _ (hr p hp)).trans z.1, z.2⟩
end
end Mine
end
theorem Mine.start_N2 : True := by
  w_top off
  trivial
section
open PySem PySem.W PySem.Calls PyProof.Rows
set_option maxRecDepth 100000
set_option maxHeartbeats 8000000
namespace Mine
section
variable {prog : Program} {w : World} {A : Around} {E : Value → Shared → Prop} {s : Shared}
theorem shown_lit : shownName "list_iterator" = "list_iterator" := by decide +kernel
theorem no_len_lit : typeLookup (.type "list_iterator") (Str.ofString "__len__") = pure none := by kernel_rfl
/-- len of a list's iterator raises -/
theorem len_lit {it : Addr} {f : Value} {i : Nat} {Q : Value → Shared → Prop} (hh : A.handled = none) (hit : LIt s.heap it f i)
    (h : ∀ h' tk e, Heap.NewExc s.heap h' e "TypeError" → E (.ref e) { s with heap := h', toks := tk }) : wpAny (model prog w) A (call (.builtin "len") [.ref it]) Q E s := by
  refine call_function_entry (by decide +kernel) (by decide +kernel) entry_len (args_len1 _) ?_
  unfold Builtin.«len»
  refine wpAny_bind (m := oneArg "len" _) (wpAny_pure ?_)
  refine wpAny_bind (wpAny_callSpecial?_none hit.typeIs no_len_lit ?_)
  refine wpAny_bind (wpAny_rule ?_)
  refine wpAny_bind (wpAny_typeNameOf' hit.typeIs (by decide) ?_)
  rw [shown_lit]
  refine wpAny_raiseErrorMade (A := A.in1) plainExc_TypeError hh h ?_
  rw [PyProof.Rows.ofString_length, sizeLine_eq]; decide +kernel
end
end Mine
end
theorem Mine.start_N1 : True := by
  w_top off
  trivial
section
open PySem PySem.W PySem.Calls PyProof.Rows
set_option maxRecDepth 100000
set_option maxHeartbeats 8000000
namespace Mine
variable {w : World}
theorem lk_inj {K : Frag} {f : Addr} {a b : Obj} (h : K.lookup f = some a) (h' : K.lookup f = some b) : a = b := Option.some.inj (h.symm.trans h')
noncomputable def m0 (n : Int) (tn : Tok) (v : Value) : Str → Option Value := fun y => if y = Str.ofString "iterable" then some v else if y = Str.ofString "n" then some (.int n tn) else none
abbrev litObj (fv : Value) (i : Nat) : Obj := ⟨.type "list_iterator", none, .fields #[fv, .int i 0], #[]⟩

theorem ns_try {g : Heap} {s : Shared} {Q : Flow → Shared → Prop} {dp un : Nat} {gd : Option (List Code)} {env1 : Env} {mean : ExcName → Option Value} {mg mb : Str → Option Value}
   {oc : Value} {od : Option Addr} {osl : Array (Option Value)} {name qual : Str} {params : Arguments} {body tail tail2 : List Stmt} {scope : Scope} {dV kV doc pm cdv ct : Value} {an : Option Addr}
   {L L' c it : Addr} {oL cell : Obj} {n : Int} {tn : Tok} {kv : Value} {fv : Value} 
   (hK : (hd.heap_39 w.params).lookup 76 = some ⟨oc, od, .func (fnOf name qual params body scope dV kV doc pm an cdv ct), osl⟩) (ht : body.drop 1 = tail)
   (X : (hd.heap_39 w.params).In g) (T : Top hd.view_39 (looseW hd.view_39 [Str.ofString "nsmallest", Str.ofString "nlargest"]) mean mg mb g)
   (F : Fr g L' s.heap (fun y => if y = Str.ofString "iterable" then some (.ref it) else if y = Str.ofString "n" then some (.int n tn) else none)) (N : News g L' s.heap [(L, oL), (c, cell), (it, litObj fv 0)]) 
   (hf1 : env1.frame = some L) (hk1 : env1.scope.kind = .function) (hoL : ∀ vs, oL.data ≠ .fields vs) (hcL : c ≠ L) (hiL : it ≠ L) (ht2 : body.drop 2 = tail2)
   (k : ∀ h' tk' sl, Fr g L' h' (fun y => if y = Str.ofString "iterable" then some (.ref it) else if y = Str.ofString "n" then some (.int n tn) else none) → News g L' h' [(L, { oL with slots := sl }), (c, cell), (it, litObj fv 0)] →
     wpAny (model PySem.Challenge.rw_mq0307_01.row.prog w) ((AR dp un gd [env1]).deeper (envOfC qual scope L' 76 cdv)) (execs tail2 (envOfC qual scope L' 76 cdv)) Q (fun _ _ => False) { s with heap := h', toks := tk' }) :
   wpAny (model PySem.Challenge.rw_mq0307_01.row.prog w) ((AR dp un gd [env1]).deeper (envOfC qual scope L' 76 cdv)) (execs tail (envOfC qual scope L' 76 cdv)) Q (fun _ _ => False) s := by
  w_strict (
  revert X
  k_fill
  intro X
  have e := lk_inj hK (by k_is : (hd.heap_39 w.params).lookup 76 = some ⟨_, _, .func (fnOf _ _ _ _ _ _ _ _ _ _ _ _), _⟩)
  injection e with e1 e2 e3 e4
  injection e3 with e3
  injection e3 with e5 e6 e7 e8 e9 e10 e11 e12 e13 e14 e15 e16 e17 e18
  injection e8 with e8
  subst_vars
  clear hK e10 e11
  simp only [List.drop_succ_cons, List.drop_zero]
  (try dsimp only) 
  (try k_fold)
  k_with_none
  walk1
  refine wpAny_Try_except ?_
  repeat' ((fail_if_success (with_reducible show wpAny _ _ (call (Value.ref _) _ _) _ _ _)); (fail_if_success (with_reducible show wpAny _ _ (call (Value.builtin _) _ _) _ _ _));  (first | (k_unfold; (try dsimp only)) | walk1 | (dsimp only; walk1)))
  have hi := (N _ (.tail _ (.tail _ (.head _)))).1
  refine len_lit rfl hi fun h1 tk1 e hx => ?_
  refine note2 (s := { s with heap := h1, toks := tk1 }) (env1 := env1) (rest := [(c, cell), (it, litObj fv 0)]) rfl rfl rfl hf1 hk1 hx F N hoL ?_ fun h2 sl oe vs T2 oT ts F2 N2 hc2 hd2 hv2 hdT hsz hTe hTL hTr => ?_
  · simp [hcL, hiL]
  clear F N
  refine land2 F2 N2 hd2 hv2 hdT hsz hTe (by simpa using ⟨hTL.symm, by simpa using hTr⟩) fun h3 oT3 ts3 F3 N3 hdT3 hsz3 => ?_
  clear F2 N2
  refine wpAny_handleBy_tup2 (X := "TypeError") (T1 := "TypeError") (T2 := "AttributeError") (b1 := true) (b2 := false) (isSubtype_of_subB (by decide +kernel)) (isSubtype_of_subB (by decide +kernel)) (isSubtype_of_subB (by decide +kernel)) (isSubtype_of_subB (by decide +kernel)) (isSubtype_of_subB (by decide +kernel)) (isSubtype_of_subB (by decide +kernel)) ?_
  refine wpAny_passesOwnAt (PassesOwnAt.never) ?_
  walk1
  walk1
  walk1
  walk1
  k_dflt (refine' nameX_B (v := .type "AttributeError") ?F ?X ?T ?e ?v ?n ?_ ?a ?b; (case F => k_asm); (case X => k_asm); (case T => k_asm); (case a => rfl); (case b => rfl); (case e => k_is); (case v => decide +kernel); (case n => decide); k_whole)
  repeat' ((fail_if_success (with_reducible show wpAny _ _ (newTuple _) _ _ _)); (first | (k_unfold; (try dsimp only)) | walk1 | (dsimp only; walk1)))
  refine wpAny_newObj_type ⟨_, rfl, IsTup.new _ _, ⟨oe, Heap.get?_push_of_some _ (N3 _ (.head _)).1, hc2⟩, ?_⟩
  rw [if_pos (show (true || false) = true from rfl)]
  refine land2 (F3.push _) (fun p hp => ⟨Heap.get?_push_of_some _ (N3 p hp).1, (N3 p hp).2⟩ : News g L' _ _) hd2 hv2 hdT3 hsz3 hTe (by simpa using ⟨hTL.symm, by simpa using hTr⟩) fun h4 oT4 ts4 F4 N4 _ _ => ?_
  refine wpAny_passesOwnAt (PassesOwnAt.never) ?_
  clear F3 N3
  have N5 : News g L' h4 [(L, { oL with slots := sl }), (c, cell), (it, litObj fv 0)] := fun p hp => N4 p (.tail _ (.tail _ hp))
  clear N4
  walk1
  walk1
  walk1
  exact k _ _ _ F4 N5
  )
theorem nl_try {g : Heap} {s : Shared} {Q : Flow → Shared → Prop} {dp un : Nat} {gd : Option (List Code)} {env1 : Env} {mean : ExcName → Option Value} {mg mb : Str → Option Value}
   {oc : Value} {od : Option Addr} {osl : Array (Option Value)} {name qual : Str} {params : Arguments} {body tail tail2 : List Stmt} {scope : Scope} {dV kV doc pm cdv ct : Value} {an : Option Addr}
   {L L' c it : Addr} {oL cell : Obj} {n : Int} {tn : Tok} {kv : Value} {fv : Value} 
   (hK : (hd.heap_39 w.params).lookup 82 = some ⟨oc, od, .func (fnOf name qual params body scope dV kV doc pm an cdv ct), osl⟩) (ht : body.drop 1 = tail)
   (X : (hd.heap_39 w.params).In g) (T : Top hd.view_39 (looseW hd.view_39 [Str.ofString "nsmallest", Str.ofString "nlargest"]) mean mg mb g)
   (F : Fr g L' s.heap (fun y => if y = Str.ofString "iterable" then some (.ref it) else if y = Str.ofString "n" then some (.int n tn) else none)) (N : News g L' s.heap [(L, oL), (c, cell), (it, litObj fv 0)]) 
   (hf1 : env1.frame = some L) (hk1 : env1.scope.kind = .function) (hoL : ∀ vs, oL.data ≠ .fields vs) (hcL : c ≠ L) (hiL : it ≠ L) (ht2 : body.drop 2 = tail2)
   (k : ∀ h' tk' sl, Fr g L' h' (fun y => if y = Str.ofString "iterable" then some (.ref it) else if y = Str.ofString "n" then some (.int n tn) else none) → News g L' h' [(L, { oL with slots := sl }), (c, cell), (it, litObj fv 0)] →
     wpAny (model PySem.Challenge.rw_mq0307_01.row.prog w) ((AR dp un gd [env1]).deeper (envOfC qual scope L' 82 cdv)) (execs tail2 (envOfC qual scope L' 82 cdv)) Q (fun _ _ => False) { s with heap := h', toks := tk' }) :
   wpAny (model PySem.Challenge.rw_mq0307_01.row.prog w) ((AR dp un gd [env1]).deeper (envOfC qual scope L' 82 cdv)) (execs tail (envOfC qual scope L' 82 cdv)) Q (fun _ _ => False) s := by
  w_strict (
  revert X
  k_fill
  intro X
  have e := lk_inj hK (by k_is : (hd.heap_39 w.params).lookup 82 = some ⟨_, _, .func (fnOf _ _ _ _ _ _ _ _ _ _ _ _), _⟩)
  injection e with e1 e2 e3 e4
  injection e3 with e3
  injection e3 with e5 e6 e7 e8 e9 e10 e11 e12 e13 e14 e15 e16 e17 e18
  injection e8 with e8
  subst_vars
  clear hK e10 e11
  simp only [List.drop_succ_cons, List.drop_zero]
  (try dsimp only) 
  (try k_fold)
  k_with_none
  walk1
  refine wpAny_Try_except ?_
  repeat' ((fail_if_success (with_reducible show wpAny _ _ (call (Value.ref _) _ _) _ _ _)); (fail_if_success (with_reducible show wpAny _ _ (call (Value.builtin _) _ _) _ _ _));  (first | (k_unfold; (try dsimp only)) | walk1 | (dsimp only; walk1)))
  have hi := (N _ (.tail _ (.tail _ (.head _)))).1
  refine len_lit rfl hi fun h1 tk1 e hx => ?_
  refine note2 (s := { s with heap := h1, toks := tk1 }) (env1 := env1) (rest := [(c, cell), (it, litObj fv 0)]) rfl rfl rfl hf1 hk1 hx F N hoL ?_ fun h2 sl oe vs T2 oT ts F2 N2 hc2 hd2 hv2 hdT hsz hTe hTL hTr => ?_
  · simp [hcL, hiL]
  clear F N
  refine land2 F2 N2 hd2 hv2 hdT hsz hTe (by simpa using ⟨hTL.symm, by simpa using hTr⟩) fun h3 oT3 ts3 F3 N3 hdT3 hsz3 => ?_
  clear F2 N2
  refine wpAny_handleBy_tup2 (X := "TypeError") (T1 := "TypeError") (T2 := "AttributeError") (b1 := true) (b2 := false) (isSubtype_of_subB (by decide +kernel)) (isSubtype_of_subB (by decide +kernel)) (isSubtype_of_subB (by decide +kernel)) (isSubtype_of_subB (by decide +kernel)) (isSubtype_of_subB (by decide +kernel)) (isSubtype_of_subB (by decide +kernel)) ?_
  refine wpAny_passesOwnAt (PassesOwnAt.never) ?_
  walk1
  walk1
  walk1
  walk1
  k_dflt (refine' nameX_B (v := .type "AttributeError") ?F ?X ?T ?e ?v ?n ?_ ?a ?b; (case F => k_asm); (case X => k_asm); (case T => k_asm); (case a => rfl); (case b => rfl); (case e => k_is); (case v => decide +kernel); (case n => decide); k_whole)
  repeat' ((fail_if_success (with_reducible show wpAny _ _ (newTuple _) _ _ _)); (first | (k_unfold; (try dsimp only)) | walk1 | (dsimp only; walk1)))
  refine wpAny_newObj_type ⟨_, rfl, IsTup.new _ _, ⟨oe, Heap.get?_push_of_some _ (N3 _ (.head _)).1, hc2⟩, ?_⟩
  rw [if_pos (show (true || false) = true from rfl)]
  refine land2 (F3.push _) (fun p hp => ⟨Heap.get?_push_of_some _ (N3 p hp).1, (N3 p hp).2⟩ : News g L' _ _) hd2 hv2 hdT3 hsz3 hTe (by simpa using ⟨hTL.symm, by simpa using hTr⟩) fun h4 oT4 ts4 F4 N4 _ _ => ?_
  refine wpAny_passesOwnAt (PassesOwnAt.never) ?_
  clear F3 N3
  have N5 : News g L' h4 [(L, { oL with slots := sl }), (c, cell), (it, litObj fv 0)] := fun p hp => N4 p (.tail _ (.tail _ hp))
  clear N4
  walk1
  walk1
  walk1
  exact k _ _ _ F4 N5
  )
end Mine
end
theorem Mine.start_Z2 : True := by
  w_top off
  trivial
section
open PySem PySem.W PySem.Calls PyProof.Rows
set_option maxRecDepth 100000
set_option maxHeartbeats 4000000
namespace Mine
section
variable {prog : Program} {w : World} {A : Around} {E : Value → Shared → Prop} {s : Shared}
theorem rit_next {it : Addr} {x left step : Int} {Q : Value → Shared → Prop} (hit : IsRangeIter s.heap it x left step) (hleft : 0 < left)
    (hQ : ∀ h', IsRangeIter h' it (x + step) (left - 1) step → Heap.SameBut it s.heap h' → Q (.int x s.toks) { s with heap := h', toks := s.toks + 1 }) :
    wpAny (model prog w) A (Builtin.SmallTypes.nextOf (.ref it)) Q E s := by
  have hT : s.TypeIs (.ref it) "range_iterator" := ⟨_, hit, rfl⟩
  unfold Builtin.SmallTypes.nextOf
  refine wpAny_bind (wpAny_callSpecial?_slot (name := Str.ofString "__next__") hT F.slot_range_iterator_next
    (call_meets F.slot_range_iterator_next hT F.entry_range_iterator_next (F.args_range_iterator_next_1 _) (AutoRange.range_iterator___next___range_iterator_1 it x left step (by (first | lia | omega))) ⟨hit, ?_⟩))
  exact wpAny_pure (hQ _ (Heap.get?_update_self _ (Heap.get?_update_self _ hit rfl) rfl) ((Heap.SameBut.update ..).trans (Heap.SameBut.update ..)))
theorem rit_stop {it : Addr} {x left step : Int} {Q : Value → Shared → Prop} (hh : A.handled = none) (hit : IsRangeIter s.heap it x left step) (hleft : left ≤ 0)
    (h : ∀ h' e, Stays s.heap h' → s.heap.objs.size ≤ h'.objs.size → s.heap.objs.size ≤ e → (∃ o, h'.get? e = some o ∧ o.cls = .type "StopIteration") → E (.ref e) { s with heap := h' }) :
    wpAny (model prog w) A (Builtin.SmallTypes.nextOf (.ref it)) Q E s := by
  have hT : s.TypeIs (.ref it) "range_iterator" := ⟨_, hit, rfl⟩
  unfold Builtin.SmallTypes.nextOf
  refine wpAny_bind (wpAny_callSpecial?_slot (name := Str.ofString "__next__") hT F.slot_range_iterator_next
    (wpAny_call_entry F.slot_range_iterator_next hT F.entry_range_iterator_next ?_ (F.args_range_iterator_next_1 _)))
  show wpAny _ _ (field (.ref it) 0 >>= _) _ _ s
  refine wpAny_bind (wpAny_field hit rfl (x := rawInt x) rfl ?_)
  show wpAny _ _ (field (.ref it) 1 >>= _) _ _ s
  refine wpAny_bind (wpAny_field hit rfl (x := rawInt left) rfl ?_)
  show wpAny _ _ (field (.ref it) 2 >>= _) _ _ s
  refine wpAny_bind (wpAny_field hit rfl (x := rawInt step) rfl ?_)
  show wpAny _ _ (if left ≤ 0 then _ else _) _ _ s
  rw [if_pos hleft]
  exact wpAny_bind (wpAny_rule (wpAny_bind (stop_now hh h)))
theorem lit_next {it l : Addr} {i : Nat} {items : Array Value} {x : Value} {Q : Value → Shared → Prop} (hit : LIt s.heap it (.ref l) i) (hl : s.heap.IsList l items) (hx : items[i]? = some x)
    (hQ : ∀ h', LIt h' it (.ref l) (i + 1) → Heap.SameBut it s.heap h' → Q x { s with heap := h' }) : wpAny (model prog w) A (Builtin.SmallTypes.nextOf (.ref it)) Q E s := by
  unfold Builtin.SmallTypes.nextOf
  exact wpAny_bind (wpAny_callSpecial?_slot (name := Str.ofString "__next__") hit.typeIs slot_listiter_next
    (wpAny_call_entry slot_listiter_next hit.typeIs entry_listiter_next (lit_item hit hl hx fun h' a b => wpAny_pure (hQ h' a b)) (args_listiter_next _)))
theorem lit_stop {it l : Addr} {i : Nat} {items : Array Value} {Q : Value → Shared → Prop} (hh : A.handled = none) (hit : LIt s.heap it (.ref l) i) (hl : s.heap.IsList l items) (hx : items[i]? = none)
    (h : ∀ h' e, LIt h' it .none i → Heap.ExtBut it s.heap h' → s.heap.objs.size ≤ h'.objs.size → s.heap.objs.size ≤ e → (∃ o, h'.get? e = some o ∧ o.cls = .type "StopIteration") → E (.ref e) { s with heap := h' }) : wpAny (model prog w) A (Builtin.SmallTypes.nextOf (.ref it)) Q E s := by
  unfold Builtin.SmallTypes.nextOf
  exact wpAny_bind (wpAny_callSpecial?_slot (name := Str.ofString "__next__") hit.typeIs slot_listiter_next
    (wpAny_call_entry slot_listiter_next hit.typeIs entry_listiter_next (lit_end hh hit hl hx h) (args_listiter_next _)))

structure ZA (z TI TO i1 i2 l : Addr) : Prop where
  TIz : TI ≠ z
  TOz : TO ≠ z
  i1z : i1 ≠ z
  i2z : i2 ≠ z
  TITO : TI ≠ TO
  TIi1 : TI ≠ i1
  TIi2 : TI ≠ i2
  TOi1 : TO ≠ i1
  TOi2 : TO ≠ i2
  i12 : i1 ≠ i2
  lz : l ≠ z
  lTO : l ≠ TO
  li1 : l ≠ i1
  li2 : l ≠ i2

/-- the zip of a range's iterator and a list's, behind j turns; f0: its first field -/
structure ZSt (h : Heap) (z TI TO i1 i2 l : Addr) (x n step : Int) (items : Array Value) (f0 : Value) (j : Nat) : Prop where
  hz : IsZip h z TI TO f0
  hTI : IsPair h TI (.ref i1) (.ref i2)
  hTO : ∃ a b, IsPair h TO a b
  h1 : IsRangeIter h i1 (x + j * step) (n - j) step
  h2 : LIt h i2 (.ref l) j
  hl : h.IsList l items
theorem ZSt.keep {h h' : Heap} {z TI TO i1 i2 l : Addr} {x n step : Int} {items : Array Value} {f0 : Value} {j : Nat} (S : ZSt h z TI TO i1 i2 l x n step items f0 j)
    (k : ∀ b o, b ∈ [z, TI, TO, i1, i2, l] → h.get? b = some o → h'.get? b = some o) : ZSt h' z TI TO i1 i2 l x n step items f0 j := by
  obtain ⟨hz, hTI, ⟨a, b, hTO⟩, h1, h2, hl⟩ := S
  exact ⟨k _ _ (by simp) hz, k _ _ (by simp) hTI, ⟨a, b, k _ _ (by simp) hTO⟩, k _ _ (by simp) h1, k _ _ (by simp) h2, hl.at fun o e => k _ _ (by simp) e⟩

theorem zip_item {z TI TO i1 i2 l : Addr} {x n step : Int} {items : Array Value} {j : Nat} {y : Value} {Q : Option Value → Shared → Prop} (D : ZA z TI TO i1 i2 l)
    (S : ZSt s.heap z TI TO i1 i2 l x n step items .none j) (hj : (j : Int) < n) (hy : items[j]? = some y)
    (hQ : ∀ h', ZSt h' z TI TO i1 i2 l x n step items (rawInt s.heap.objs.size) (j + 1) → IsPair h' s.heap.objs.size (.int (x + j * step) s.toks) y → h'.objs.size = s.heap.objs.size + 1 →
      (∀ c o, c ≠ z → c ≠ TO → c ≠ i1 → c ≠ i2 → s.heap.get? c = some o → h'.get? c = some o) → Q (some (.ref s.heap.objs.size)) { s with heap := h', toks := s.toks + 1 }) :
    wpAny (model prog w) A (pyNext (.ref z)) Q E s := by
  obtain ⟨hz, hTI, ⟨a, b, hTO⟩, h1, h2, hl⟩ := S
  have hT : s.TypeIs (.ref z) "zip" := ⟨_, hz, rfl⟩
  unfold pyNext
  refine wpAny_bind (wpAny_attempt (wpAny_callSpecial?_slot (name := Str.ofString "__next__") hT F.slot_zip_next
    (wpAny_call_entry F.slot_zip_next hT F.entry_zip_next ?_ (F.args_zip_next_1 _))))
  show wpAny _ _ (field (.ref z) 2 >>= _) _ _ _
  refine wpAny_bind (wpAny_field hz rfl (x := .bool false) rfl ?_)
  show wpAny _ _ (field (.ref z) 3 >>= _) _ _ _
  refine wpAny_bind (wpAny_field hz rfl (x := .ref TI) rfl ?_)
  refine wpAny_bind (wpAny_seqItems hTI rfl ?_)
  show wpAny _ _ (Builtin.SmallTypes.ownedTupleIsFree (.ref z) >>= _) _ _ _
  refine wpAny_bind ?_
  unfold Builtin.SmallTypes.ownedTupleIsFree
  refine wpAny_bind (wpAny_field hz rfl (x := .none) rfl (wpAny_pure ?_))
  simp only [if_true]
  refine wpAny_bind (wpAny_rule ?_)
  refine wpAny_bind (wpAny_field hz rfl (x := .ref TO) rfl ?_)
  refine wpAny_bind (wpAny_setField_rec hz (by simp) fun h₁ hz₁ hs₁ => ?_)
  replace hz₁ : IsZip h₁ z TI TO .ellipsis := hz₁
  refine wpAny_bind ?_
  simp only [List.zipIdx_cons, List.zipIdx_nil, List.forIn_cons, List.forIn_nil]
  refine wpAny_bind (wpAny_bind (wpAny_onRaise ?_))
  show wpAny _ _ (Builtin.SmallTypes.nextOf (.ref i1) >>= _) _ _ _
  refine wpAny_bind (rit_next (hs₁.extBut _ _ D.i1z h1) (by (first | lia | omega)) fun h₂ h1₂ hs₂ => wpAny_pure ?_)
  have hTO₂ : IsPair h₂ TO a b := hs₂.extBut _ _ D.TOi1 (hs₁.extBut _ _ D.TOz hTO)
  refine wpAny_bind (wpAny_seqItems hTO₂ rfl ?_)
  refine wpAny_bind (wpAny_updateSeq_pair hTO₂ fun h₃ hTO₃ hs₃ => ?_)
  replace hTO₃ : IsPair h₃ TO (.int (x + j * step) s.toks) b := hTO₃
  refine wpAny_bind (wpAny_letGo (wpAny_pure ?_))
  refine wpAny_bind (wpAny_bind (wpAny_onRaise ?_))
  show wpAny _ _ (Builtin.SmallTypes.nextOf (.ref i2) >>= _) _ _ _
  refine wpAny_bind (lit_next (hs₃.extBut _ _ D.TOi2.symm (hs₂.extBut _ _ D.i12.symm (hs₁.extBut _ _ D.i2z h2)))
    (((hl.extBut hs₁.extBut D.lz).extBut hs₂.extBut D.li1).extBut hs₃.extBut D.lTO) hy fun h₄ h2₄ hs₄ => wpAny_pure ?_)
  have hTO₄ : IsPair h₄ TO (.int (x + j * step) s.toks) b := hs₄.extBut _ _ D.TOi2 hTO₃
  refine wpAny_bind (wpAny_seqItems hTO₄ rfl ?_)
  refine wpAny_bind (wpAny_updateSeq_pair hTO₄ fun h₅ hTO₅ hs₅ => ?_)
  replace hTO₅ : IsPair h₅ TO (.int (x + j * step) s.toks) y := hTO₅
  refine wpAny_bind (wpAny_letGo (wpAny_pure (wpAny_pure ?_)))
  refine wpAny_bind (wpAny_seqItems hTO₅ rfl ?_)
  refine wpAny_bind (wpAny_newTuple ?_)
  have hsz : h₅.objs.size = s.heap.objs.size := by rw [hs₅.1, hs₄.1, hs₃.1, hs₂.1, hs₁.1]
  have hz₅ : IsZip h₅ z TI TO .ellipsis := hs₅.extBut _ _ D.TOz.symm (hs₄.extBut _ _ D.i2z.symm (hs₃.extBut _ _ D.TOz.symm (hs₂.extBut _ _ D.i1z.symm hz₁)))
  have hk₅ : ∀ c o, c ≠ z → c ≠ TO → c ≠ i1 → c ≠ i2 → s.heap.get? c = some o → h₅.get? c = some o := fun c o c1 c2 c3 c4 e =>
    hs₅.extBut _ _ c2 (hs₄.extBut _ _ c4 (hs₃.extBut _ _ c2 (hs₂.extBut _ _ c3 (hs₁.extBut _ _ c1 e))))
  have h1₅ : IsRangeIter h₅ i1 (x + j * step + step) (n - j - 1) step := hs₅.extBut _ _ D.TOi1.symm (hs₄.extBut _ _ D.i12 (hs₃.extBut _ _ D.TOi1.symm h1₂))
  have h2₅ : LIt h₅ i2 (.ref l) (j + 1) := hs₅.extBut _ _ D.TOi2.symm h2₄
  have hzlt : z < h₅.objs.size := Heap.lt_size hz₅
  show wpAny _ _ (Builtin.SmallTypes.ownedTupleHandOut (.ref z) (.ref h₅.objs.size) >>= _) _ _ _
  refine wpAny_bind ?_
  unfold Builtin.SmallTypes.ownedTupleHandOut
  have hz₆ : IsZip (h₅.push { cls := .type "tuple", data := .seq #[.int (x + j * step) s.toks, y] }) z TI TO .ellipsis := Heap.get?_push_of_some _ hz₅
  refine wpAny_bind (wpAny_setField_rec hz₆ (by simp) fun h₇ hz₇ hs₇ => ?_)
  replace hz₇ : IsZip h₇ z TI TO (rawInt h₅.objs.size) := hz₇
  refine wpAny_setField_rec hz₇ (by simp) fun h₈ hz₈ hs₈ => ?_
  replace hz₈ : IsZip h₈ z TI TO (rawInt h₅.objs.size) := hz₈
  have up : ∀ c o, c ≠ z → h₅.get? c = some o → h₈.get? c = some o := fun c o c1 e => hs₈.extBut _ _ c1 (hs₇.extBut _ _ c1 (Heap.get?_push_of_some _ e))
  have hT₈ : IsPair h₈ h₅.objs.size (.int (x + j * step) s.toks) y := hs₈.extBut _ _ (Nat.ne_of_gt hzlt) (hs₇.extBut _ _ (Nat.ne_of_gt hzlt) (Heap.get?_push_size _ rfl))
  have hz8 : h₈.objs.size = h₅.objs.size + 1 := by rw [hs₈.1, hs₇.1, Heap.size_push]
  rw [hsz] at hz₈ hT₈ hz8
  refine wpAny_pure ⟨_, rfl, wpAny_pure ?_⟩
  show Q (some (.ref h₅.objs.size)) _
  rw [hsz]
  have e1 : x + ((j + 1 : Nat) : Int) * step = x + (j : Int) * step + step := by push_cast; rw [Int.add_mul, Int.one_mul, Int.add_assoc]
  have e2 : n - ((j + 1 : Nat) : Int) = n - (j : Int) - 1 := by push_cast; (first | lia | omega)
  refine hQ h₈ ⟨hz₈, up _ _ D.TIz (hk₅ _ _ D.TIz D.TITO D.TIi1 D.TIi2 hTI), ⟨_, _, up _ _ D.TOz hTO₅⟩, ?_, up _ _ D.i2z h2₅, ?_⟩ hT₈ hz8 fun c o c1 c2 c3 c4 e => up c o c1 (hk₅ c o c1 c2 c3 c4 e)
  · rw [e1, e2]; exact up _ _ D.i1z h1₅
  · exact hl.at fun o e => up _ _ D.lz (hk₅ _ o D.lz D.lTO D.li1 D.li2 e)

/-- the range is through -/
theorem zip_end1 {z TI TO i1 i2 l : Addr} {x n step : Int} {items : Array Value} {j : Nat} {Q : Option Value → Shared → Prop} (hh : A.handled = none) (D : ZA z TI TO i1 i2 l)
    (S : ZSt s.heap z TI TO i1 i2 l x n step items .none j) (hj : n ≤ (j : Int))
    (hQ : ∀ h', (∀ c o, c ≠ z → s.heap.get? c = some o → h'.get? c = some o) → s.heap.objs.size ≤ h'.objs.size → Q none { s with heap := h' }) :
    wpAny (model prog w) A (pyNext (.ref z)) Q E s := by
  obtain ⟨hz, hTI, ⟨a, b, hTO⟩, h1, h2, hl⟩ := S
  have hT : s.TypeIs (.ref z) "zip" := ⟨_, hz, rfl⟩
  unfold pyNext
  refine wpAny_bind (wpAny_attempt (wpAny_callSpecial?_slot (name := Str.ofString "__next__") hT F.slot_zip_next
    (wpAny_call_entry F.slot_zip_next hT F.entry_zip_next ?_ (F.args_zip_next_1 _))))
  show wpAny _ _ (field (.ref z) 2 >>= _) _ _ _
  refine wpAny_bind (wpAny_field hz rfl (x := .bool false) rfl ?_)
  show wpAny _ _ (field (.ref z) 3 >>= _) _ _ _
  refine wpAny_bind (wpAny_field hz rfl (x := .ref TI) rfl ?_)
  refine wpAny_bind (wpAny_seqItems hTI rfl ?_)
  show wpAny _ _ (Builtin.SmallTypes.ownedTupleIsFree (.ref z) >>= _) _ _ _
  refine wpAny_bind ?_
  unfold Builtin.SmallTypes.ownedTupleIsFree
  refine wpAny_bind (wpAny_field hz rfl (x := .none) rfl (wpAny_pure ?_))
  simp only [if_true]
  refine wpAny_bind (wpAny_rule ?_)
  refine wpAny_bind (wpAny_field hz rfl (x := .ref TO) rfl ?_)
  refine wpAny_bind (wpAny_setField_rec hz (by simp) fun h₁ hz₁ hs₁ => ?_)
  replace hz₁ : IsZip h₁ z TI TO .ellipsis := hz₁
  refine wpAny_bind ?_
  simp only [List.zipIdx_cons, List.zipIdx_nil, List.forIn_cons, List.forIn_nil]
  refine wpAny_bind (wpAny_bind (wpAny_onRaise ?_))
  show wpAny _ _ (Builtin.SmallTypes.nextOf (.ref i1) >>= _) _ _ _
  refine wpAny_bind (rit_stop hh (hs₁.extBut _ _ D.i1z h1) (by (first | lia | omega)) fun h₂ e hs₂ hsz hle he => ?_)
  obtain ⟨oe, hoe, hce⟩ := he
  have hz₂ : IsZip h₂ z TI TO .ellipsis := hs₂ _ _ hz₁
  have hez : e ≠ z := fun x => by subst x; rw [hz₂] at hoe; cases hoe; simp at hce
  refine wpAny_setField_rec hz₂ (by simp) fun h₃ _ hs₃ => ?_
  refine wpAny_bind (wpAny_isInstance (T := "StopIteration") (b := true) ⟨oe, hs₃.extBut _ _ hez hoe, hce⟩ isSubtype_stop (wpAny_pure (hQ _ (fun c o c1 q => hs₃.extBut _ _ c1 (hs₂ _ _ (hs₁.extBut _ _ c1 q))) ?_)))
  show s.heap.objs.size ≤ h₃.objs.size
  rw [hs₃.1]
  exact Nat.le_trans (Nat.le_of_eq hs₁.1.symm) hsz

/-- the list is through -/
theorem zip_end2 {z TI TO i1 i2 l : Addr} {x n step : Int} {items : Array Value} {j : Nat} {Q : Option Value → Shared → Prop} (hh : A.handled = none) (D : ZA z TI TO i1 i2 l)
    (S : ZSt s.heap z TI TO i1 i2 l x n step items .none j) (hj : (j : Int) < n) (hy : items[j]? = none)
    (hQ : ∀ h', LIt h' i2 .none j → (∀ c o, c ≠ z → c ≠ TO → c ≠ i1 → c ≠ i2 → s.heap.get? c = some o → h'.get? c = some o) → s.heap.objs.size ≤ h'.objs.size → ∀ tk, Q none { s with heap := h', toks := tk }) :
    wpAny (model prog w) A (pyNext (.ref z)) Q E s := by
  obtain ⟨hz, hTI, ⟨a, b, hTO⟩, h1, h2, hl⟩ := S
  have hT : s.TypeIs (.ref z) "zip" := ⟨_, hz, rfl⟩
  unfold pyNext
  refine wpAny_bind (wpAny_attempt (wpAny_callSpecial?_slot (name := Str.ofString "__next__") hT F.slot_zip_next
    (wpAny_call_entry F.slot_zip_next hT F.entry_zip_next ?_ (F.args_zip_next_1 _))))
  show wpAny _ _ (field (.ref z) 2 >>= _) _ _ _
  refine wpAny_bind (wpAny_field hz rfl (x := .bool false) rfl ?_)
  show wpAny _ _ (field (.ref z) 3 >>= _) _ _ _
  refine wpAny_bind (wpAny_field hz rfl (x := .ref TI) rfl ?_)
  refine wpAny_bind (wpAny_seqItems hTI rfl ?_)
  show wpAny _ _ (Builtin.SmallTypes.ownedTupleIsFree (.ref z) >>= _) _ _ _
  refine wpAny_bind ?_
  unfold Builtin.SmallTypes.ownedTupleIsFree
  refine wpAny_bind (wpAny_field hz rfl (x := .none) rfl (wpAny_pure ?_))
  simp only [if_true]
  refine wpAny_bind (wpAny_rule ?_)
  refine wpAny_bind (wpAny_field hz rfl (x := .ref TO) rfl ?_)
  refine wpAny_bind (wpAny_setField_rec hz (by simp) fun h₁ hz₁ hs₁ => ?_)
  replace hz₁ : IsZip h₁ z TI TO .ellipsis := hz₁
  refine wpAny_bind ?_
  simp only [List.zipIdx_cons, List.zipIdx_nil, List.forIn_cons, List.forIn_nil]
  refine wpAny_bind (wpAny_bind (wpAny_onRaise ?_))
  show wpAny _ _ (Builtin.SmallTypes.nextOf (.ref i1) >>= _) _ _ _
  refine wpAny_bind (rit_next (hs₁.extBut _ _ D.i1z h1) (by (first | lia | omega)) fun h₂ h1₂ hs₂ => wpAny_pure ?_)
  have hTO₂ : IsPair h₂ TO a b := hs₂.extBut _ _ D.TOi1 (hs₁.extBut _ _ D.TOz hTO)
  refine wpAny_bind (wpAny_seqItems hTO₂ rfl ?_)
  refine wpAny_bind (wpAny_updateSeq_pair hTO₂ fun h₃ hTO₃ hs₃ => ?_)
  refine wpAny_bind (wpAny_letGo (wpAny_pure ?_))
  refine wpAny_bind (wpAny_bind (wpAny_onRaise ?_))
  show wpAny _ _ (Builtin.SmallTypes.nextOf (.ref i2) >>= _) _ _ _
  refine wpAny_bind (lit_stop hh (hs₃.extBut _ _ D.TOi2.symm (hs₂.extBut _ _ D.i12.symm (hs₁.extBut _ _ D.i2z h2)))
    (((hl.extBut hs₁.extBut D.lz).extBut hs₂.extBut D.li1).extBut hs₃.extBut D.lTO) hy fun h₄ e hi₄ hs₄ hsz hle he => ?_)
  obtain ⟨oe, hoe, hce⟩ := he
  have hz₄ : IsZip h₄ z TI TO .ellipsis := hs₄ _ _ D.i2z.symm (hs₃.extBut _ _ D.TOz.symm (hs₂.extBut _ _ D.i1z.symm hz₁))
  have hez : e ≠ z := fun x => by subst x; rw [hz₄] at hoe; cases hoe; simp at hce
  refine wpAny_setField_rec hz₄ (by simp) fun h₅ _ hs₅ => ?_
  refine wpAny_bind (wpAny_isInstance (T := "StopIteration") (b := true) ⟨oe, hs₅.extBut _ _ hez hoe, hce⟩ isSubtype_stop (wpAny_pure (hQ _ (hs₅.extBut _ _ D.i2z hi₄) (fun c o c1 c2 c3 c4 q => hs₅.extBut _ _ c1 (hs₄ _ _ c4 (hs₃.extBut _ _ c2 (hs₂.extBut _ _ c3 (hs₁.extBut _ _ c1 q))))) ?_ _)))
  show s.heap.objs.size ≤ h₅.objs.size
  rw [hs₅.1]
  exact Nat.le_trans (Nat.le_of_eq (hs₁.1.symm.trans (hs₂.1.symm.trans hs₃.1.symm))) hsz
end
end Mine
end
theorem Mine.start_Q1 : True := by
  w_top off
  trivial
section
open PySem PySem.W PySem.Calls PyProof.Rows
set_option maxRecDepth 100000
set_option maxHeartbeats 4000000
namespace Mine
section
variable {prog : Program} {w : World} {A : Around} {E : Value → Shared → Prop} {env : Env}
theorem append_at {s : Shared} {D : Addr} {ys : List Value} {c : Nat} {x : Value} {Q : Value → Shared → Prop} (hl : s.heap.get? D = some (listOf ys.toArray c)) (hsz : ys.length < 64)
    (hQ : ∀ h' c', h'.get? D = some (listOf (ys ++ [x]).toArray c') → Heap.SameBut D s.heap h' → Q .none { s with heap := h' }) : wpAny (model prog w) A (call (.builtin "list.append") [.ref D, x]) Q E s := by
  refine wpAny_list_append_plain (items := ys.toArray) (hsz := by rw [List.size_toArray, sizeLine_eq]; omega) ⟨c, hl⟩ fun h' hl' hs => ?_
  obtain ⟨c', e⟩ := hl'
  exact hQ h' c' (by rw [e]; simp) hs
/-- a list comprehension of one clause, K turns, by what holds behind each -/
theorem comp_block {s₂ : Shared} {it : Value} {elt target iter : PySem.Expr} {scope : Scope} {cl : List (Str × Addr)} {pos : Pos} {RR : Value → Addr → Result → Shared → Prop} (D C : Addr) (hD : D = s₂.heap.objs.size) (hC : C = s₂.heap.objs.size + 1)
    (K : Nat) (hK : K < 64) (J : Nat → List Value → Heap → Prop) (hcell : ∀ y ∈ scope.names, y.2 ≠ .cell) (hkind : scope.kind = .function)
    (start : ∀ h, Stays s₂.heap h → C < h.objs.size → J 0 [] h)
    (len : ∀ j ys h, J j ys h → ys.length = j)
    (stable : ∀ j ys h h', J j ys h → (∀ b o, b ≠ D → h.get? b = some o → h'.get? b = some o) → h.objs.size ≤ h'.objs.size → J j ys h')
    (self : ∀ h tk, J 0 [] h → ∀ (Q' : Value → Shared → Prop) (E' : Value → Shared → Prop), Q' it { s₂ with heap := h, toks := tk } → wpAny (model prog w) A (pyIter it) Q' E' { s₂ with heap := h, toks := tk })
    (turn : ∀ j ys h tk m c, j < K → J j ys h → h.Ns C m → h.get? D = some (listOf ys.toArray c) → ∀ (Q' : Value → Shared → Prop) (E' : Value → Shared → Prop),
      (∀ x h' tk' m' c', J (j + 1) (ys ++ [x]) h' → h'.Ns C m' → h'.get? D = some (listOf ys.toArray c') → Q' x { s₂ with heap := h', toks := tk' }) →
      wpAny (model prog w) A (pyNext it) (fun r s₁ => ∃ v, r = some v ∧ wpAny (model prog w) A (letOwnedTupleGo target it v) (fun _ s₀ => wpAny (model prog w) A (assign target (compEnvC scope cl C env) v) (fun _ s₅ =>
        wpAny (model prog w) A (eval elt (compEnvC scope cl C env)) Q' E' s₅) E' s₀) E' s₁) E' { s₂ with heap := h, toks := tk })
    (fin : ∀ ys h tk m c, J K ys h → h.Ns C m → h.get? D = some (listOf ys.toArray c) → ∀ (E' : Value → Shared → Prop),
      wpAny (model prog w) A (pyNext it) (fun r s₁ => r = none ∧ RR (.ref D) C (.ok .next) s₁) E' { s₂ with heap := h, toks := tk }) :
    wpAny (model prog w) A (newList []) (fun acc s₃ => wpAny (model prog w) A (newFunctionEnv scope env.globals cl [] env.qual none .none (some env)) (fun cenv s₄ =>
      codeAny (model prog w) A (.compStart (.ListComp elt [⟨target, iter, [], 0⟩] scope pos) 0 it acc { cenv with scope := relabel scope env }) (RR acc cenv.locals) s₄) E s₃) E s₂ := by
  refine wpAny_newObj_type (wpAny_newFunctionEnv hcell (by intro y hy; simp at hy) (fun h₁ hns₁ hsb₁ => ?_) hkind)
  dsimp only at hns₁ hsb₁ ⊢
  generalize hH2 : s₂.heap.push { cls := .type "list", dict := none, data := .seq ([] : List Value).toArray } = H2 at hns₁ hsb₁ ⊢
  have hC2 : H2.objs.size = s₂.heap.objs.size + 1 := by rw [← hH2, Heap.size_push]
  have hltD : ∀ b o, s₂.heap.get? b = some o → b < D := fun b o e => by rw [hD]; exact Heap.lt_size e
  have hacc0 : H2.get? D = some (listOf ([] : List Value).toArray 0) := by rw [hD, ← hH2]; exact Heap.get?_push_size _ rfl
  rw [hC2, ← hD] at hns₁ hsb₁
  rw [hC2, ← hD]
  rw [← hD] at hC
  have hDC : D ≠ D + 1 := Nat.ne_of_lt (Nat.lt_succ_self _)
  have below : ∀ b, b < D → b ≠ D + 1 ∧ b ≠ D := fun b hb => ⟨Nat.ne_of_lt (Nat.lt_succ_of_lt hb), Nat.ne_of_lt hb⟩
  have old : Stays s₂.heap h₁ := fun b o e => hsb₁.extBut b o (below b (hltD b o e)).1 (Heap.get?_push_of_some _ (hH2 ▸ Heap.get?_push_of_some _ e))
  have hacc : h₁.get? D = some (listOf ([] : List Value).toArray 0) := hsb₁.extBut _ _ hDC (Heap.get?_push_of_some _ hacc0)
  subst hC
  have hJ0 : J 0 [] h₁ := start h₁ old hns₁.lt
  have loop : codeAny (model prog w) A (.compLoop (.ListComp elt [⟨target, iter, [], 0⟩] scope pos) 0 it (.ref D) (compEnvC scope cl (D + 1) env)) (RR (.ref D) (D + 1))
      { s₂ with heap := h₁, toks := s₂.toks + ([] : List (Str × Value)).length } := by
    refine kcp_loop (fun k s' => ∃ j h tk ys m c, s' = { s₂ with heap := h, toks := tk } ∧ j ≤ K ∧ k = K + 1 - j ∧ J j ys h ∧ h.Ns (D + 1) m ∧ h.get? D = some (listOf ys.toArray c)) ?_ (K + 1) ⟨0, h₁, _, [], _, 0, rfl, Nat.zero_le _, rfl, hJ0, hns₁, hacc⟩
    rintro k s' ⟨j, h, tk, ys, m, c, rfl, hj, rfl, hJ, hn, ha⟩
    by_cases hlt : j < K
    · have hlen := len _ _ _ hJ
      refine wpAny_mono (turn j ys h tk m c hlt hJ hn ha (fun x s₄ => wpAny (model prog w) A (call (.builtin "list.append") [.ref D, x]) (fun _ s₅ => ∃ m, m < K + 1 - j ∧ ∃ j h tk ys m' c, s₅ = { s₂ with heap := h, toks := tk } ∧ j ≤ K ∧ m = K + 1 - j ∧ J j ys h ∧ h.Ns (D + 1) m' ∧ h.get? D = some (listOf ys.toArray c))
          (notedBy (model prog w) A (compEnvC scope cl (D + 1) env) fun e s' => RR (.ref D) (D + 1) (.error e) s') s₄) _ fun x h' tk' m' c' hJ' hn' ha' => ?_) (fun r s₁ h1 => ?_) fun _ _ x => x
      · refine append_at (s := { s₂ with heap := h', toks := tk' }) ha' (by omega) fun h₅ c5 hl₅ hs₅ => ?_
        exact ⟨K + 1 - (j + 1), by omega, j + 1, h₅, tk', ys ++ [x], m', c5, rfl, by omega, rfl, stable _ _ _ _ hJ' (fun b o hb e => hs₅.extBut b o hb e) (Nat.le_of_eq hs₅.1.symm), hn'.sameBut hs₅ (Ne.symm hDC), hl₅⟩
      · obtain ⟨v, rfl, h2⟩ := h1
        exact h2
    · have e : j = K := by omega
      subst e
      refine wpAny_mono (fin ys h tk m c hJ hn ha _) (fun r s₁ h1 => ?_) fun _ _ x => x
      obtain ⟨rfl, h2⟩ := h1
      exact h2
  exact codeAny_compStart_list loop (self _ _ hJ0 _ _ loop)
end
end Mine
end
theorem Mine.start_Q2 : True := by
  w_top off
  trivial
section
open PySem PySem.W PySem.Calls PyProof.Rows
set_option maxRecDepth 100000
set_option maxHeartbeats 4000000
namespace Mine
section
variable {prog : Program} {w : World} {A : Around} {E : Value → Shared → Prop} {env : Env} {s : Shared}
theorem exec_assign_comp {elt target iter : PySem.Expr} {y : Str} {py : Pos} {scope : Scope} {cl : List (Str × Addr)} {pos spos : Pos} {Q : Flow → Shared → Prop}
    (hsw : swapsWith (.ListComp elt [⟨target, iter, [], 0⟩] scope pos) (some (.Name y py)) spos.line env = pure true)
    (hclos : closureFor scope env = pure cl) (hkind : scope.kind = .function) (hnames : ∀ z ∈ scope.names, z.2 = .local → scope.names.lookup z.1 = some .local)
    (h : wpAny (model prog w) A (eval iter env) (fun xv s₁ => wpAny (model prog w) A (pyIter xv) (fun it s₂ => wpAny (model prog w) A (newList []) (fun acc s₃ => wpAny (model prog w) A (newFunctionEnv scope env.globals cl [] env.qual none .none (some env)) (fun cenv s₄ =>
      codeAny (model prog w) A (.compStart (.ListComp elt [⟨target, iter, [], 0⟩] scope pos) 0 it acc { cenv with scope := relabel scope env }) (compPost (model prog w) A E (some (assign (.Name y py) env)) (fun _ s' => Q .next s') acc cenv.locals) s₄) E s₃) E s₂) E s₁) E s)
    (hs : ∀ x, foldedSetIterable iter env x = pure x := by intro _; rfl) :
    wpAny (model prog w) A (exec (.Assign [.Name y py] (.ListComp elt [⟨target, iter, [], 0⟩] scope pos) spos) env) Q E s := by
  rw [exec_Assign_Name_used _ _ _ _ hsw]
  refine wpAny_bind (wpAny_standAt (wpAny_bind ?_))
  show wpAny _ A (do let _ ← comprehension (.ListComp elt [⟨target, iter, [], 0⟩] scope pos) scope env _ (newList []) false (eval iter env) (some (assign (.Name y py) env))) _ _ s
  exact wpAny_bind (wpAny_mono (wpAny_comprehension_free (use := some (assign (.Name y py) env)) (Q := fun _ s' => Q .next s') rfl hs hclos hkind hnames h) (fun _ s' hq => wpAny_pure (wpAny_pure hq)) fun _ _ e => e)
theorem eval_comp {elt target iter : PySem.Expr} {scope : Scope} {cl : List (Str × Addr)} {pos : Pos} {Q : Value → Shared → Prop}
    (hclos : closureFor scope env = pure cl) (hkind : scope.kind = .function) (hnames : ∀ z ∈ scope.names, z.2 = .local → scope.names.lookup z.1 = some .local)
    (h : wpAny (model prog w) A (eval iter env) (fun xv s₁ => wpAny (model prog w) A (pyIter xv) (fun it s₂ => wpAny (model prog w) A (newList []) (fun acc s₃ => wpAny (model prog w) A (newFunctionEnv scope env.globals cl [] env.qual none .none (some env)) (fun cenv s₄ =>
      codeAny (model prog w) A (.compStart (.ListComp elt [⟨target, iter, [], 0⟩] scope pos) 0 it acc { cenv with scope := relabel scope env }) (compPost (model prog w) A E none Q acc cenv.locals) s₄) E s₃) E s₂) E s₁) E s)
    (hs : ∀ x, foldedSetIterable iter env x = pure x := by intro _; rfl) :
    wpAny (model prog w) A (eval (.ListComp elt [⟨target, iter, [], 0⟩] scope pos) env) Q E s := by
  rw [eval_ListComp]
  exact wpAny_comprehension_free (use := none) rfl hs hclos hkind hnames h
/-- the end of a comprehension that is bound to a name -/
theorem post_assign {h : Heap} {tk : Nat} {C D : Addr} {mC m : Str → Option Value} {y : Str} {py : Pos} {Q : Flow → Shared → Prop} (hC : h.Ns C mC) (hne : C ≠ env.locals) (hn : h.Ns env.locals m)
    (hy : env.kindOf y = some .local) (hp : (env.scope.kind == .class || (env.scope.kind == .module && env.locals != env.globals)) = false)
    (hQ : ∀ h' tk', h'.Ns env.locals (fun z => if z = y then some (.ref D) else m z) → (∀ b o, b ≠ env.locals → b ≠ C → h.get? b = some o → h'.get? b = some o) → h.objs.size ≤ h'.objs.size → Q .next { s with heap := h', toks := tk' }) :
    compPost (model prog w) A E (some (assign (.Name y py) env)) (fun _ s' => Q .next s') (.ref D) C (.ok .next) { s with heap := h, toks := tk } := by
  show wpAny _ A (assign (.Name y py) env (.ref D)) _ _ _
  refine wpAny_assign_Name (wpAny_storeName_local hy hn (fun h₂ hn₂ hs₂ => ?_) hp)
  refine ⟨mC, hC.sameBut hs₂ hne, fun h₃ hs₃ => ?_⟩
  refine hQ h₃ _ (hn₂.sameBut hs₃ (Ne.symm hne)) (fun b o hb hc e => hs₃.extBut b o hc (hs₂.extBut b o hb e)) ?_
  rw [hs₃.1, hs₂.1]; exact Nat.le_refl _
theorem post_eval {h : Heap} {tk : Nat} {C D : Addr} {mC : Str → Option Value} {Q : Value → Shared → Prop} (hC : h.Ns C mC)
    (hQ : ∀ h', (∀ b o, b ≠ C → h.get? b = some o → h'.get? b = some o) → h.objs.size ≤ h'.objs.size → Q (.ref D) { s with heap := h', toks := tk }) :
    compPost (model prog w) A E none Q (.ref D) C (.ok .next) { s with heap := h, toks := tk } :=
  ⟨mC, hC, fun h' hs => hQ h' (fun b o hb e => hs.extBut b o hb e) (Nat.le_of_eq hs.1.symm)⟩

theorem comp_zip {z TI TO i1 i2 l : Nat} {x n step : Int} {vs : List Value} {elt iter : PySem.Expr} {a b : Str} {pa pb tp : Pos} {kk : Nat} {scope : Scope} {cl : List (Str × Addr)} {pos : Pos} {RR : Value → Addr → Result → Shared → Prop}
    (R : Nat → Obj → Prop) (hh : A.handled = none) (ZD : ZA z TI TO i1 i2 l) (S : ZSt s.heap z TI TO i1 i2 l x n step vs.toArray .none 0) (hn : n < 64) (hcell : ∀ y ∈ scope.names, y.2 ≠ .cell) (hkind : scope.kind = .function)
    (hxa : scope.names.lookup a = some .local) (hxb : scope.names.lookup b = some .local) (hab : a ≠ b)
    (helt : ∀ k v h tk m u, k < min n.toNat vs.length → vs[k]? = some v → h.Ns (s.heap.objs.size + 1) m → m a = some (.int (x + k * step) u) → m b = some v →
      (∀ c o, c ∉ [z, TO, i1, i2] → s.heap.get? c = some o → h.get? c = some o) → ∀ (Q' : Value → Shared → Prop) (E' : Value → Shared → Prop),
      (∀ T h' tk' o, Stays h h' → h.objs.size ≤ T → h'.get? T = some o → R k o → Q' (.ref T) { s with heap := h', toks := tk' }) →
      wpAny (model prog w) A (eval elt (compEnvC scope cl (s.heap.objs.size + 1) env)) Q' E' { s with heap := h, toks := tk })
    (hpost : ∀ h' tk as mC c, h'.Ns (s.heap.objs.size + 1) mC → h'.get? s.heap.objs.size = some (listOf (refs as).toArray c) → as.length = min n.toNat vs.length → as.Pairwise (· < ·) → (∀ q ∈ as, s.heap.objs.size + 2 ≤ q) →
      (∀ k q, as[k]? = some q → ∃ o, h'.get? q = some o ∧ R k o) → (∀ c o, c ∉ [z, TO, i1, i2] → s.heap.get? c = some o → h'.get? c = some o) → (n ≤ vs.length → LIt h' i2 (.ref l) (min n.toNat vs.length)) → ((vs.length : Int) < n → LIt h' i2 .none vs.length) →
      RR (.ref s.heap.objs.size) (s.heap.objs.size + 1) (.ok .next) { s with heap := h', toks := tk }) :
    wpAny (model prog w) A (pyIter (.ref z)) (fun it s₂ => wpAny (model prog w) A (newList []) (fun acc s₃ => wpAny (model prog w) A (newFunctionEnv scope env.globals cl [] env.qual none .none (some env)) (fun cenv s₄ =>
      codeAny (model prog w) A (.compStart (.ListComp elt [⟨.Tuple [.Name a pa, .Name b pb] kk tp, iter, [], 0⟩] scope pos) 0 it acc { cenv with scope := relabel scope env }) (RR acc cenv.locals) s₄) E s₃) E s₂) E s := by
  refine wpAny_pyIter_zip S.hz ?_
  have zlt : z < s.heap.objs.size := Heap.lt_size S.hz
  have TIlt : TI < s.heap.objs.size := Heap.lt_size S.hTI
  have TOlt : TO < s.heap.objs.size := by obtain ⟨_, _, e⟩ := S.hTO; exact Heap.lt_size e
  have i1lt : i1 < s.heap.objs.size := Heap.lt_size S.h1
  have i2lt : i2 < s.heap.objs.size := Heap.lt_size S.h2
  have llt : l < s.heap.objs.size := by obtain ⟨_, e, _⟩ := S.hl; exact Heap.lt_size e
  generalize hD : s.heap.objs.size = D at *
  have mem4 : ∀ c, D ≤ c → c ∉ [z, TO, i1, i2] := fun c hc q => by
    simp only [List.mem_cons, List.not_mem_nil, or_false] at q
    rcases q with rfl | rfl | rfl | rfl <;> (first | lia | omega)
  refine comp_block D (D + 1) hD.symm (by rw [hD]) (min n.toNat vs.length) (by (first | lia | omega))
    (fun j ys h => ∃ as : List Nat, ys = refs as ∧ as.length = j ∧ ZSt h z TI TO i1 i2 l x n step vs.toArray .none j ∧ as.Pairwise (· < ·) ∧ (∀ q ∈ as, D + 2 ≤ q ∧ q < h.objs.size) ∧ (∀ k q, as[k]? = some q → ∃ o, h.get? q = some o ∧ R k o) ∧
      (∀ c o, c ∉ [z, TO, i1, i2] → s.heap.get? c = some o → h.get? c = some o) ∧ D + 2 ≤ h.objs.size) hcell hkind ?_ ?_ ?_ ?_ ?_ ?_
  · intro h st hlt
    exact ⟨[], rfl, rfl, S.keep fun b o _ e => st b o e, .nil, by simp, by simp, fun c o _ e => st c o e, hlt⟩
  · rintro j ys h ⟨as, rfl, hl, -⟩; rw [refs_length, hl]
  · rintro j ys h h' ⟨as, h1, h2, h3, h4, h5, h6, h7, h8⟩ k hsz
    refine ⟨as, h1, h2, h3.keep fun b o hb e => k b o ?_ e, h4, fun q hq => ⟨(h5 q hq).1, Nat.lt_of_lt_of_le (h5 q hq).2 hsz⟩, fun i q hq => ?_, fun c o hc e => k c o ?_ (h7 c o hc e), Nat.le_trans h8 hsz⟩
    · simp only [List.mem_cons, List.not_mem_nil, or_false] at hb
      rcases hb with rfl | rfl | rfl | rfl | rfl | rfl <;> exact neN (by (first | lia | omega))
    · obtain ⟨o, ho, hr⟩ := h6 i q hq
      exact ⟨o, k q o (neN (by have := (h5 q (List.mem_of_getElem? hq)).1; (first | lia | omega))) ho, hr⟩
    · have := ltN (Heap.lt_size e); exact neN (by (first | lia | omega))
  · rintro h tk ⟨as, -, -, h3, -⟩ Q' E' hq
    exact wpAny_pyIter_zip h3.hz hq
  · rintro j ys h tk m c hj ⟨as, rfl, h2, h3, h4, h5, h6, h7, h8⟩ hns hacc Q' E' hQ'
    have hjv : j < vs.length := by (first | lia | omega)
    refine zip_item ZD h3 (by (first | lia | omega)) (y := vs[j]) (by simp [hjv]) fun h₁ hz₁ hp₁ hsz₁ hk₁ => ?_
    refine ⟨_, rfl, wpAny_letOwnedTupleGo_zip hz₁.hz fun h₂ hz₂ hs₂ => ?_⟩
    have k12 : ∀ b o, b ≠ z → h₁.get? b = some o → h₂.get? b = some o := fun b o hb e => hs₂.extBut b o hb e
    have S₂ : ZSt h₂ z TI TO i1 i2 l x n step vs.toArray .none (j + 1) := by
      obtain ⟨_, q1, ⟨qa, qb, q2⟩, q3, q4, q5⟩ := hz₁
      exact ⟨hz₂, k12 _ _ ZD.TIz q1, ⟨qa, qb, k12 _ _ ZD.TOz q2⟩, k12 _ _ ZD.i1z q3, k12 _ _ ZD.i2z q4, q5.at fun o e => k12 _ _ ZD.lz e⟩
    have keep2 : ∀ b o, b ∉ [z, TO, i1, i2] → h.get? b = some o → h₂.get? b = some o := fun b o hb e => by
      simp only [List.mem_cons, List.not_mem_nil, or_false, not_or] at hb
      exact k12 b o hb.1 (hk₁ b o hb.1 hb.2.1 hb.2.2.1 hb.2.2.2 e)
    have sz2 : h₂.objs.size = h.objs.size + 1 := by rw [hs₂.1]; exact hsz₁
    have hzne : h.objs.size ≠ z := by (first | lia | omega)
    have hT₂ : h₂.IsTuple h.objs.size #[.int (x + j * step) tk, vs[j]] := ⟨_, k12 _ _ hzne hp₁, rfl, _, rfl⟩
    refine kcp_assign (env := compEnvC scope cl (D + 1) env) hh hT₂ (lookup_relabel_local hxa) (lookup_relabel_local hxb) (by simp [compEnvC, relabel, hkind]) (hns.at' fun o e => keep2 _ o (mem4 _ (Nat.le_succ _)) e) fun h₃ tk₃ hn₃ hs₃ => ?_
    have keep3 : ∀ b o, b ∉ [z, TO, i1, i2] → b ≠ D + 1 → h.get? b = some o → h₃.get? b = some o := fun b o hb hc e => hs₃ b o hc (keep2 b o hb e)
    have S₃ : ZSt h₃ z TI TO i1 i2 l x n step vs.toArray .none (j + 1) := S₂.keep fun b o hb e => hs₃ b o (by
      simp only [List.mem_cons, List.not_mem_nil, or_false] at hb
      show b ≠ D + 1
      rcases hb with rfl | rfl | rfl | rfl | rfl | rfl <;> exact neN (by (first | lia | omega))) e
    have sz3 : h.objs.size ≤ h₃.objs.size := by
      have e1 := hs₃ _ _ (neN (by (first | lia | omega)) : h.objs.size ≠ D + 1) (k12 _ _ hzne hp₁)
      exact Nat.le_of_lt (Heap.lt_size e1)
    refine helt j vs[j] h₃ _ _ tk hj (by simp [hjv]) hn₃ (by rw [if_neg hab, if_pos rfl]) (by rw [if_pos rfl]) (fun c o hc e => keep3 c o hc (neN (by have := ltN (Heap.lt_size e); (first | lia | omega))) (h7 c o hc e)) Q' E' fun T h₄ tk₄ o hs₄ hT hTo hR => ?_
    have hTlt := ltN (Heap.lt_size hTo)
    have sz4 : h₃.objs.size ≤ h₄.objs.size := by (first | lia | omega)
    refine hQ' (.ref T) h₄ tk₄ _ c ⟨as ++ [T], by simp [refs], by simp [h2], S₃.keep fun b o _ e => hs₄ b o e, ?_, ?_, ?_, fun c o hc e => hs₄ c o (keep3 c o hc (neN (by have := ltN (Heap.lt_size e); (first | lia | omega))) (h7 c o hc e)), by (first | lia | omega)⟩ (hn₃.keeps hs₄) (hs₄ _ _ (keep3 _ _ (mem4 _ (Nat.le_refl _)) (neN (by (first | lia | omega))) hacc))
    · rw [List.pairwise_append]
      exact ⟨h4, List.pairwise_singleton _ _, fun q hq r hr => by rw [List.mem_singleton.mp hr]; have := (h5 q hq).2; (first | lia | omega)⟩
    · intro q hq
      rcases List.mem_append.mp hq with hq | hq
      · have := h5 q hq; exact ⟨this.1, by (first | lia | omega)⟩
      · rw [List.mem_singleton.mp hq]; exact ⟨by (first | lia | omega), hTlt⟩
    · intro k q hq
      rcases Nat.lt_trichotomy k as.length with hk | hk | hk
      · rw [List.getElem?_append_left hk] at hq
        obtain ⟨o', ho', hr'⟩ := h6 k q hq
        have hqr := h5 q (List.mem_of_getElem? hq)
        exact ⟨o', hs₄ _ _ (keep3 _ _ (mem4 _ (by (first | lia | omega))) (neN (by (first | lia | omega))) ho'), hr'⟩
      · subst hk
        simp only [List.getElem?_append_right (Nat.le_refl _), Nat.sub_self, List.getElem?_cons_zero, Option.some.injEq] at hq
        subst hq
        exact ⟨o, hTo, by rw [h2]; exact hR⟩
      · rw [List.getElem?_eq_none (by rw [List.length_append, List.length_singleton]; (first | lia | omega))] at hq; cases hq
  · rintro ys h tk m c ⟨as, rfl, h2, h3, h4, h5, h6, h7, h8⟩ hns hacc E'
    have tup : ∀ h' : Heap, (∀ b o, b ∉ [z, TO, i1, i2] → h.get? b = some o → h'.get? b = some o) → (∀ k q, as[k]? = some q → ∃ o, h'.get? q = some o ∧ R k o) := fun h' kp k q hq => by
      obtain ⟨o', ho', hr'⟩ := h6 k q hq
      have hqr := h5 q (List.mem_of_getElem? hq)
      exact ⟨o', kp _ _ (mem4 _ (by (first | lia | omega))) ho', hr'⟩
    by_cases hnv : n ≤ vs.length
    · refine zip_end1 hh ZD h3 (by (first | lia | omega)) fun h' hk hsz => ?_
      have kp : ∀ b o, b ∉ [z, TO, i1, i2] → h.get? b = some o → h'.get? b = some o := fun b o hb e => hk b o (fun q => hb (by rw [q]; exact .head _)) e
      exact ⟨rfl, hpost h' tk as m c (hns.at' fun o e => kp _ _ (mem4 _ (Nat.le_succ _)) e) (kp _ _ (mem4 _ (Nat.le_refl _)) hacc) h2 h4 (fun q hq => (h5 q hq).1) (tup h' kp) (fun c o hc e => kp c o hc (h7 c o hc e)) (fun _ => hk _ _ ZD.i2z h3.h2) (fun q => absurd q (by (first | lia | omega)))⟩
    · have hmin : min n.toNat vs.length = vs.length := by (first | lia | omega)
      rw [hmin] at h3
      refine zip_end2 hh ZD h3 (by (first | lia | omega)) (by simp) fun h' hit hk hsz tk' => ?_
      have kp : ∀ b o, b ∉ [z, TO, i1, i2] → h.get? b = some o → h'.get? b = some o := fun b o hb e => by
        simp only [List.mem_cons, List.not_mem_nil, or_false, not_or] at hb
        exact hk b o hb.1 hb.2.1 hb.2.2.1 hb.2.2.2 e
      exact ⟨rfl, hpost h' tk' as m c (hns.at' fun o e => kp _ _ (mem4 _ (Nat.le_succ _)) e) (kp _ _ (mem4 _ (Nat.le_refl _)) hacc) h2 h4 (fun q hq => (h5 q hq).1) (tup h' kp) (fun c o hc e => kp c o hc (h7 c o hc e)) (fun q => absurd q hnv) (fun _ => hit)⟩
end
end Mine
end
theorem Mine.start_Z3 : True := by
  w_top off
  trivial
section
open PySem PySem.W PySem.Calls PyProof.Rows
set_option maxRecDepth 100000
set_option maxHeartbeats 4000000
namespace Mine
abbrev zq1 (h : Heap) (a n c : Int) : Heap := h.push { cls := .type "range_iterator", data := .fields #[rawInt a, rawInt n, rawInt c] }
abbrev zq2 (h : Heap) (a n c : Int) (it : Addr) : Heap := (zq1 h a n c).push { cls := .type "tuple", data := .seq #[.ref h.objs.size, .ref it] }
abbrev zq3 (h : Heap) (a n c : Int) (it : Addr) : Heap := (zq2 h a n c it).push { cls := .type "tuple", data := .seq #[.none, .none] }
abbrev zq4 (h : Heap) (a n c : Int) (it : Addr) : Heap := (zq3 h a n c it).push { cls := .type "zip", data := .fields #[.none, .bool false, .bool false, .ref (zq1 h a n c).objs.size, .ref (zq2 h a n c it).objs.size] }
theorem meets_zip_ri (r it : Addr) (a b c : Int) (t u v : Tok) (i : Nat) (f : Value) (hsmall : Builtin.Range.small a b c = true) :
    Meets (Builtin.«zip.__new__» ⟨[.type "zip", .ref r, .ref it], []⟩) (fun _ R s => IsRange s.heap r a b c t u v ∧ LIt s.heap it f i ∧
      R (.ok (.ret (.ref (zq3 s.heap a (Builtin.Range.rangeSize a b c) c it).objs.size))) { s with heap := zq4 s.heap a (Builtin.Range.rangeSize a b c) c it }) :=
  .of_wp fun prog w A R s h => by
    obtain ⟨hp, g, d, tk, os⟩ := s; obtain ⟨hl1, hl2, h⟩ := h
    have hsub := sub_zip
    have hL1 : IsRange (Shared.heap ⟨hp, g, d, tk, os⟩) r a b c t u v := hl1
    have hL2 : LIt (Shared.heap ⟨zq1 hp a (Builtin.Range.rangeSize a b c) c, g, d, tk, os⟩) it f i := Heap.get?_push_of_some _ hl2
    wp_walk using wpAny_pyIter_range hL1 hsmall, lit_pyIter hL2
    exact ⟨_, rfl, h⟩
section
variable {prog : Program} {w : World} {A : Around} {E : Value → Shared → Prop} {s : Shared}
theorem call_zip_ri {r it : Addr} {a b c : Int} {t u v : Tok} {i : Nat} {f : Value} {Q : Value → Shared → Prop} (hsmall : Builtin.Range.small a b c = true) (hr : IsRange s.heap r a b c t u v) (hit : LIt s.heap it f i)
    (h : ∀ h', IsZip h' (s.heap.objs.size + 3) (s.heap.objs.size + 1) (s.heap.objs.size + 2) .none → IsPair h' (s.heap.objs.size + 1) (.ref s.heap.objs.size) (.ref it) →
      IsPair h' (s.heap.objs.size + 2) .none .none → IsRangeIter h' s.heap.objs.size a (Builtin.Range.rangeSize a b c) c → h'.objs.size = s.heap.objs.size + 4 →
      Stays s.heap h' → Q (.ref (s.heap.objs.size + 3)) { s with heap := h' }) :
    wpAny (model prog w) A (call (.type "zip") [.ref r, .ref it]) Q E s := by
  refine callType_new F.called_zip (by decide) (F.typeCall_zip_2 _ _) (F.newCall_zip_2 _ _) (fun obj => F.args_object_init_3 obj _ _) F.entry_zip_new
    (meets_zip_ri r it a b c t u v i f hsmall) ⟨hr, hit, ?_⟩
  generalize Builtin.Range.rangeSize a b c = n at *
  have z1 : (zq1 s.heap a n c).objs.size = s.heap.objs.size + 1 := Heap.size_push ..
  have z2 : (zq2 s.heap a n c it).objs.size = s.heap.objs.size + 2 := by rw [Heap.size_push, z1]
  have z3 : (zq3 s.heap a n c it).objs.size = s.heap.objs.size + 3 := by rw [Heap.size_push, z2]
  have z4 : (zq4 s.heap a n c it).objs.size = s.heap.objs.size + 4 := by rw [Heap.size_push, z3]
  have g4 : (zq4 s.heap a n c it).get? (zq3 s.heap a n c it).objs.size = some _ := Heap.get?_push_size _ rfl
  have g3 : (zq4 s.heap a n c it).get? (zq2 s.heap a n c it).objs.size = some _ := Heap.get?_push_of_some _ (Heap.get?_push_size _ rfl)
  have g2 : (zq4 s.heap a n c it).get? (zq1 s.heap a n c).objs.size = some _ := Heap.get?_push_of_some _ (Heap.get?_push_of_some _ (Heap.get?_push_size _ rfl))
  have g1 : (zq4 s.heap a n c it).get? s.heap.objs.size = some _ := Heap.get?_push_of_some _ (Heap.get?_push_of_some _ (Heap.get?_push_of_some _ (Heap.get?_push_size _ rfl)))
  show _ ∧ _
  rw [z1, z2, z3] at g4
  rw [z2] at g3
  rw [z1] at g2
  rw [z3]
  exact ⟨⟨_, g4, rfl⟩, h _ g4 g2 g3 g1 z4 fun c o x => Heap.get?_push_of_some _ (Heap.get?_push_of_some _ (Heap.get?_push_of_some _ (Heap.get?_push_of_some _ x)))⟩
end
end Mine
end
theorem Mine.start_P1 : True := by
  w_top off
  trivial
section
open PySem PySem.W PySem.Calls PyProof.Rows
set_option maxRecDepth 100000
set_option maxHeartbeats 4000000
namespace Mine
section
variable {w : World} {A : Around} {E : Value → Shared → Prop} {s : Shared} {g : Heap}
/-- the first block of nsmallest and nlargest: result = [.. for i, elem in zip(range, it)] -/
theorem zip_comp {env : Env} {L L' cA I l rg c0 : Nat} {oL cell : Obj} {a b st : Int} {t u v : Tok} {m : Str → Option Value} {vs : List Value} {elt iter : PySem.Expr} {pa pb tp py pos : Pos} {kk : Nat} {scope : Scope} {cl : List (Str × Addr)} {QN : Shared → Prop}
    (R : Nat → Obj → Prop) (hh : A.handled = none) (hsmall : Builtin.Range.small a b st = true) (hn : (Builtin.Range.rangeSize a b st : Int) < 64) (hr : IsRange s.heap rg a b st t u v)
    (F : Fr g L' s.heap m) (N : News g L' s.heap [(L, oL), (cA, cell), (I, litObj (.ref l) 0)]) (hIL : I ≠ L) (hIc : I ≠ cA) (hl : g.get? l = some (listOf vs.toArray c0))
    (hloc : env.locals = L') (hy : env.kindOf (Str.ofString "result") = some .local) (hp : (env.scope.kind == .class || (env.scope.kind == .module && env.locals != env.globals)) = false)
    (hcell : ∀ y ∈ scope.names, y.2 ≠ .cell) (hkind : scope.kind = .function) (hxa : scope.names.lookup (Str.ofString "i") = some .local) (hxb : scope.names.lookup (Str.ofString "elem") = some .local)
    (helt : ∀ (C : Nat) k v h tk mC u, k < min (Builtin.Range.rangeSize a b st).toNat vs.length → vs[k]? = some v → h.Ns C mC → mC (Str.ofString "i") = some (.int (a + k * st) u) → mC (Str.ofString "elem") = some v →
      Stays g h → h.Ns L' m → h.get? L = some oL → h.get? cA = some cell → ∀ (Q' : Value → Shared → Prop) (E' : Value → Shared → Prop),
      (∀ T h' tk' o, Stays h h' → h.objs.size ≤ T → h'.get? T = some o → R k o → Q' (.ref T) { s with heap := h', toks := tk' }) →
      wpAny (model PySem.Challenge.rw_mq0307_01.row.prog w) A (eval elt (compEnvC scope cl C env)) Q' E' { s with heap := h, toks := tk })
    (post : ∀ h' tk' as (D : Nat) c f (j : Nat), Fr g L' h' (fun z => if z = Str.ofString "result" then some (.ref D) else m z) → News g L' h' [(D, listOf (refs as).toArray c), (I, litObj f j), (L, oL), (cA, cell)] → 
      D ≠ I → D ≠ L → D ≠ cA → as.length = min (Builtin.Range.rangeSize a b st).toNat vs.length → as.Pairwise (· < ·) → (∀ q ∈ as, s.heap.objs.size < q ∧ q ≠ D) → (∀ k q, as[k]? = some q → ∃ o, h'.get? q = some o ∧ R k o) →
      (Builtin.Range.rangeSize a b st ≤ vs.length → f = .ref l ∧ j = as.length) → ((vs.length : Int) < Builtin.Range.rangeSize a b st → f = .none) →
      QN { s with heap := h', toks := tk' }) :
    wpAny (model PySem.Challenge.rw_mq0307_01.row.prog w) A (call (.type "zip") [.ref rg, .ref I]) (fun xv s₁ => wpAny (model PySem.Challenge.rw_mq0307_01.row.prog w) A (pyIter xv) (fun it s₂ => wpAny (model PySem.Challenge.rw_mq0307_01.row.prog w) A (newList []) (fun acc s₃ =>
      wpAny (model PySem.Challenge.rw_mq0307_01.row.prog w) A (newFunctionEnv scope env.globals cl [] env.qual none .none (some env)) (fun cenv s₄ =>
      codeAny (model PySem.Challenge.rw_mq0307_01.row.prog w) A (.compStart (.ListComp elt [⟨.Tuple [.Name (Str.ofString "i") pa, .Name (Str.ofString "elem") pb] kk tp, iter, [], 0⟩] scope pos) 0 it acc { cenv with scope := relabel scope env })
        (compPost (model PySem.Challenge.rw_mq0307_01.row.prog w) A E (some (assign (.Name (Str.ofString "result") py) env)) (fun _ s' => QN s') acc cenv.locals) s₄) E s₃) E s₂) E s₁) E s := by
  have zI := N _ (.tail _ (.tail _ (.head _)))
  have zL := N _ (.head _)
  have zc := N _ (.tail _ (.head _))
  refine call_zip_ri hsmall hr zI.1 fun h1 hz hTI hTO hri hsz st1 => ?_
  generalize hS : s.heap.objs.size = M at *
  have hlt : ∀ (b' : Nat) o, s.heap.get? b' = some o → b' < M := fun b' o e => by rw [← hS]; exact ltN (Heap.lt_size e)
  have hIlt : I < M := hlt _ _ zI.1
  have hLlt : L < M := hlt _ _ zL.1
  have hclt : cA < M := hlt _ _ zc.1
  have hllt : l < M := hlt _ _ (F.keep _ _ hl)
  have hlI : l ≠ I := fun q => by rw [q, zI.2.2] at hl; cases hl
  have hL'lt : L' < M := by rw [← hS]; exact ltN F.ns.lt
  have hD : ZA (M + 3) (M + 1) (M + 2) M I l := by constructor <;> exact neN (by (first | lia | omega))
  have hS0 : ZSt h1 (M + 3) (M + 1) (M + 2) M I l a (Builtin.Range.rangeSize a b st) st vs.toArray .none 0 := by
    refine ⟨hz, hTI, ⟨_, _, hTO⟩, ?_, st1 _ _ zI.1, ⟨_, st1 _ _ (F.keep _ _ hl), rfl, c0, rfl⟩⟩
    have e1 : a + ((0 : Nat) : Int) * st = a := by (first | lia | omega)
    have e2 : (Builtin.Range.rangeSize a b st : Int) - ((0 : Nat) : Int) = Builtin.Range.rangeSize a b st := by (first | lia | omega)
    rw [e1, e2]; exact hri
  have mem4 : ∀ c : Nat, c < M → c ≠ I → c ∉ [M + 3, M + 2, M, I] := fun c hc hi q => by
    simp only [List.mem_cons, List.not_mem_nil, or_false] at q
    rcases q with rfl | rfl | rfl | rfl <;> (first | lia | omega)
  have gI : ∀ b' o, g.get? b' = some o → b' ≠ I := fun b' o e q => by have := zI.2.2; rw [q, this] at e; cases e
  have hL'I : L' ≠ I := fun q => zI.2.1 q.symm
  refine comp_zip (s := { s with heap := h1 }) R hh hD hS0 hn hcell hkind hxa hxb (by decide) (fun k v h tk mC u hk hv hnC h1' h2' keep Q' E' hQ' => ?_) fun h' tk as mC c hnC hac hal hap haq hao keep he1 he2 => ?_
  · have kp : ∀ b' o, b' ≠ I → s.heap.get? b' = some o → h.get? b' = some o := fun b' o hb e => keep b' o (mem4 b' (hlt b' o e) hb) (st1 b' o e)
    refine helt _ k v h tk mC u hk hv hnC h1' h2' (fun b' o e => kp b' o (gI b' o e) (F.keep b' o e)) (F.ns.at' fun o e => kp _ o hL'I e) (kp _ _ (Ne.symm hIL) zL.1) (kp _ _ (Ne.symm hIc) zc.1) Q' E' hQ'
  · have kp : ∀ b' o, b' ≠ I → s.heap.get? b' = some o → h'.get? b' = some o := fun b' o hb e => keep b' o (mem4 b' (hlt b' o e) hb) (st1 b' o e)
    have eD : h1.objs.size = M + 4 := hsz
    dsimp only at hnC hac haq ⊢
    rw [eD] at hnC hac haq ⊢
    have nL : h'.Ns env.locals m := by rw [hloc]; exact F.ns.at' fun o e => kp _ o hL'I e
    refine post_assign (Q := fun _ s' => QN s') (m := m) hnC (by rw [hloc]; exact neN (by (first | lia | omega))) nL hy hp fun h2 tk2 hns2 hk2 hsz2 => ?_
    rw [hloc] at hns2 hk2
    have k2 : ∀ b' o, b' ≠ L' → b' ≠ M + 5 → h'.get? b' = some o → h2.get? b' = some o := fun b' o x y e => hk2 b' o x y e
    have kb : ∀ b' o, b' ≠ I → b' ≠ L' → s.heap.get? b' = some o → h2.get? b' = some o := fun b' o x y e => k2 b' o y (neN (by have : (b' : Nat) < M := hlt b' o e; (first | lia | omega))) (kp b' o x e)
    have gL' : ∀ b' o, g.get? b' = some o → b' ≠ L' := fun b' o e q => absurd (Nat.lt_of_lt_of_le (Heap.lt_size e) F.above) (by rw [q]; exact Nat.lt_irrefl _)
    have gM : ∀ x : Nat, M ≤ x → g.get? x = none := fun x hx => by
      cases q : g.get? x with
      | none => rfl
      | some o => have := hlt _ _ (F.keep _ _ q); (first | lia | omega)
    have F2 : Fr g L' h2 (fun z => if z = Str.ofString "result" then some (.ref (M + 4)) else m z) := ⟨hns2, fun b' o e => kb b' o (gI b' o e) (gL' b' o e) (F.keep b' o e), F.above⟩
    have hit : ∃ f j, h2.get? I = some (litObj f j) ∧ (Builtin.Range.rangeSize a b st ≤ vs.length → f = .ref l ∧ j = as.length) ∧ ((vs.length : Int) < Builtin.Range.rangeSize a b st → f = .none) := by
      by_cases q : Builtin.Range.rangeSize a b st ≤ (vs.length : Int)
      · exact ⟨_, _, k2 _ _ (Ne.symm hL'I) (neN (by (first | lia | omega))) (he1 q), fun _ => ⟨rfl, hal.symm⟩, fun q' => absurd q' (by (first | lia | omega))⟩
      · exact ⟨_, _, k2 _ _ (Ne.symm hL'I) (neN (by (first | lia | omega))) (he2 (by (first | lia | omega))), fun q' => absurd q' q, fun _ => rfl⟩
    obtain ⟨f, j, hI2, hj1, hj2⟩ := hit
    refine post h2 tk2 as (M + 4) c f j F2 (fun p hp => ?_) (neN (by (first | lia | omega))) (neN (by (first | lia | omega))) (neN (by (first | lia | omega))) hal hap (fun q hq => ⟨by have := haq q hq; (first | lia | omega), by have := haq q hq; exact neN (by (first | lia | omega))⟩) (fun k q hq => ?_) hj1 hj2
    · rcases List.mem_cons.mp hp with rfl | hp
      · exact ⟨k2 _ _ (neN (by (first | lia | omega))) (neN (by (first | lia | omega))) hac, neN (by (first | lia | omega)), gM _ (by (first | lia | omega))⟩
      rcases List.mem_cons.mp hp with rfl | hp
      · exact ⟨hI2, zI.2⟩
      rcases List.mem_cons.mp hp with rfl | hp
      · exact ⟨kb _ _ (Ne.symm hIL) zL.2.1 zL.1, zL.2⟩
      · cases List.mem_singleton.mp hp
        exact ⟨kb _ _ (Ne.symm hIc) zc.2.1 zc.1, zc.2⟩
    · obtain ⟨o, ho, hR⟩ := hao k q hq
      have := haq q (List.mem_of_getElem? hq)
      exact ⟨o, k2 _ _ (neN (by (first | lia | omega))) (neN (by (first | lia | omega))) ho, hR⟩
end
end Mine
end
theorem Mine.start_C5 : True := by
  w_top off
  trivial
section
open PySem PySem.W PySem.Calls PyProof.Rows
set_option maxRecDepth 100000
set_option maxHeartbeats 4000000
namespace Mine
theorem rs_up {n : Int} : Builtin.Range.rangeSize 0 n 1 = if 0 < n then n else 0 := by
  unfold Builtin.Range.rangeSize
  rw [if_pos (by decide)]
  split
  · rw [Int.ediv_one]; (first | lia | omega)
  · rfl
theorem rs_dn {n : Int} : Builtin.Range.rangeSize 0 (-n) (-1) = if 0 < n then n else 0 := by
  unfold Builtin.Range.rangeSize
  rw [if_neg (by decide)]
  split
  · rename_i h
    rw [if_pos (by (first | lia | omega)), show (-(-1 : Int)) = 1 from rfl, Int.ediv_one]; (first | lia | omega)
  · rename_i h
    rw [if_neg (by (first | lia | omega))]
theorem small_all {P : Int → Bool} (h : (List.range 65).all (fun i => P ((i : Int) - 1)) = true) {n : Int} (h0 : -1 ≤ n) (h1 : n < 64) : P n = true := by
  have := List.all_eq_true.mp h (n + 1).toNat (List.mem_range.mpr (by (first | lia | omega)))
  have e : (((n + 1).toNat : Nat) : Int) - 1 = n := by (first | lia | omega)
  rwa [e] at this
theorem small_up {n : Int} (h0 : -1 ≤ n) (h1 : n < 64) : Builtin.Range.small 0 n 1 = true := small_all (P := fun n => Builtin.Range.small 0 n 1) (by decide +kernel) h0 h1
theorem small_dn {n : Int} (h0 : -1 ≤ n) (h1 : n < 64) : Builtin.Range.small 0 (-n) (-1) = true := small_all (P := fun n => Builtin.Range.small 0 (-n) (-1)) (by decide +kernel) h0 h1
section
variable {w : World} {E : Value → Shared → Prop} {s : Shared} {g : Heap}
theorem no_self {L' : Addr} {h : Heap} {m : Str → Option Value} (F : Fr g L' h m) : g.get? L' = none := by
  cases q : g.get? L' with
  | none => rfl
  | some o => exact absurd (Nat.lt_of_lt_of_le (Heap.lt_size q) F.above) (Nat.lt_irrefl _)
/-- a call that changes the list at l alone, made two frames deep -/
theorem mutC {k dp un : Nat} {gd : Option (List Code)} {env env1 : Env} {L L' l f : Addr} {oL o o' : Obj} {m : Str → Option Value} {mean : ExcName → Option Value} {mg mb : Str → Option Value} {C : Heap → Prop} {v : Value} {args : List Value} {rest : List (Addr × Obj)} {Q : Value → Shared → Prop}
    (S : MutSpec k w f args l o o' C v)
    (X : (hd.heap_39 w.params).In g) (T : Top hd.view_39 (looseW hd.view_39 [Str.ofString "nsmallest", Str.ofString "nlargest"]) mean mg mb g)
    (F : Fr g L' s.heap m) (N : News g L' s.heap ((l, o) :: rest)) (hLr : (L, oL) ∈ rest) (hoL : ∀ vs, oL.data ≠ .fields vs) (hne : ∀ p ∈ rest, p.1 ≠ l) (hC : C (hideAll s.heap [l]))
    (hf : env.frame = some L') (hk : env.scope.kind = .function) (hf1 : env1.frame = some L) (hk1 : env1.scope.kind = .function)
    (hdp : dp + (k + 1) < recursionLimit) (hun : un + 60 * (k + 1) < cLine)
    (ret : ∀ h' tk', Fr g L' h' m → News g L' h' ((l, o') :: rest) → Stays (hideAll s.heap [l]) h' → s.heap.objs.size ≤ h'.objs.size → Q v { s with heap := h', toks := tk' }) :
    wpAny (model PySem.Challenge.rw_mq0307_01.row.prog w) ((AR dp un gd [env1]).deeper env) (call (.ref f) args) Q E s := by
  have z := N _ (.head _)
  have zL := N _ (.tail _ hLr)
  have st := stays_ground F N
  obtain ⟨o1, es, ep, ho1, r1⟩ := F.ns
  have hL1 : (hideAll s.heap [l]).get? L' = some o1 := hideAll_get _ ho1 fun q => z.2.1 (List.mem_singleton.mp q).symm
  have hL2 : (hideAll s.heap [l]).get? L = some oL := hideAll_get _ zL.1 fun q => hne _ hLr (List.mem_singleton.mp q)
  refine S _ (hideAll s.heap [l]) s Q E (gr_of X T st (no_self F) ⟨o1, es, ep, hL1, r1⟩ hL2 hoL zL.2.2 hf hk hf1 hk1 hdp hun) (stays_hide _ _) (Nat.le_of_eq (hideAll_size _ _)) (hideAll_none _ (.head _)) z.1 hC fun h' tk' a1 a2 a3 => ?_
  refine ret h' tk' ⟨⟨o1, es, ep, a1 _ _ hL1, r1⟩, fun b x e => a1 b x (st b x e), F.above⟩ (fun p hp => ?_) a1 a2
  rcases List.mem_cons.mp hp with rfl | hp
  · exact ⟨a3, z.2⟩
  · exact ⟨a1 _ _ (hideAll_get _ (N p (.tail _ hp)).1 fun q => hne p hp (List.mem_singleton.mp q)), (N p (.tail _ hp)).2⟩
/-- a call that changes nothing, made two frames deep -/
theorem pureC {k dp un : Nat} {gd : Option (List Code)} {env env1 : Env} {L L' f : Addr} {oL : Obj} {m : Str → Option Value} {mean : ExcName → Option Value} {mg mb : Str → Option Value} {v : Tok → Value} {args : List Value} {news : List (Addr × Obj)} {Q : Value → Shared → Prop}
    (S : PureSpec k w f args v)
    (X : (hd.heap_39 w.params).In g) (T : Top hd.view_39 (looseW hd.view_39 [Str.ofString "nsmallest", Str.ofString "nlargest"]) mean mg mb g)
    (F : Fr g L' s.heap m) (N : News g L' s.heap news) (hLr : (L, oL) ∈ news) (hoL : ∀ vs, oL.data ≠ .fields vs)
    (hf : env.frame = some L') (hk : env.scope.kind = .function) (hf1 : env1.frame = some L) (hk1 : env1.scope.kind = .function)
    (hdp : dp + (k + 1) < recursionLimit) (hun : un + 60 * (k + 1) < cLine)
    (ret : ∀ h' tk' t, Fr g L' h' m → News g L' h' news → Stays s.heap h' → s.heap.objs.size ≤ h'.objs.size → Q (v t) { s with heap := h', toks := tk' }) :
    wpAny (model PySem.Challenge.rw_mq0307_01.row.prog w) ((AR dp un gd [env1]).deeper env) (call (.ref f) args) Q E s := by
  have zL := N _ hLr
  obtain ⟨o1, es, ep, ho1, r1⟩ := F.ns
  refine S _ s Q E (gr_of X T F.keep (no_self F) ⟨o1, es, ep, ho1, r1⟩ zL.1 hoL zL.2.2 hf hk hf1 hk1 hdp hun) fun h' tk' t a1 a2 => ?_
  exact ret h' tk' t ⟨⟨o1, es, ep, a1 _ _ ho1, r1⟩, fun b x e => a1 b x (F.keep b x e), F.above⟩ (fun p hp => ⟨a1 _ _ (N p hp).1, (N p hp).2⟩) a1 a2
/-- a for over the iterator of a list -/
theorem for_lit {A : Around} {env : Env} {it : Addr} {vs : List Value} {x : Str} {px pos : Pos} {body : List Stmt} {iter : PySem.Expr} {QN : Shared → Prop} {Q : Flow → Shared → Prop} (hQ : ∀ s', QN s' → Q .next s') (j0 : Nat) (hj0 : j0 ≤ vs.length) (J : Nat → Shared → Prop)
    (hev : wpAny (model PySem.Challenge.rw_mq0307_01.row.prog w) A (eval iter env) (fun v s₁ => wpAny (model PySem.Challenge.rw_mq0307_01.row.prog w) A (pyIter v) (fun i s₂ => i = .ref it ∧ J j0 s₂) E s₁) E s)
    (turn : ∀ j v s', vs[j]? = some v → J j s' → ∀ E' : Value → Shared → Prop, wpAny (model PySem.Challenge.rw_mq0307_01.row.prog w) A (pyNext (.ref it)) (fun r s₁ => r = some v ∧
      wpAny (model PySem.Challenge.rw_mq0307_01.row.prog w) A (assign (.Name x px) env v) (fun _ s₂ => wpAny (model PySem.Challenge.rw_mq0307_01.row.prog w) A (execs body env) (fun f s₃ => f = .next ∧ J (j + 1) s₃) E' s₂) E' s₁) E' s')
    (fin : ∀ s', J vs.length s' → ∀ E' : Value → Shared → Prop, wpAny (model PySem.Challenge.rw_mq0307_01.row.prog w) A (pyNext (.ref it)) (fun r s₁ => r = none ∧ QN s₁) E' s')
    (hs : ∀ x, foldedSetIterable iter env x = pure x := by intro _; rfl) :
    wpAny (model PySem.Challenge.rw_mq0307_01.row.prog w) A (exec (.For (.Name x px) iter body [] pos) env) Q E s := by
  refine wpAny_For (wpAny_mono hev (fun v s₁ h₁ => wpAny_mono h₁ (fun i s₂ h₂ => ?_) fun _ _ q => q) fun _ _ q => q) hs
  obtain ⟨rfl, hJ⟩ := h₂
  refine codeAny_forLoop (fun k s' => ∃ j, j ≤ vs.length ∧ k = vs.length + 1 - j ∧ J j s') (fun k s' hk => ?_) (vs.length + 1 - j0) ⟨j0, hj0, rfl, hJ⟩
  obtain ⟨j, hj, rfl, hJ'⟩ := hk
  by_cases hlt : j < vs.length
  · refine wpAny_mono (turn j vs[j] s' (by simp [hlt]) hJ' _) (fun r s₁ h₁ => ?_) fun _ _ q => q
    obtain ⟨rfl, h2⟩ := h₁
    refine wpAny_mono h2 (fun _ s₂ h₂ => wpAny_mono h₂ (fun f s₃ h₃ => ?_) fun _ _ q => q) fun _ _ q => q
    obtain ⟨rfl, hJ3⟩ := h₃
    exact ⟨vs.length + 1 - (j + 1), by (first | lia | omega), j + 1, by (first | lia | omega), rfl, hJ3⟩
  · have e : j = vs.length := by (first | lia | omega)
    subst e
    refine wpAny_mono (fin s' hJ' _) (fun r s₁ h₁ => ?_) fun _ _ q => q
    obtain ⟨rfl, h2⟩ := h₁
    exact wpAny_execs_nil (hQ _ h2)
end
end Mine
end
theorem Mine.start_T1 : True := by
  w_top off
  trivial
section
open PySem PySem.W PySem.Calls PyProof.Rows
set_option maxRecDepth 100000
set_option maxHeartbeats 4000000
namespace Mine
noncomputable def tupObj (vs : List Value) : Obj := { cls := .type "tuple", data := .seq vs.toArray }
noncomputable def strLt (x y : Str) : Bool := decide (x.cps.toList < y.cps.toList)
/-- the order of pairs and triples that open with a text and a number -/
noncomputable def tupLt (x : Str) (o : Int) (y : Str) (p : Int) : Bool := if x = y then decide (o < p) else strLt x y
section
variable {prog : Program} {w : World} {A : Around} {E : Value → Shared → Prop} {s : Shared}
theorem eqBool_self {v : Value} {Q : Bool → Shared → Prop} (h : Q true s) : wpAny (model prog w) A (eqBool v v) Q E s := by
  unfold eqBool
  refine wpAny_holding ?_
  rw [if_pos (by simp)]
  exact wpAny_bind (wpAny_rule (wpAny_pure h))
theorem rc_lt_str {x y : Str} {t u : Tok} {Q : Value → Shared → Prop} (h : Q (.bool (strLt x y)) s) : wpAny (model prog w) A (richCompare .Lt (.str x t) (.str y u)) Q E s :=
  PyProof.Rows.lt_str h
theorem rc_lt_int {x y : Int} {t u : Tok} {Q : Value → Shared → Prop} (h : Q (.bool (decide (x < y))) s) : wpAny (model prog w) A (richCompare .Lt (.int x t) (.int y u)) Q E s :=
  wpAny_lt_int h
theorem tup_lt_tree {a b : Addr} {x y : Str} {o p : Int} {t t' u u' : Tok} {r r' : List Value} {P : PySem.Fin → Shared → Prop} (ha : s.heap.get? a = some (tupObj (.str x t :: .int o u :: r))) (hb : s.heap.get? b = some (tupObj (.str y t' :: .int p u' :: r'))) (hab : a = b ∨ o ≠ p)
    (h : P (.done (.ret (.bool (tupLt x o y p)))) s) : wpAny (model prog w) A (Builtin.«tuple.__lt__» ⟨[.ref a, .ref b], []⟩) P E s := by
  show wpAny _ _ (isInstance (.ref b) (.type "tuple") >>= _) _ _ s
  refine wpAny_bind (wpAny_isInstance ⟨_, hb, rfl⟩ isSubtype_tuple_tuple ?_)
  simp only [Bool.not_true, Bool.false_eq_true, if_false]
  refine wpAny_bind (wpAny_tupleItemsOf ha rfl ?_)
  refine wpAny_bind (wpAny_tupleItemsOf hb rfl ?_)
  refine wpAny_bind ?_
  show wpAny _ _ (forIn ((.str x t, .str y t') :: (.int o u, .int p u') :: r.zip r') _ _) _ _ _
  rw [List.forIn_cons]
  refine wpAny_bind (wpAny_bind (wpAny_eqBool_str ?_))
  by_cases hxy : x = y
  · subst hxy
    rw [decide_eq_true rfl]
    simp only [Bool.not_true, Bool.false_eq_true, if_false]
    refine wpAny_pure ?_
    dsimp only
    rw [List.forIn_cons]
    refine wpAny_bind (wpAny_bind (wpAny_eqBool_int ?_))
    unfold tupLt at h
    rw [if_pos rfl] at h
    by_cases hop : o = p
    · subst hop
      have hab' : a = b := hab.elim id fun q => absurd rfl q
      subst hab'
      have er : r = r' := by
        have := ha.symm.trans hb
        simp only [tupObj, Option.some.injEq, Obj.mk.injEq, Data.seq.injEq, true_and, and_true] at this
        have := congrArg Array.toList this
        simp only [List.cons.injEq] at this
        exact this.2.2
      subst er
      simp only [BEq.rfl, Bool.not_true, Bool.false_eq_true, if_false]
      refine wpAny_pure ?_
      dsimp only
      refine wpAny_forIn_list _ (fun l q s' => q.1 = none ∧ s' = s ∧ ∃ vs : List Value, l = vs.zip vs) _ ?_ ?_ _ _ ⟨rfl, rfl, r, rfl⟩
      · rintro ⟨v1, v2⟩ rest q s' ⟨hq, rfl, vs, hv⟩
        cases vs with
        | nil => simp at hv
        | cons v vs =>
          simp only [List.zip_cons_cons, List.cons.injEq, Prod.mk.injEq] at hv
          obtain ⟨⟨rfl, rfl⟩, rfl⟩ := hv
          refine wpAny_bind (eqBool_self ?_)
          simp only [Bool.not_true, Bool.false_eq_true, if_false]
          exact wpAny_pure ⟨rfl, rfl, vs, rfl⟩
      · rintro ⟨q1, q2⟩ s' ⟨hq, rfl, -⟩
        simp only at hq
        subst hq
        refine wpAny_pure ?_
        have e : Builtin.Tuple.tupleCompareSizes CmpOp.Lt (Value.str x t :: Value.int o u :: r).toArray.size (Value.str x t' :: Value.int o u' :: r).toArray.size = .bool (decide (o < o)) := by
          simp [Builtin.Tuple.tupleCompareSizes]
        rw [e]; exact h
    · have e1 : (o == p) = false := by simpa using hop
      rw [e1]
      simp only [Bool.not_false, if_true]
      refine wpAny_bind (wpAny_rule (wpAny_bind (rc_lt_int ?_)))
      exact wpAny_bind (wpAny_pure (wpAny_pure (wpAny_pure (wpAny_pure h))))
  · rw [decide_eq_false hxy]
    simp only [Bool.not_false, if_true]
    unfold tupLt at h
    rw [if_neg hxy] at h
    refine wpAny_bind (wpAny_rule (wpAny_bind (rc_lt_str ?_)))
    exact wpAny_bind (wpAny_pure (wpAny_pure (wpAny_pure (wpAny_pure h))))
theorem tup_lt {a b : Addr} {x y : Str} {o p : Int} {t t' u u' : Tok} {r r' : List Value} {Q : Value → Shared → Prop} (ha : s.heap.get? a = some (tupObj (.str x t :: .int o u :: r))) (hb : s.heap.get? b = some (tupObj (.str y t' :: .int p u' :: r'))) (hab : a = b ∨ o ≠ p)
    (hu : A.units < cLine) (h : Q (.bool (tupLt x o y p)) s) : wpAny (model prog w) A (compareOp .Lt (.ref a) (.ref b)) Q E s := by
  show wpAny _ _ (richCompare .Lt (.ref a) (.ref b)) Q E s
  exact wpAny_richCompare_same_room (op := .Lt) (T := "tuple") ⟨_, ha, rfl⟩ ⟨_, hb, rfl⟩ F.slot_tuple_lt
      (wpAny_call_entry F.slot_tuple_lt ⟨_, ha, rfl⟩ F.entry_tuple_lt (tup_lt_tree ha hb hab ⟨_, rfl, (fun e => nomatch e), h⟩) (F.args_tuple_lt_2 _ _)) hu
end
end Mine
end
theorem Mine.start_M1 : True := by
  w_top off
  trivial
section
open PySem PySem.W PySem.Calls PyProof.Rows
set_option maxRecDepth 100000
set_option maxHeartbeats 4000000
namespace Mine
theorem rc_gt_str {prog : Program} {w : World} {A : Around} {E : Value → Shared → Prop} {s : Shared} {x y : Str} {t u : Tok} {Q : Value → Shared → Prop} (h : Q (.bool (strLt y x)) s) : wpAny (model prog w) A (richCompare .Gt (.str x t) (.str y u)) Q E s :=
  compareOp_gives (op := .Gt) (typeIs_str s x t) (typeIs_str s y u) PySem.F.slot_str_gt PySem.F.entry_str_gt (PySem.F.args_str_gt_2 _ _) (gives_str_gt x y t u) (fun e => nomatch e) h
/-- b is the first of the least among the first j -/
noncomputable def Least (r : Nat → Int) (j b : Nat) : Prop := b < j ∧ ∀ i, i < j → r b ≤ r i ∧ (i < b → r b < r i)
theorem Least.step_lt {r : Nat → Int} {j b : Nat} (h : Least r j b) (hlt : r j < r b) : Least r (j + 1) j := by
  refine ⟨by (first | lia | omega), fun i hi => ?_⟩
  by_cases e : i = j
  · subst e; exact ⟨by (first | lia | omega), fun q => by (first | lia | omega)⟩
  · have := h.2 i (by (first | lia | omega)); exact ⟨by (first | lia | omega), fun _ => by (first | lia | omega)⟩
theorem Least.step_ge {r : Nat → Int} {j b : Nat} (h : Least r j b) (hge : ¬ r j < r b) : Least r (j + 1) b := by
  refine ⟨by have := h.1; (first | lia | omega), fun i hi => ?_⟩
  by_cases e : i = j
  · subst e; exact ⟨by (first | lia | omega), fun q => by have := h.1; (first | lia | omega)⟩
  · exact h.2 i (by (first | lia | omega))
theorem Least.one (r : Nat → Int) : Least r 1 0 := by
  refine ⟨by (first | lia | omega), fun i hi => ?_⟩
  have : i = 0 := by (first | lia | omega)
  subst this
  exact ⟨by (first | lia | omega), fun q => by (first | lia | omega)⟩
theorem args_min_dk (a v u : Value) : argsOk "min" ⟨[a], [(Str.ofString "default", v), (Str.ofString "key", u)]⟩ := by unfold argsOk; kernel_rfl
theorem args_max_dk (a v u : Value) : argsOk "max" ⟨[a], [(Str.ofString "default", v), (Str.ofString "key", u)]⟩ := by unfold argsOk; kernel_rfl
section
variable {w : World} {A : Around} {E : Value → Shared → Prop} {s : Shared} {g : Heap} {l it B : Addr} {vs : List Value} {c0 : Nat} {S : Nat → Str} {r : Nat → Int} {dv : Value}

theorem min_loop_k {R : Result → Shared → Prop} {f : Addr} (G : Gr 4 w A g) (hl : g.get? l = some (listOf vs.toArray c0)) (gi : g.get? it = none) (gB : g.get? B = none) (hiB : it ≠ B)
    (hkey : ∀ i v, vs[i]? = some v → PureSpec 3 w f [v] (fun t => .str (S i) t)) (hr : ∀ i j, i < vs.length → j < vs.length → strLt (S i) (S j) = decide (r i < r j))
    (hR0 : vs.length = 0 → ∀ h' tk', Stays g h' → s.heap.objs.size ≤ h'.objs.size → R (.ok (.ret dv)) { s with heap := h', toks := tk' })
    (hR : ∀ b v h' tk', vs[b]? = some v → Least r vs.length b → Stays g h' → s.heap.objs.size ≤ h'.objs.size → R (.ok (.ret v)) { s with heap := h', toks := tk' }) :
    ∀ (d j : Nat) (h : Heap) (tk : Nat), vs.length - j = d → j ≤ vs.length → Stays g h → s.heap.objs.size ≤ h.objs.size → LIt h it (.ref l) j →
      ((j = 0 ∧ ∃ c, h.get? B = some (listOf #[] c)) ∨ (∃ b v t c, Least r j b ∧ vs[b]? = some v ∧ h.get? B = some (listOf #[v, .str (S b) t] c))) →
      codeAny (model PySem.Challenge.rw_mq0307_01.row.prog w) A (.builtin "min.loop" ⟨[.ref it, (.ref f), .ref B], [(Str.ofString "default", dv)]⟩) R { s with heap := h, toks := tk } := by
  have hname : (toString "min" ++ toString ".loop" : String) = "min.loop" := by decide
  have hh : A.handled = none := by obtain ⟨dp, un, gd, outer, A₀, base, mean, mg, mb, rfl, _⟩ := G.ex; rfl
  have Bne : ∀ {b : Addr} {o : Obj}, g.get? b = some o → b ≠ B := fun e q => by rw [q, gB] at e; cases e
  have ine : ∀ {b : Addr} {o : Obj}, g.get? b = some o → b ≠ it := fun e q => by rw [q, gi] at e; cases e
  intro d
  induction d with
  | zero =>
    intro j h tk hd hj st hsz hit hb
    have hjn : j = vs.length := by (first | lia | omega)
    subst hjn
    have hls : h.IsList l vs.toArray := ⟨_, st _ _ hl, rfl, c0, rfl⟩
    refine codeAny_builtin PySem.F.entry_min_loop ?_
    rw [Around.under_plainId PySem.F.plain_min_loop _]
    show wpAny _ A.in1 (seqItems? (.ref B) >>= _) _ _ _
    rcases hb with ⟨h0, c, hB⟩ | ⟨b, v, t, c, hbest, hv, hB⟩
    · refine wpAny_bind (wpAny_seqItems hB rfl ?_)
      show wpAny _ A.in1 (tryCatch (pyNext (.ref it)) _ >>= _) _ _ _
      refine wpAny_bind (wpAny_tryCatch (lit_pyNext_end hh hit hls (by simp) fun h' _ he hsz' => ?_))
      refine wpAny_bind (wpAny_rule (wpAny_pure ?_))
      exact hR0 h0 _ _ (fun b o e => he b o (ine e) (st b o e)) (Nat.le_trans hsz hsz')
    · refine wpAny_bind (wpAny_seqItems hB rfl ?_)
      show wpAny _ A.in1 (tryCatch (pyNext (.ref it)) _ >>= _) _ _ _
      refine wpAny_bind (wpAny_tryCatch (lit_pyNext_end hh hit hls (by simp) fun h' _ he hsz' => ?_))
      have hB' := he B _ hiB.symm hB
      show wpAny _ A.in1 (updateSeq B (fun _ => #[]) >>= _) _ _ _
      refine wpAny_bind (wpAny_updateSeq hB' rfl (wpAny_bind (wpAny_letGo (wpAny_pure ?_))))
      refine hR b v _ _ hv hbest (fun q o e => ((Heap.SameBut.update ..).2 q (Bne e)).trans (he q o (ine e) (st q o e))) ?_
      rw [Heap.size_after_update]; exact Nat.le_trans hsz hsz'
  | succ d ih =>
    intro j h tk hd hj st hsz hit hb
    have hlt : j < vs.length := by (first | lia | omega)
    have hvj : vs[j]? = some vs[j] := by simp [hlt]
    have hls : h.IsList l vs.toArray := ⟨_, st _ _ hl, rfl, c0, rfl⟩
    refine codeAny_builtin PySem.F.entry_min_loop ?_
    rw [Around.under_plainId PySem.F.plain_min_loop _]
    show wpAny _ A.in1 (seqItems? (.ref B) >>= _) _ _ _
    rcases hb with ⟨h0, c, hB⟩ | ⟨b, v, t, c, hbest, hv, hB⟩
    · refine wpAny_bind (wpAny_seqItems hB rfl ?_)
      show wpAny _ A.in1 (tryCatch (pyNext (.ref it)) _ >>= _) _ _ _
      refine wpAny_bind (wpAny_tryCatch (lit_pyNext hit hls (x := vs[j]) (by simp [hlt]) fun h' hit' hs' => ?_))
      have st' : Stays g h' := fun q o e => hs'.extBut q o (ine e) (st q o e)
      have hB' := hs'.extBut B _ hiB.symm hB
      show wpAny _ A.in1 (tryCatch (holding [vs[j]] (call (.ref f) [vs[j]])) _ >>= _) _ _ _
      refine wpAny_bind (wpAny_tryCatch (wpAny_holding (hkey j vs[j] hvj _ _ _ _ ((G.up st').in1) fun h2 tk2 t2 hst2 hsz2 => ?_)))
      have st2 : Stays g h2 := st'.trans hst2
      have hit2 : LIt h2 it (.ref l) (j + 1) := hst2 _ _ hit'
      have hB2 := hst2 _ _ hB'
      have hsz2 : s.heap.objs.size ≤ h2.objs.size := Nat.le_trans hsz (Nat.le_trans (Nat.le_of_eq hs'.1.symm) hsz2)
      have s1 := Heap.SameBut.update h2 B (Obj.mapSeq fun _ => #[vs[j], .str (S j) t2])
      obtain ⟨c2, hc2⟩ : ∃ c2, (h2.update B (Obj.mapSeq fun _ => #[vs[j], .str (S j) t2])).get? B = some (listOf #[vs[j], .str (S j) t2] c2) := ⟨_, get?_update_seq hB2 fun _ => #[vs[j], .str (S j) t2]⟩
      show wpAny _ A.in1 (updateSeq B (fun _ => #[vs[j], .str (S j) t2]) >>= _) _ _ _
      refine wpAny_bind (wpAny_updateSeq hB2 rfl ?_)
      rw [hname]
      refine wpAny_pure ⟨plainId_quiet PySem.F.plain_min_loop _, ih (j + 1) _ _ (by (first | lia | omega)) hlt (fun q o e => (s1.2 q (Bne e)).trans (st2 q o e)) (by rw [Heap.size_after_update]; exact hsz2) ((s1.2 it hiB).trans hit2) (.inr ⟨j, vs[j], t2, c2, by subst h0; exact Least.one r, hvj, hc2⟩)⟩
    · refine wpAny_bind (wpAny_seqItems hB rfl ?_)
      show wpAny _ A.in1 (tryCatch (pyNext (.ref it)) _ >>= _) _ _ _
      refine wpAny_bind (wpAny_tryCatch (lit_pyNext hit hls (x := vs[j]) (by simp [hlt]) fun h' hit' hs' => ?_))
      have st' : Stays g h' := fun q o e => hs'.extBut q o (ine e) (st q o e)
      have hB' := hs'.extBut B _ hiB.symm hB
      show wpAny _ A.in1 (tryCatch (holding [vs[j]] (call (.ref f) [vs[j]])) _ >>= _) _ _ _
      refine wpAny_bind (wpAny_tryCatch (wpAny_holding (hkey j vs[j] hvj _ _ _ _ ((G.up st').in1) fun h2 tk2 t2 hst2 hsz2 => ?_)))
      have st2 : Stays g h2 := st'.trans hst2
      have hit2 : LIt h2 it (.ref l) (j + 1) := hst2 _ _ hit'
      have hB2 := hst2 _ _ hB'
      have hsz2 : s.heap.objs.size ≤ h2.objs.size := Nat.le_trans hsz (Nat.le_trans (Nat.le_of_eq hs'.1.symm) hsz2)
      show wpAny _ A.in1 (tryCatch (holding [vs[j], .str (S j) t2] (richCompare .Lt (.str (S j) t2) (.str (S b) t) >>= _)) _ >>= _) _ _ _
      refine wpAny_bind (wpAny_tryCatch (wpAny_holding (wpAny_bind (rc_lt_str ?_))))
      refine wpAny_bind (wpAny_holding (wpAny_truthy_bool ?_))
      refine wpAny_bind (wpAny_letGo (wpAny_pure ?_))
      have hbl : b < vs.length := by have := hbest.1; (first | lia | omega)
      rw [hr j b hlt hbl]
      by_cases hb' : r j < r b
      · have s1 := Heap.SameBut.update h2 B (Obj.mapSeq fun _ => #[vs[j], .str (S j) t2])
        obtain ⟨c2, hc2⟩ : ∃ c2, (h2.update B (Obj.mapSeq fun _ => #[vs[j], .str (S j) t2])).get? B = some (listOf #[vs[j], .str (S j) t2] c2) := ⟨_, get?_update_seq hB2 fun _ => #[vs[j], .str (S j) t2]⟩
        simp only [hb', decide_true, if_true]
        refine wpAny_bind (wpAny_updateSeq hB2 rfl (wpAny_bind (wpAny_letGo ?_)))
        rw [hname]
        refine wpAny_pure ⟨plainId_quiet PySem.F.plain_min_loop _, ih (j + 1) _ _ (by (first | lia | omega)) hlt (fun q o e => (s1.2 q (Bne e)).trans (st2 q o e)) (by rw [Heap.size_after_update]; exact hsz2) ((s1.2 it hiB).trans hit2) (.inr ⟨j, vs[j], t2, c2, hbest.step_lt hb', hvj, hc2⟩)⟩
      · simp only [hb', decide_false, Bool.false_eq_true, if_false]
        refine wpAny_bind (wpAny_letGo ?_)
        rw [hname]
        refine wpAny_pure ⟨plainId_quiet PySem.F.plain_min_loop _, ih (j + 1) _ _ (by (first | lia | omega)) hlt st2 hsz2 hit2 (.inr ⟨b, v, t, c, hbest.step_ge hb', hv, hB2⟩)⟩

theorem min_call_k {Q : Value → Shared → Prop} {f : Addr} (G : Gr 4 w A g) (hg : Stays g s.heap) (hl : g.get? l = some (listOf vs.toArray c0)) (gi : g.get? it = none) (hit : LIt s.heap it (.ref l) 0) (hgs : g.objs.size ≤ s.heap.objs.size)
    (hkey : ∀ i v, vs[i]? = some v → PureSpec 3 w f [v] (fun t => .str (S i) t)) (hr : ∀ i j, i < vs.length → j < vs.length → strLt (S i) (S j) = decide (r i < r j))
    (hR0 : vs.length = 0 → ∀ h' tk', Stays g h' → s.heap.objs.size ≤ h'.objs.size → Q dv { s with heap := h', toks := tk' })
    (hR : ∀ b v h' tk', vs[b]? = some v → Least r vs.length b → Stays g h' → s.heap.objs.size ≤ h'.objs.size → Q v { s with heap := h', toks := tk' }) :
    wpAny (model PySem.Challenge.rw_mq0307_01.row.prog w) A (call (.builtin "min") [.ref it] [(Str.ofString "default", dv), (Str.ofString "key", (.ref f))]) Q E s := by
  have hname : (toString "min" ++ toString ".loop" : String) = "min.loop" := by decide
  refine kmk_tree PySem.F.kind_min PySem.F.plain_min PySem.F.entry_min (args_min_dk _ _ _) ?_
  show wpAny _ A.in1 (Builtin.Builtins.bindParams "min" ["key", "default"] 0 ⟨[], [(Str.ofString "default", dv), (Str.ofString "key", (.ref f))]⟩ >>= _) _ _ s
  refine wpAny_bind (wpAny_of_eq (show Builtin.Builtins.bindParams "min" ["key", "default"] 0 ⟨[], [(Str.ofString "default", dv), (Str.ofString "key", (.ref f))]⟩ = pure [some (.ref f), some dv] from rfl) ?_)
  refine wpAny_bind (wpAny_pure ?_)
  refine wpAny_bind (lit_pyIter hit ?_)
  refine wpAny_bind (wpAny_newList ?_ (Nat.zero_le _))
  rw [hname]
  refine wpAny_pure ⟨plainId_quiet PySem.F.plain_min_loop _, ?_⟩
  have gB : g.get? s.heap.objs.size = none := Heap.get?_none_of_le hgs
  refine min_loop_k (s := s) G hl gi gB (Nat.ne_of_lt (Heap.lt_size hit)) hkey hr hR0 hR _ 0 _ s.toks rfl (Nat.zero_le _) (fun b o e => Heap.get?_push_of_some _ (hg b o e)) (by rw [Heap.size_push]; (first | lia | omega)) (Heap.get?_push_of_some _ hit) (.inl ⟨rfl, 0, Heap.get?_push_size _ rfl⟩)

theorem min_loop_n {R : Result → Shared → Prop}  (G : Gr 4 w A g) (hl : g.get? l = some (listOf vs.toArray c0)) (gi : g.get? it = none) (gB : g.get? B = none) (hiB : it ≠ B)
    (hkey : ∀ i v, vs[i]? = some v → ∃ t, v = Value.str (S i) t) (hr : ∀ i j, i < vs.length → j < vs.length → strLt (S i) (S j) = decide (r i < r j))
    (hR0 : vs.length = 0 → ∀ h' tk', Stays g h' → s.heap.objs.size ≤ h'.objs.size → R (.ok (.ret dv)) { s with heap := h', toks := tk' })
    (hR : ∀ b v h' tk', vs[b]? = some v → Least r vs.length b → Stays g h' → s.heap.objs.size ≤ h'.objs.size → R (.ok (.ret v)) { s with heap := h', toks := tk' }) :
    ∀ (d j : Nat) (h : Heap) (tk : Nat), vs.length - j = d → j ≤ vs.length → Stays g h → s.heap.objs.size ≤ h.objs.size → LIt h it (.ref l) j →
      ((j = 0 ∧ ∃ c, h.get? B = some (listOf #[] c)) ∨ (∃ b v t c, Least r j b ∧ vs[b]? = some v ∧ h.get? B = some (listOf #[v, .str (S b) t] c))) →
      codeAny (model PySem.Challenge.rw_mq0307_01.row.prog w) A (.builtin "min.loop" ⟨[.ref it, Value.none, .ref B], [(Str.ofString "default", dv)]⟩) R { s with heap := h, toks := tk } := by
  have hname : (toString "min" ++ toString ".loop" : String) = "min.loop" := by decide
  have hh : A.handled = none := by obtain ⟨dp, un, gd, outer, A₀, base, mean, mg, mb, rfl, _⟩ := G.ex; rfl
  have Bne : ∀ {b : Addr} {o : Obj}, g.get? b = some o → b ≠ B := fun e q => by rw [q, gB] at e; cases e
  have ine : ∀ {b : Addr} {o : Obj}, g.get? b = some o → b ≠ it := fun e q => by rw [q, gi] at e; cases e
  intro d
  induction d with
  | zero =>
    intro j h tk hd hj st hsz hit hb
    have hjn : j = vs.length := by (first | lia | omega)
    subst hjn
    have hls : h.IsList l vs.toArray := ⟨_, st _ _ hl, rfl, c0, rfl⟩
    refine codeAny_builtin PySem.F.entry_min_loop ?_
    rw [Around.under_plainId PySem.F.plain_min_loop _]
    show wpAny _ A.in1 (seqItems? (.ref B) >>= _) _ _ _
    rcases hb with ⟨h0, c, hB⟩ | ⟨b, v, t, c, hbest, hv, hB⟩
    · refine wpAny_bind (wpAny_seqItems hB rfl ?_)
      show wpAny _ A.in1 (tryCatch (pyNext (.ref it)) _ >>= _) _ _ _
      refine wpAny_bind (wpAny_tryCatch (lit_pyNext_end hh hit hls (by simp) fun h' _ he hsz' => ?_))
      refine wpAny_bind (wpAny_rule (wpAny_pure ?_))
      exact hR0 h0 _ _ (fun b o e => he b o (ine e) (st b o e)) (Nat.le_trans hsz hsz')
    · refine wpAny_bind (wpAny_seqItems hB rfl ?_)
      show wpAny _ A.in1 (tryCatch (pyNext (.ref it)) _ >>= _) _ _ _
      refine wpAny_bind (wpAny_tryCatch (lit_pyNext_end hh hit hls (by simp) fun h' _ he hsz' => ?_))
      have hB' := he B _ hiB.symm hB
      show wpAny _ A.in1 (updateSeq B (fun _ => #[]) >>= _) _ _ _
      refine wpAny_bind (wpAny_updateSeq hB' rfl (wpAny_bind (wpAny_letGo (wpAny_pure ?_))))
      refine hR b v _ _ hv hbest (fun q o e => ((Heap.SameBut.update ..).2 q (Bne e)).trans (he q o (ine e) (st q o e))) ?_
      rw [Heap.size_after_update]; exact Nat.le_trans hsz hsz'
  | succ d ih =>
    intro j h tk hd hj st hsz hit hb
    have hlt : j < vs.length := by (first | lia | omega)
    have hvj : vs[j]? = some vs[j] := by simp [hlt]
    have hls : h.IsList l vs.toArray := ⟨_, st _ _ hl, rfl, c0, rfl⟩
    refine codeAny_builtin PySem.F.entry_min_loop ?_
    rw [Around.under_plainId PySem.F.plain_min_loop _]
    show wpAny _ A.in1 (seqItems? (.ref B) >>= _) _ _ _
    rcases hb with ⟨h0, c, hB⟩ | ⟨b, v, t, c, hbest, hv, hB⟩
    · refine wpAny_bind (wpAny_seqItems hB rfl ?_)
      show wpAny _ A.in1 (tryCatch (pyNext (.ref it)) _ >>= _) _ _ _
      refine wpAny_bind (wpAny_tryCatch (lit_pyNext hit hls (x := vs[j]) (by simp [hlt]) fun h' hit' hs' => ?_))
      have st' : Stays g h' := fun q o e => hs'.extBut q o (ine e) (st q o e)
      have hB' := hs'.extBut B _ hiB.symm hB
      obtain ⟨t2, ht2⟩ := hkey j vs[j] hvj
      show wpAny _ A.in1 (pure vs[j] >>= _) _ _ _
      refine wpAny_bind (wpAny_pure ?_)
      obtain ⟨h2, rfl⟩ : ∃ h2, h2 = h' := ⟨_, rfl⟩
      have st2 := st'
      have hit2 := hit'
      have hB2 := hB'
      have hsz2 : s.heap.objs.size ≤ h2.objs.size := Nat.le_trans hsz (Nat.le_of_eq hs'.1.symm)
      have hvj2 : vs[j]? = some (Value.str (S j) t2) := by rw [hvj, ht2]
      rw [ht2]
      have s1 := Heap.SameBut.update h2 B (Obj.mapSeq fun _ => #[.str (S j) t2, .str (S j) t2])
      obtain ⟨c2, hc2⟩ : ∃ c2, (h2.update B (Obj.mapSeq fun _ => #[.str (S j) t2, .str (S j) t2])).get? B = some (listOf #[.str (S j) t2, .str (S j) t2] c2) := ⟨_, get?_update_seq hB2 fun _ => #[.str (S j) t2, .str (S j) t2]⟩
      show wpAny _ A.in1 (updateSeq B (fun _ => #[.str (S j) t2, .str (S j) t2]) >>= _) _ _ _
      refine wpAny_bind (wpAny_updateSeq hB2 rfl ?_)
      rw [hname]
      refine wpAny_pure ⟨plainId_quiet PySem.F.plain_min_loop _, ih (j + 1) _ _ (by (first | lia | omega)) hlt (fun q o e => (s1.2 q (Bne e)).trans (st2 q o e)) (by rw [Heap.size_after_update]; exact hsz2) ((s1.2 it hiB).trans hit2) (.inr ⟨j, .str (S j) t2, t2, c2, by subst h0; exact Least.one r, hvj2, hc2⟩)⟩
    · refine wpAny_bind (wpAny_seqItems hB rfl ?_)
      show wpAny _ A.in1 (tryCatch (pyNext (.ref it)) _ >>= _) _ _ _
      refine wpAny_bind (wpAny_tryCatch (lit_pyNext hit hls (x := vs[j]) (by simp [hlt]) fun h' hit' hs' => ?_))
      have st' : Stays g h' := fun q o e => hs'.extBut q o (ine e) (st q o e)
      have hB' := hs'.extBut B _ hiB.symm hB
      obtain ⟨t2, ht2⟩ := hkey j vs[j] hvj
      show wpAny _ A.in1 (pure vs[j] >>= _) _ _ _
      refine wpAny_bind (wpAny_pure ?_)
      obtain ⟨h2, rfl⟩ : ∃ h2, h2 = h' := ⟨_, rfl⟩
      have st2 := st'
      have hit2 := hit'
      have hB2 := hB'
      have hsz2 : s.heap.objs.size ≤ h2.objs.size := Nat.le_trans hsz (Nat.le_of_eq hs'.1.symm)
      have hvj2 : vs[j]? = some (Value.str (S j) t2) := by rw [hvj, ht2]
      rw [ht2]
      show wpAny _ A.in1 (tryCatch (holding [.str (S j) t2, .str (S j) t2] (richCompare .Lt (.str (S j) t2) (.str (S b) t) >>= _)) _ >>= _) _ _ _
      refine wpAny_bind (wpAny_tryCatch (wpAny_holding (wpAny_bind (rc_lt_str ?_))))
      refine wpAny_bind (wpAny_holding (wpAny_truthy_bool ?_))
      refine wpAny_bind (wpAny_letGo (wpAny_pure ?_))
      have hbl : b < vs.length := by have := hbest.1; (first | lia | omega)
      rw [hr j b hlt hbl]
      by_cases hb' : r j < r b
      · have s1 := Heap.SameBut.update h2 B (Obj.mapSeq fun _ => #[.str (S j) t2, .str (S j) t2])
        obtain ⟨c2, hc2⟩ : ∃ c2, (h2.update B (Obj.mapSeq fun _ => #[.str (S j) t2, .str (S j) t2])).get? B = some (listOf #[.str (S j) t2, .str (S j) t2] c2) := ⟨_, get?_update_seq hB2 fun _ => #[.str (S j) t2, .str (S j) t2]⟩
        simp only [hb', decide_true, if_true]
        refine wpAny_bind (wpAny_updateSeq hB2 rfl (wpAny_bind (wpAny_letGo ?_)))
        rw [hname]
        refine wpAny_pure ⟨plainId_quiet PySem.F.plain_min_loop _, ih (j + 1) _ _ (by (first | lia | omega)) hlt (fun q o e => (s1.2 q (Bne e)).trans (st2 q o e)) (by rw [Heap.size_after_update]; exact hsz2) ((s1.2 it hiB).trans hit2) (.inr ⟨j, .str (S j) t2, t2, c2, hbest.step_lt hb', hvj2, hc2⟩)⟩
      · simp only [hb', decide_false, Bool.false_eq_true, if_false]
        refine wpAny_bind (wpAny_letGo ?_)
        rw [hname]
        refine wpAny_pure ⟨plainId_quiet PySem.F.plain_min_loop _, ih (j + 1) _ _ (by (first | lia | omega)) hlt st2 hsz2 hit2 (.inr ⟨b, v, t, c, hbest.step_ge hb', hv, hB2⟩)⟩

theorem min_call_n {Q : Value → Shared → Prop}  (G : Gr 4 w A g) (hg : Stays g s.heap) (hl : g.get? l = some (listOf vs.toArray c0)) (gi : g.get? it = none) (hit : LIt s.heap it (.ref l) 0) (hgs : g.objs.size ≤ s.heap.objs.size)
    (hkey : ∀ i v, vs[i]? = some v → ∃ t, v = Value.str (S i) t) (hr : ∀ i j, i < vs.length → j < vs.length → strLt (S i) (S j) = decide (r i < r j))
    (hR0 : vs.length = 0 → ∀ h' tk', Stays g h' → s.heap.objs.size ≤ h'.objs.size → Q dv { s with heap := h', toks := tk' })
    (hR : ∀ b v h' tk', vs[b]? = some v → Least r vs.length b → Stays g h' → s.heap.objs.size ≤ h'.objs.size → Q v { s with heap := h', toks := tk' }) :
    wpAny (model PySem.Challenge.rw_mq0307_01.row.prog w) A (call (.builtin "min") [.ref it] [(Str.ofString "default", dv), (Str.ofString "key", Value.none)]) Q E s := by
  have hname : (toString "min" ++ toString ".loop" : String) = "min.loop" := by decide
  refine kmk_tree PySem.F.kind_min PySem.F.plain_min PySem.F.entry_min (args_min_dk _ _ _) ?_
  show wpAny _ A.in1 (Builtin.Builtins.bindParams "min" ["key", "default"] 0 ⟨[], [(Str.ofString "default", dv), (Str.ofString "key", Value.none)]⟩ >>= _) _ _ s
  refine wpAny_bind (wpAny_of_eq (show Builtin.Builtins.bindParams "min" ["key", "default"] 0 ⟨[], [(Str.ofString "default", dv), (Str.ofString "key", Value.none)]⟩ = pure [some Value.none, some dv] from rfl) ?_)
  refine wpAny_bind (wpAny_pure ?_)
  refine wpAny_bind (lit_pyIter hit ?_)
  refine wpAny_bind (wpAny_newList ?_ (Nat.zero_le _))
  rw [hname]
  refine wpAny_pure ⟨plainId_quiet PySem.F.plain_min_loop _, ?_⟩
  have gB : g.get? s.heap.objs.size = none := Heap.get?_none_of_le hgs
  refine min_loop_n (s := s) G hl gi gB (Nat.ne_of_lt (Heap.lt_size hit)) hkey hr hR0 hR _ 0 _ s.toks rfl (Nat.zero_le _) (fun b o e => Heap.get?_push_of_some _ (hg b o e)) (by rw [Heap.size_push]; (first | lia | omega)) (Heap.get?_push_of_some _ hit) (.inl ⟨rfl, 0, Heap.get?_push_size _ rfl⟩)

theorem max_loop_k {R : Result → Shared → Prop} {f : Addr} (G : Gr 4 w A g) (hl : g.get? l = some (listOf vs.toArray c0)) (gi : g.get? it = none) (gB : g.get? B = none) (hiB : it ≠ B)
    (hkey : ∀ i v, vs[i]? = some v → PureSpec 3 w f [v] (fun t => .str (S i) t)) (hr : ∀ i j, i < vs.length → j < vs.length → strLt (S j) (S i) = decide (r i < r j))
    (hR0 : vs.length = 0 → ∀ h' tk', Stays g h' → s.heap.objs.size ≤ h'.objs.size → R (.ok (.ret dv)) { s with heap := h', toks := tk' })
    (hR : ∀ b v h' tk', vs[b]? = some v → Least r vs.length b → Stays g h' → s.heap.objs.size ≤ h'.objs.size → R (.ok (.ret v)) { s with heap := h', toks := tk' }) :
    ∀ (d j : Nat) (h : Heap) (tk : Nat), vs.length - j = d → j ≤ vs.length → Stays g h → s.heap.objs.size ≤ h.objs.size → LIt h it (.ref l) j →
      ((j = 0 ∧ ∃ c, h.get? B = some (listOf #[] c)) ∨ (∃ b v t c, Least r j b ∧ vs[b]? = some v ∧ h.get? B = some (listOf #[v, .str (S b) t] c))) →
      codeAny (model PySem.Challenge.rw_mq0307_01.row.prog w) A (.builtin "max.loop" ⟨[.ref it, (.ref f), .ref B], [(Str.ofString "default", dv)]⟩) R { s with heap := h, toks := tk } := by
  have hname : (toString "max" ++ toString ".loop" : String) = "max.loop" := by decide
  have hh : A.handled = none := by obtain ⟨dp, un, gd, outer, A₀, base, mean, mg, mb, rfl, _⟩ := G.ex; rfl
  have Bne : ∀ {b : Addr} {o : Obj}, g.get? b = some o → b ≠ B := fun e q => by rw [q, gB] at e; cases e
  have ine : ∀ {b : Addr} {o : Obj}, g.get? b = some o → b ≠ it := fun e q => by rw [q, gi] at e; cases e
  intro d
  induction d with
  | zero =>
    intro j h tk hd hj st hsz hit hb
    have hjn : j = vs.length := by (first | lia | omega)
    subst hjn
    have hls : h.IsList l vs.toArray := ⟨_, st _ _ hl, rfl, c0, rfl⟩
    refine codeAny_builtin PySem.F.entry_max_loop ?_
    rw [Around.under_plainId PySem.F.plain_max_loop _]
    show wpAny _ A.in1 (seqItems? (.ref B) >>= _) _ _ _
    rcases hb with ⟨h0, c, hB⟩ | ⟨b, v, t, c, hbest, hv, hB⟩
    · refine wpAny_bind (wpAny_seqItems hB rfl ?_)
      show wpAny _ A.in1 (tryCatch (pyNext (.ref it)) _ >>= _) _ _ _
      refine wpAny_bind (wpAny_tryCatch (lit_pyNext_end hh hit hls (by simp) fun h' _ he hsz' => ?_))
      refine wpAny_bind (wpAny_rule (wpAny_pure ?_))
      exact hR0 h0 _ _ (fun b o e => he b o (ine e) (st b o e)) (Nat.le_trans hsz hsz')
    · refine wpAny_bind (wpAny_seqItems hB rfl ?_)
      show wpAny _ A.in1 (tryCatch (pyNext (.ref it)) _ >>= _) _ _ _
      refine wpAny_bind (wpAny_tryCatch (lit_pyNext_end hh hit hls (by simp) fun h' _ he hsz' => ?_))
      have hB' := he B _ hiB.symm hB
      show wpAny _ A.in1 (updateSeq B (fun _ => #[]) >>= _) _ _ _
      refine wpAny_bind (wpAny_updateSeq hB' rfl (wpAny_bind (wpAny_letGo (wpAny_pure ?_))))
      refine hR b v _ _ hv hbest (fun q o e => ((Heap.SameBut.update ..).2 q (Bne e)).trans (he q o (ine e) (st q o e))) ?_
      rw [Heap.size_after_update]; exact Nat.le_trans hsz hsz'
  | succ d ih =>
    intro j h tk hd hj st hsz hit hb
    have hlt : j < vs.length := by (first | lia | omega)
    have hvj : vs[j]? = some vs[j] := by simp [hlt]
    have hls : h.IsList l vs.toArray := ⟨_, st _ _ hl, rfl, c0, rfl⟩
    refine codeAny_builtin PySem.F.entry_max_loop ?_
    rw [Around.under_plainId PySem.F.plain_max_loop _]
    show wpAny _ A.in1 (seqItems? (.ref B) >>= _) _ _ _
    rcases hb with ⟨h0, c, hB⟩ | ⟨b, v, t, c, hbest, hv, hB⟩
    · refine wpAny_bind (wpAny_seqItems hB rfl ?_)
      show wpAny _ A.in1 (tryCatch (pyNext (.ref it)) _ >>= _) _ _ _
      refine wpAny_bind (wpAny_tryCatch (lit_pyNext hit hls (x := vs[j]) (by simp [hlt]) fun h' hit' hs' => ?_))
      have st' : Stays g h' := fun q o e => hs'.extBut q o (ine e) (st q o e)
      have hB' := hs'.extBut B _ hiB.symm hB
      show wpAny _ A.in1 (tryCatch (holding [vs[j]] (call (.ref f) [vs[j]])) _ >>= _) _ _ _
      refine wpAny_bind (wpAny_tryCatch (wpAny_holding (hkey j vs[j] hvj _ _ _ _ ((G.up st').in1) fun h2 tk2 t2 hst2 hsz2 => ?_)))
      have st2 : Stays g h2 := st'.trans hst2
      have hit2 : LIt h2 it (.ref l) (j + 1) := hst2 _ _ hit'
      have hB2 := hst2 _ _ hB'
      have hsz2 : s.heap.objs.size ≤ h2.objs.size := Nat.le_trans hsz (Nat.le_trans (Nat.le_of_eq hs'.1.symm) hsz2)
      have s1 := Heap.SameBut.update h2 B (Obj.mapSeq fun _ => #[vs[j], .str (S j) t2])
      obtain ⟨c2, hc2⟩ : ∃ c2, (h2.update B (Obj.mapSeq fun _ => #[vs[j], .str (S j) t2])).get? B = some (listOf #[vs[j], .str (S j) t2] c2) := ⟨_, get?_update_seq hB2 fun _ => #[vs[j], .str (S j) t2]⟩
      show wpAny _ A.in1 (updateSeq B (fun _ => #[vs[j], .str (S j) t2]) >>= _) _ _ _
      refine wpAny_bind (wpAny_updateSeq hB2 rfl ?_)
      rw [hname]
      refine wpAny_pure ⟨plainId_quiet PySem.F.plain_max_loop _, ih (j + 1) _ _ (by (first | lia | omega)) hlt (fun q o e => (s1.2 q (Bne e)).trans (st2 q o e)) (by rw [Heap.size_after_update]; exact hsz2) ((s1.2 it hiB).trans hit2) (.inr ⟨j, vs[j], t2, c2, by subst h0; exact Least.one r, hvj, hc2⟩)⟩
    · refine wpAny_bind (wpAny_seqItems hB rfl ?_)
      show wpAny _ A.in1 (tryCatch (pyNext (.ref it)) _ >>= _) _ _ _
      refine wpAny_bind (wpAny_tryCatch (lit_pyNext hit hls (x := vs[j]) (by simp [hlt]) fun h' hit' hs' => ?_))
      have st' : Stays g h' := fun q o e => hs'.extBut q o (ine e) (st q o e)
      have hB' := hs'.extBut B _ hiB.symm hB
      show wpAny _ A.in1 (tryCatch (holding [vs[j]] (call (.ref f) [vs[j]])) _ >>= _) _ _ _
      refine wpAny_bind (wpAny_tryCatch (wpAny_holding (hkey j vs[j] hvj _ _ _ _ ((G.up st').in1) fun h2 tk2 t2 hst2 hsz2 => ?_)))
      have st2 : Stays g h2 := st'.trans hst2
      have hit2 : LIt h2 it (.ref l) (j + 1) := hst2 _ _ hit'
      have hB2 := hst2 _ _ hB'
      have hsz2 : s.heap.objs.size ≤ h2.objs.size := Nat.le_trans hsz (Nat.le_trans (Nat.le_of_eq hs'.1.symm) hsz2)
      show wpAny _ A.in1 (tryCatch (holding [vs[j], .str (S j) t2] (richCompare .Gt (.str (S j) t2) (.str (S b) t) >>= _)) _ >>= _) _ _ _
      refine wpAny_bind (wpAny_tryCatch (wpAny_holding (wpAny_bind (rc_gt_str ?_))))
      refine wpAny_bind (wpAny_holding (wpAny_truthy_bool ?_))
      refine wpAny_bind (wpAny_letGo (wpAny_pure ?_))
      have hbl : b < vs.length := by have := hbest.1; (first | lia | omega)
      rw [hr j b hlt hbl]
      by_cases hb' : r j < r b
      · have s1 := Heap.SameBut.update h2 B (Obj.mapSeq fun _ => #[vs[j], .str (S j) t2])
        obtain ⟨c2, hc2⟩ : ∃ c2, (h2.update B (Obj.mapSeq fun _ => #[vs[j], .str (S j) t2])).get? B = some (listOf #[vs[j], .str (S j) t2] c2) := ⟨_, get?_update_seq hB2 fun _ => #[vs[j], .str (S j) t2]⟩
        simp only [hb', decide_true, if_true]
        refine wpAny_bind (wpAny_updateSeq hB2 rfl (wpAny_bind (wpAny_letGo ?_)))
        rw [hname]
        refine wpAny_pure ⟨plainId_quiet PySem.F.plain_max_loop _, ih (j + 1) _ _ (by (first | lia | omega)) hlt (fun q o e => (s1.2 q (Bne e)).trans (st2 q o e)) (by rw [Heap.size_after_update]; exact hsz2) ((s1.2 it hiB).trans hit2) (.inr ⟨j, vs[j], t2, c2, hbest.step_lt hb', hvj, hc2⟩)⟩
      · simp only [hb', decide_false, Bool.false_eq_true, if_false]
        refine wpAny_bind (wpAny_letGo ?_)
        rw [hname]
        refine wpAny_pure ⟨plainId_quiet PySem.F.plain_max_loop _, ih (j + 1) _ _ (by (first | lia | omega)) hlt st2 hsz2 hit2 (.inr ⟨b, v, t, c, hbest.step_ge hb', hv, hB2⟩)⟩

theorem max_call_k {Q : Value → Shared → Prop} {f : Addr} (G : Gr 4 w A g) (hg : Stays g s.heap) (hl : g.get? l = some (listOf vs.toArray c0)) (gi : g.get? it = none) (hit : LIt s.heap it (.ref l) 0) (hgs : g.objs.size ≤ s.heap.objs.size)
    (hkey : ∀ i v, vs[i]? = some v → PureSpec 3 w f [v] (fun t => .str (S i) t)) (hr : ∀ i j, i < vs.length → j < vs.length → strLt (S j) (S i) = decide (r i < r j))
    (hR0 : vs.length = 0 → ∀ h' tk', Stays g h' → s.heap.objs.size ≤ h'.objs.size → Q dv { s with heap := h', toks := tk' })
    (hR : ∀ b v h' tk', vs[b]? = some v → Least r vs.length b → Stays g h' → s.heap.objs.size ≤ h'.objs.size → Q v { s with heap := h', toks := tk' }) :
    wpAny (model PySem.Challenge.rw_mq0307_01.row.prog w) A (call (.builtin "max") [.ref it] [(Str.ofString "default", dv), (Str.ofString "key", (.ref f))]) Q E s := by
  have hname : (toString "max" ++ toString ".loop" : String) = "max.loop" := by decide
  refine kmk_tree PySem.F.kind_max PySem.F.plain_max PySem.F.entry_max (args_max_dk _ _ _) ?_
  show wpAny _ A.in1 (Builtin.Builtins.bindParams "max" ["key", "default"] 0 ⟨[], [(Str.ofString "default", dv), (Str.ofString "key", (.ref f))]⟩ >>= _) _ _ s
  refine wpAny_bind (wpAny_of_eq (show Builtin.Builtins.bindParams "max" ["key", "default"] 0 ⟨[], [(Str.ofString "default", dv), (Str.ofString "key", (.ref f))]⟩ = pure [some (.ref f), some dv] from rfl) ?_)
  refine wpAny_bind (wpAny_pure ?_)
  refine wpAny_bind (lit_pyIter hit ?_)
  refine wpAny_bind (wpAny_newList ?_ (Nat.zero_le _))
  rw [hname]
  refine wpAny_pure ⟨plainId_quiet PySem.F.plain_max_loop _, ?_⟩
  have gB : g.get? s.heap.objs.size = none := Heap.get?_none_of_le hgs
  refine max_loop_k (s := s) G hl gi gB (Nat.ne_of_lt (Heap.lt_size hit)) hkey hr hR0 hR _ 0 _ s.toks rfl (Nat.zero_le _) (fun b o e => Heap.get?_push_of_some _ (hg b o e)) (by rw [Heap.size_push]; (first | lia | omega)) (Heap.get?_push_of_some _ hit) (.inl ⟨rfl, 0, Heap.get?_push_size _ rfl⟩)

theorem max_loop_n {R : Result → Shared → Prop}  (G : Gr 4 w A g) (hl : g.get? l = some (listOf vs.toArray c0)) (gi : g.get? it = none) (gB : g.get? B = none) (hiB : it ≠ B)
    (hkey : ∀ i v, vs[i]? = some v → ∃ t, v = Value.str (S i) t) (hr : ∀ i j, i < vs.length → j < vs.length → strLt (S j) (S i) = decide (r i < r j))
    (hR0 : vs.length = 0 → ∀ h' tk', Stays g h' → s.heap.objs.size ≤ h'.objs.size → R (.ok (.ret dv)) { s with heap := h', toks := tk' })
    (hR : ∀ b v h' tk', vs[b]? = some v → Least r vs.length b → Stays g h' → s.heap.objs.size ≤ h'.objs.size → R (.ok (.ret v)) { s with heap := h', toks := tk' }) :
    ∀ (d j : Nat) (h : Heap) (tk : Nat), vs.length - j = d → j ≤ vs.length → Stays g h → s.heap.objs.size ≤ h.objs.size → LIt h it (.ref l) j →
      ((j = 0 ∧ ∃ c, h.get? B = some (listOf #[] c)) ∨ (∃ b v t c, Least r j b ∧ vs[b]? = some v ∧ h.get? B = some (listOf #[v, .str (S b) t] c))) →
      codeAny (model PySem.Challenge.rw_mq0307_01.row.prog w) A (.builtin "max.loop" ⟨[.ref it, Value.none, .ref B], [(Str.ofString "default", dv)]⟩) R { s with heap := h, toks := tk } := by
  have hname : (toString "max" ++ toString ".loop" : String) = "max.loop" := by decide
  have hh : A.handled = none := by obtain ⟨dp, un, gd, outer, A₀, base, mean, mg, mb, rfl, _⟩ := G.ex; rfl
  have Bne : ∀ {b : Addr} {o : Obj}, g.get? b = some o → b ≠ B := fun e q => by rw [q, gB] at e; cases e
  have ine : ∀ {b : Addr} {o : Obj}, g.get? b = some o → b ≠ it := fun e q => by rw [q, gi] at e; cases e
  intro d
  induction d with
  | zero =>
    intro j h tk hd hj st hsz hit hb
    have hjn : j = vs.length := by (first | lia | omega)
    subst hjn
    have hls : h.IsList l vs.toArray := ⟨_, st _ _ hl, rfl, c0, rfl⟩
    refine codeAny_builtin PySem.F.entry_max_loop ?_
    rw [Around.under_plainId PySem.F.plain_max_loop _]
    show wpAny _ A.in1 (seqItems? (.ref B) >>= _) _ _ _
    rcases hb with ⟨h0, c, hB⟩ | ⟨b, v, t, c, hbest, hv, hB⟩
    · refine wpAny_bind (wpAny_seqItems hB rfl ?_)
      show wpAny _ A.in1 (tryCatch (pyNext (.ref it)) _ >>= _) _ _ _
      refine wpAny_bind (wpAny_tryCatch (lit_pyNext_end hh hit hls (by simp) fun h' _ he hsz' => ?_))
      refine wpAny_bind (wpAny_rule (wpAny_pure ?_))
      exact hR0 h0 _ _ (fun b o e => he b o (ine e) (st b o e)) (Nat.le_trans hsz hsz')
    · refine wpAny_bind (wpAny_seqItems hB rfl ?_)
      show wpAny _ A.in1 (tryCatch (pyNext (.ref it)) _ >>= _) _ _ _
      refine wpAny_bind (wpAny_tryCatch (lit_pyNext_end hh hit hls (by simp) fun h' _ he hsz' => ?_))
      have hB' := he B _ hiB.symm hB
      show wpAny _ A.in1 (updateSeq B (fun _ => #[]) >>= _) _ _ _
      refine wpAny_bind (wpAny_updateSeq hB' rfl (wpAny_bind (wpAny_letGo (wpAny_pure ?_))))
      refine hR b v _ _ hv hbest (fun q o e => ((Heap.SameBut.update ..).2 q (Bne e)).trans (he q o (ine e) (st q o e))) ?_
      rw [Heap.size_after_update]; exact Nat.le_trans hsz hsz'
  | succ d ih =>
    intro j h tk hd hj st hsz hit hb
    have hlt : j < vs.length := by (first | lia | omega)
    have hvj : vs[j]? = some vs[j] := by simp [hlt]
    have hls : h.IsList l vs.toArray := ⟨_, st _ _ hl, rfl, c0, rfl⟩
    refine codeAny_builtin PySem.F.entry_max_loop ?_
    rw [Around.under_plainId PySem.F.plain_max_loop _]
    show wpAny _ A.in1 (seqItems? (.ref B) >>= _) _ _ _
    rcases hb with ⟨h0, c, hB⟩ | ⟨b, v, t, c, hbest, hv, hB⟩
    · refine wpAny_bind (wpAny_seqItems hB rfl ?_)
      show wpAny _ A.in1 (tryCatch (pyNext (.ref it)) _ >>= _) _ _ _
      refine wpAny_bind (wpAny_tryCatch (lit_pyNext hit hls (x := vs[j]) (by simp [hlt]) fun h' hit' hs' => ?_))
      have st' : Stays g h' := fun q o e => hs'.extBut q o (ine e) (st q o e)
      have hB' := hs'.extBut B _ hiB.symm hB
      obtain ⟨t2, ht2⟩ := hkey j vs[j] hvj
      show wpAny _ A.in1 (pure vs[j] >>= _) _ _ _
      refine wpAny_bind (wpAny_pure ?_)
      obtain ⟨h2, rfl⟩ : ∃ h2, h2 = h' := ⟨_, rfl⟩
      have st2 := st'
      have hit2 := hit'
      have hB2 := hB'
      have hsz2 : s.heap.objs.size ≤ h2.objs.size := Nat.le_trans hsz (Nat.le_of_eq hs'.1.symm)
      have hvj2 : vs[j]? = some (Value.str (S j) t2) := by rw [hvj, ht2]
      rw [ht2]
      have s1 := Heap.SameBut.update h2 B (Obj.mapSeq fun _ => #[.str (S j) t2, .str (S j) t2])
      obtain ⟨c2, hc2⟩ : ∃ c2, (h2.update B (Obj.mapSeq fun _ => #[.str (S j) t2, .str (S j) t2])).get? B = some (listOf #[.str (S j) t2, .str (S j) t2] c2) := ⟨_, get?_update_seq hB2 fun _ => #[.str (S j) t2, .str (S j) t2]⟩
      show wpAny _ A.in1 (updateSeq B (fun _ => #[.str (S j) t2, .str (S j) t2]) >>= _) _ _ _
      refine wpAny_bind (wpAny_updateSeq hB2 rfl ?_)
      rw [hname]
      refine wpAny_pure ⟨plainId_quiet PySem.F.plain_max_loop _, ih (j + 1) _ _ (by (first | lia | omega)) hlt (fun q o e => (s1.2 q (Bne e)).trans (st2 q o e)) (by rw [Heap.size_after_update]; exact hsz2) ((s1.2 it hiB).trans hit2) (.inr ⟨j, .str (S j) t2, t2, c2, by subst h0; exact Least.one r, hvj2, hc2⟩)⟩
    · refine wpAny_bind (wpAny_seqItems hB rfl ?_)
      show wpAny _ A.in1 (tryCatch (pyNext (.ref it)) _ >>= _) _ _ _
      refine wpAny_bind (wpAny_tryCatch (lit_pyNext hit hls (x := vs[j]) (by simp [hlt]) fun h' hit' hs' => ?_))
      have st' : Stays g h' := fun q o e => hs'.extBut q o (ine e) (st q o e)
      have hB' := hs'.extBut B _ hiB.symm hB
      obtain ⟨t2, ht2⟩ := hkey j vs[j] hvj
      show wpAny _ A.in1 (pure vs[j] >>= _) _ _ _
      refine wpAny_bind (wpAny_pure ?_)
      obtain ⟨h2, rfl⟩ : ∃ h2, h2 = h' := ⟨_, rfl⟩
      have st2 := st'
      have hit2 := hit'
      have hB2 := hB'
      have hsz2 : s.heap.objs.size ≤ h2.objs.size := Nat.le_trans hsz (Nat.le_of_eq hs'.1.symm)
      have hvj2 : vs[j]? = some (Value.str (S j) t2) := by rw [hvj, ht2]
      rw [ht2]
      show wpAny _ A.in1 (tryCatch (holding [.str (S j) t2, .str (S j) t2] (richCompare .Gt (.str (S j) t2) (.str (S b) t) >>= _)) _ >>= _) _ _ _
      refine wpAny_bind (wpAny_tryCatch (wpAny_holding (wpAny_bind (rc_gt_str ?_))))
      refine wpAny_bind (wpAny_holding (wpAny_truthy_bool ?_))
      refine wpAny_bind (wpAny_letGo (wpAny_pure ?_))
      have hbl : b < vs.length := by have := hbest.1; (first | lia | omega)
      rw [hr j b hlt hbl]
      by_cases hb' : r j < r b
      · have s1 := Heap.SameBut.update h2 B (Obj.mapSeq fun _ => #[.str (S j) t2, .str (S j) t2])
        obtain ⟨c2, hc2⟩ : ∃ c2, (h2.update B (Obj.mapSeq fun _ => #[.str (S j) t2, .str (S j) t2])).get? B = some (listOf #[.str (S j) t2, .str (S j) t2] c2) := ⟨_, get?_update_seq hB2 fun _ => #[.str (S j) t2, .str (S j) t2]⟩
        simp only [hb', decide_true, if_true]
        refine wpAny_bind (wpAny_updateSeq hB2 rfl (wpAny_bind (wpAny_letGo ?_)))
        rw [hname]
        refine wpAny_pure ⟨plainId_quiet PySem.F.plain_max_loop _, ih (j + 1) _ _ (by (first | lia | omega)) hlt (fun q o e => (s1.2 q (Bne e)).trans (st2 q o e)) (by rw [Heap.size_after_update]; exact hsz2) ((s1.2 it hiB).trans hit2) (.inr ⟨j, .str (S j) t2, t2, c2, hbest.step_lt hb', hvj2, hc2⟩)⟩
      · simp only [hb', decide_false, Bool.false_eq_true, if_false]
        refine wpAny_bind (wpAny_letGo ?_)
        rw [hname]
        refine wpAny_pure ⟨plainId_quiet PySem.F.plain_max_loop _, ih (j + 1) _ _ (by (first | lia | omega)) hlt st2 hsz2 hit2 (.inr ⟨b, v, t, c, hbest.step_ge hb', hv, hB2⟩)⟩

theorem max_call_n {Q : Value → Shared → Prop}  (G : Gr 4 w A g) (hg : Stays g s.heap) (hl : g.get? l = some (listOf vs.toArray c0)) (gi : g.get? it = none) (hit : LIt s.heap it (.ref l) 0) (hgs : g.objs.size ≤ s.heap.objs.size)
    (hkey : ∀ i v, vs[i]? = some v → ∃ t, v = Value.str (S i) t) (hr : ∀ i j, i < vs.length → j < vs.length → strLt (S j) (S i) = decide (r i < r j))
    (hR0 : vs.length = 0 → ∀ h' tk', Stays g h' → s.heap.objs.size ≤ h'.objs.size → Q dv { s with heap := h', toks := tk' })
    (hR : ∀ b v h' tk', vs[b]? = some v → Least r vs.length b → Stays g h' → s.heap.objs.size ≤ h'.objs.size → Q v { s with heap := h', toks := tk' }) :
    wpAny (model PySem.Challenge.rw_mq0307_01.row.prog w) A (call (.builtin "max") [.ref it] [(Str.ofString "default", dv), (Str.ofString "key", Value.none)]) Q E s := by
  have hname : (toString "max" ++ toString ".loop" : String) = "max.loop" := by decide
  refine kmk_tree PySem.F.kind_max PySem.F.plain_max PySem.F.entry_max (args_max_dk _ _ _) ?_
  show wpAny _ A.in1 (Builtin.Builtins.bindParams "max" ["key", "default"] 0 ⟨[], [(Str.ofString "default", dv), (Str.ofString "key", Value.none)]⟩ >>= _) _ _ s
  refine wpAny_bind (wpAny_of_eq (show Builtin.Builtins.bindParams "max" ["key", "default"] 0 ⟨[], [(Str.ofString "default", dv), (Str.ofString "key", Value.none)]⟩ = pure [some Value.none, some dv] from rfl) ?_)
  refine wpAny_bind (wpAny_pure ?_)
  refine wpAny_bind (lit_pyIter hit ?_)
  refine wpAny_bind (wpAny_newList ?_ (Nat.zero_le _))
  rw [hname]
  refine wpAny_pure ⟨plainId_quiet PySem.F.plain_max_loop _, ?_⟩
  have gB : g.get? s.heap.objs.size = none := Heap.get?_none_of_le hgs
  refine max_loop_n (s := s) G hl gi gB (Nat.ne_of_lt (Heap.lt_size hit)) hkey hr hR0 hR _ 0 _ s.toks rfl (Nat.zero_le _) (fun b o e => Heap.get?_push_of_some _ (hg b o e)) (by rw [Heap.size_push]; (first | lia | omega)) (Heap.get?_push_of_some _ hit) (.inl ⟨rfl, 0, Heap.get?_push_size _ rfl⟩)
end
end Mine
end
theorem Mine.start_K1 : True := by
  w_top off
  trivial
section
open PySem PySem.W PySem.Calls PyProof.Rows
set_option maxRecDepth 100000
set_option maxHeartbeats 4000000
namespace Mine
/-- the order that a stable sort by r gives to places -/
noncomputable def SL (r : Nat → Int) (i j : Nat) : Prop := r i < r j ∨ (r i = r j ∧ i < j)
theorem SL.trans {r : Nat → Int} {i j k : Nat} (h : SL r i j) (h' : SL r j k) : SL r i k := by
  unfold SL at *; (first | lia | omega)
noncomputable def pw {α : Type} (lt : Nat → Nat → Bool) (n : Nat) : KasT α → (α → Prop) → Prop
  | .ret a, Q => Q a
  | .ask i j k, Q => i < n ∧ j < n ∧ pw lt n (k (lt i j)) Q
theorem pw_bind {α β : Type} {lt : Nat → Nat → Bool} {n : Nat} {f : α → KasT β} {Q : β → Prop} : ∀ (t : KasT α), pw lt n t (fun a => pw lt n (f a) Q) → pw lt n (t.bind f) Q
  | .ret _, h => h
  | .ask _ _ k, ⟨a, b, h⟩ => ⟨a, b, pw_bind (k _) h⟩
theorem pw_mono {α : Type} {lt : Nat → Nat → Bool} {n : Nat} {Q Q' : α → Prop} (hq : ∀ a, Q a → Q' a) : ∀ (t : KasT α), pw lt n t Q → pw lt n t Q'
  | .ret _, h => hq _ h
  | .ask _ _ k, ⟨a, b, h⟩ => ⟨a, b, pw_mono hq (k _) h⟩
theorem pw_ask {α : Type} {r : Nat → Int} {n i j : Nat} {k : Bool → KasT α} {Q : α → Prop} (hi : i < n) (hj : j < n) (h1 : r i < r j → pw (fun i j => decide (r i < r j)) n (k true) Q) (h2 : ¬ r i < r j → pw (fun i j => decide (r i < r j)) n (k false) Q) :
    pw (fun i j => decide (r i < r j)) n (.ask i j k) Q := by
  refine ⟨hi, hj, ?_⟩
  by_cases hc : r i < r j
  · have e : (fun i j => decide (r i < r j)) i j = true := decide_eq_true hc
    rw [e]; exact h1 hc
  · have e : (fun i j => decide (r i < r j)) i j = false := decide_eq_false hc
    rw [e]; exact h2 hc
/-- the tree run by comparisons that change nothing but tokens -/
theorem kasWp_pw {α : Type} {cmp : Nat → Nat → (Bool → Shared → Prop) → Shared → Prop} {lt : Nat → Nat → Bool} {n : Nat} {P : Shared → Prop}
    (hc : ∀ i j (C : Bool → Shared → Prop) s, i < n → j < n → P s → (∀ s', P s' → C (lt i j) s') → cmp i j C s) {Q : α → Shared → Prop} :
    ∀ (t : KasT α) (s : Shared), P s → pw lt n t (fun a => ∀ s', P s' → Q a s') → t.kasWp cmp Q s
  | .ret _, s, hs, h => h s hs
  | .ask i j k, s, hs, ⟨a, b, h⟩ => hc i j _ s a b hs fun s' hs' => kasWp_pw hc (k _) s' hs' h
abbrev gv (p : Array Nat) (k : Nat) : Nat := p.getD k 0
theorem gv_eq {p : Array Nat} {k : Nat} : gv p k = (p[k]?).getD 0 := by simp [Array.getD_eq_getD_getElem?]
theorem gv_rev {p : Array Nat} {i j : Nat} (hj : j ≤ p.size) (k : Nat) : gv (kas_rev p i j) k = if i ≤ k ∧ k < j then gv p (i + j - 1 - k) else gv p k := by
  rw [gv_eq, kas_rev, getElem?_mirror_all hj]
  split <;> rw [gv_eq]
theorem gv_bubble {p : Array Nat} {k l : Nat} (hk : k < p.size) (hl : l ≤ k) (q : Nat) : gv (bubble p k (k - l)) q = if q = l then gv p k else if l < q ∧ q ≤ k then gv p (q - 1) else gv p q := by
  have e : k - (k - l) = l := by (first | lia | omega)
  rw [gv_eq, getElem?_bubble hk _ (by (first | lia | omega)), e]
  (repeat' split) <;> simp [gv_eq, hk]
structure PS (n : Nat) (p : Array Nat) (m : Nat) : Prop where
  size : p.size = n
  perm : p.toList.Perm (List.range n)
  suf : ∀ k, m ≤ k → k < n → gv p k = k
theorem PS.lt {n m : Nat} {p : Array Nat} (h : PS n p m) {k : Nat} (hk : k < n) : gv p k < n := by
  have hk' : k < p.size := by rw [h.size]; exact hk
  have : gv p k ∈ p.toList := by simp [gv, Array.getD, hk']
  exact List.mem_range.mp (h.perm.mem_iff.mp this)
theorem PS.inj {n m : Nat} {p : Array Nat} (h : PS n p m) {i j : Nat} (hi : i < n) (hj : j < n) (e : gv p i = gv p j) : i = j := by
  have hn : p.toList.Nodup := h.perm.nodup_iff.mpr List.nodup_range
  have hi' : i < p.size := by rw [h.size]; exact hi
  have hj' : j < p.size := by rw [h.size]; exact hj
  have e' : p.toList[i]'(by simpa using hi') = p.toList[j]'(by simpa using hj') := by simpa [gv, Array.getD, hi', hj'] using e
  exact (List.getElem_inj hn).mp e'
theorem PS.pre {n m : Nat} {p : Array Nat} (h : PS n p m) (hm : m ≤ n) {k : Nat} (hk : k < m) : gv p k < m := by
  have h1 := h.lt (k := k) (by (first | lia | omega))
  rcases Nat.lt_or_ge (gv p k) m with q | q
  · exact q
  · have h2 := h.suf _ q h1
    have := h.inj (i := k) (j := gv p k) (by (first | lia | omega)) h1 h2.symm
    (first | lia | omega)
theorem PS.more {n m m' : Nat} {p : Array Nat} (h : PS n p m) (hm : m ≤ m') : PS n p m' := ⟨h.size, h.perm, fun k hk => h.suf k (by (first | lia | omega))⟩
theorem PS.rev {n m i j : Nat} {p : Array Nat} (h : PS n p m) (hj : j ≤ m) (hm : m ≤ n) : PS n (kas_rev p i j) m := by
  refine ⟨by rw [kas_rev_size, h.size], ?_, fun k hk hkn => ?_⟩
  · exact (Array.perm_iff_toList_perm.mp (mirror_perm p i j _)).trans h.perm
  · rw [gv_rev (by rw [h.size]; (first | lia | omega)), if_neg (by (first | lia | omega))]; exact h.suf k hk hkn
noncomputable def Srt (r : Nat → Int) (p : Array Nat) (m : Nat) : Prop := ∀ a b, a < b → b < m → SL r (gv p a) (gv p b)
section
variable {r : Nat → Int} {n : Nat}
theorem asc_spec {p : Array Nat} : ∀ (f m : Nat), 1 ≤ m → m + f ≤ n → PS n p m → Srt r p m →
    pw (fun i j => decide (r i < r j)) n (kas_asc p f m) (fun m' => m ≤ m' ∧ m' ≤ m + f ∧ PS n p m' ∧ Srt r p m' ∧ (m' = m + f ∨ (m' < m + f ∧ r (gv p m') < r (gv p (m' - 1)))))
  | 0, m, h1, hf, hp, hs => ⟨Nat.le_refl _, Nat.le_refl _, hp, hs, .inl rfl⟩
  | f + 1, m, h1, hf, hp, hs => by
    refine pw_ask (hp.lt (by (first | lia | omega))) (hp.lt (by (first | lia | omega))) (fun (hc : r (gv p m) < r (gv p (m - 1))) => ?_) fun (hc : ¬ r (gv p m) < r (gv p (m - 1))) => ?_
    · rw [if_pos rfl]
      exact ⟨Nat.le_refl _, by (first | lia | omega), hp, hs, .inr ⟨by (first | lia | omega), hc⟩⟩
    · rw [if_neg (by simp)]
      have hm : gv p m = m := hp.suf m (Nat.le_refl _) (by (first | lia | omega))
      refine pw_mono (fun m' h => ⟨by (first | lia | omega), by (first | lia | omega), h.2.2.1, h.2.2.2.1, h.2.2.2.2.imp (fun e => by (first | lia | omega)) fun e => ⟨by (first | lia | omega), e.2⟩⟩) _ (asc_spec f (m + 1) (by (first | lia | omega)) (by (first | lia | omega)) (hp.more (by (first | lia | omega))) fun a b hab hb => ?_)
      rcases Nat.lt_or_ge b m with q | q
      · exact hs a b hab q
      · have e : b = m := by (first | lia | omega)
        subst e
        have hl : SL r (gv p (b - 1)) (gv p b) := by
          have := hp.pre (by (first | lia | omega)) (k := b - 1) (by (first | lia | omega))
          unfold SL; (first | lia | omega)
        rcases Nat.lt_or_ge a (b - 1) with q2 | q2
        · exact (hs a (b - 1) q2 (by (first | lia | omega))).trans hl
        · have e2 : a = b - 1 := by (first | lia | omega)
          rw [e2]; exact hl
/-- a falling run whose like parts stand turned, but for the last q + 1, which are alike and stand as they stood -/
noncomputable def Dsc (r : Nat → Int) (p : Array Nat) (m q : Nat) : Prop :=
  q + 1 ≤ m ∧ (∀ a b, a < b → b < m → r (gv p b) ≤ r (gv p a)) ∧ (∀ a b, a < b → b < m → (a < m - (q + 1)) → r (gv p a) = r (gv p b) → (b < m - (q + 1) ∧ gv p b < gv p a)) ∧
  (∀ a b, m - (q + 1) ≤ a → a < b → b < m → r (gv p a) = r (gv p b) ∧ gv p a < gv p b)
/-- turned whole: falling, of like parts the later first -/
noncomputable def DscAll (r : Nat → Int) (p : Array Nat) (m : Nat) : Prop := ∀ a b, a < b → b < m → r (gv p b) < r (gv p a) ∨ (r (gv p a) = r (gv p b) ∧ gv p b < gv p a)
theorem Dsc.all {p : Array Nat} {m q : Nat} (h : Dsc r p m q) (hm : m ≤ p.size) : DscAll r (kas_rev p (m - (q + 1)) m) m := by
  obtain ⟨h0, h1, h2, h3⟩ := h
  intro a b hab hb
  by_cases ha : m - (q + 1) ≤ a
  · rw [show gv (kas_rev p (m - (q + 1)) m) a = gv p (m - (q + 1) + m - 1 - a) by rw [gv_rev hm, if_pos ⟨ha, by (first | lia | omega)⟩], show gv (kas_rev p (m - (q + 1)) m) b = gv p (m - (q + 1) + m - 1 - b) by rw [gv_rev hm, if_pos ⟨by (first | lia | omega), hb⟩]]
    have := h3 (m - (q + 1) + m - 1 - b) (m - (q + 1) + m - 1 - a) (by (first | lia | omega)) (by (first | lia | omega)) (by (first | lia | omega))
    exact .inr ⟨this.1.symm, this.2⟩
  · rw [show gv (kas_rev p (m - (q + 1)) m) a = gv p a by rw [gv_rev hm, if_neg (by (first | lia | omega))]]
    by_cases hb2 : m - (q + 1) ≤ b
    · rw [show gv (kas_rev p (m - (q + 1)) m) b = gv p (m - (q + 1) + m - 1 - b) by rw [gv_rev hm, if_pos ⟨hb2, hb⟩]]
      have e1 := h1 a (m - (q + 1) + m - 1 - b) (by (first | lia | omega)) (by (first | lia | omega))
      rcases Int.lt_or_eq_of_le e1 with e | e
      · exact .inl e
      · have := h2 a (m - (q + 1) + m - 1 - b) (by (first | lia | omega)) (by (first | lia | omega)) (by (first | lia | omega)) e.symm
        (first | lia | omega)
    · rw [show gv (kas_rev p (m - (q + 1)) m) b = gv p b by rw [gv_rev hm, if_neg (by (first | lia | omega))]]
      have e1 := h1 a b hab hb
      rcases Int.lt_or_eq_of_le e1 with e | e
      · exact .inl e
      · exact .inr ⟨e.symm, (h2 a b hab hb (by (first | lia | omega)) e.symm).2⟩
theorem Dsc.all0 {p : Array Nat} {m : Nat} (h : Dsc r p m 0) : DscAll r p m := by
  obtain ⟨h0, h1, h2, h3⟩ := h
  intro a b hab hb
  have e1 := h1 a b hab hb
  rcases Int.lt_or_eq_of_le e1 with e | e
  · exact .inl e
  · exact .inr ⟨e.symm, (h2 a b hab hb (by (first | lia | omega)) e.symm).2⟩
theorem DscAll.next {p : Array Nat} {m : Nat} (h : DscAll r p m) (h1 : 1 ≤ m) (hlt : r (gv p m) < r (gv p (m - 1))) : Dsc r p (m + 1) 0 := by
  refine ⟨by (first | lia | omega), fun a b hab hb => ?_, fun a b hab hb ha e => ?_, fun a b ha hab hb => by (first | lia | omega)⟩
  · rcases Nat.lt_or_ge b m with q | q
    · have := h a b hab q; (first | lia | omega)
    · have e : b = m := by (first | lia | omega)
      subst e
      rcases Nat.lt_or_ge a (b - 1) with q2 | q2
      · have := h a (b - 1) q2 (by (first | lia | omega)); (first | lia | omega)
      · have e2 : a = b - 1 := by (first | lia | omega)
        rw [e2]; (first | lia | omega)
  · rcases Nat.lt_or_ge b m with q | q
    · have := h a b hab q; exact ⟨by (first | lia | omega), by (first | lia | omega)⟩
    · exfalso
      have e3 : b = m := by (first | lia | omega)
      subst e3
      rcases Nat.lt_or_ge a (b - 1) with q2 | q2
      · have := h a (b - 1) q2 (by (first | lia | omega)); (first | lia | omega)
      · have e2 : a = b - 1 := by (first | lia | omega)
        rw [e2] at e; (first | lia | omega)
theorem DscAll.srt {p : Array Nat} {m : Nat} (h : DscAll r p m) (hm : m ≤ p.size) : Srt r (kas_rev p 0 m) m := by
  intro a b hab hb
  rw [show gv (kas_rev p 0 m) a = gv p (0 + m - 1 - a) by rw [gv_rev hm, if_pos ⟨by (first | lia | omega), by (first | lia | omega)⟩], show gv (kas_rev p 0 m) b = gv p (0 + m - 1 - b) by rw [gv_rev hm, if_pos ⟨by (first | lia | omega), by (first | lia | omega)⟩]]
  have := h (0 + m - 1 - b) (0 + m - 1 - a) (by (first | lia | omega)) (by (first | lia | omega))
  unfold SL; (first | lia | omega)
theorem desc_spec : ∀ (f : Nat) (p : Array Nat) (m q : Nat), 1 ≤ m → m + f ≤ n → PS n p m → Dsc r p m q →
    pw (fun i j => decide (r i < r j)) n (kas_desc f p m q) (fun x => m ≤ x.2.1 ∧ x.2.1 ≤ m + f ∧ PS n x.1 x.2.1 ∧ Dsc r x.1 x.2.1 x.2.2)
  | 0, p, m, q, h1, hf, hp, hd => ⟨Nat.le_refl _, Nat.le_refl _, hp, hd⟩
  | f + 1, p, m, q, h1, hf, hp, hd => by
    have hsz : m ≤ p.size := by rw [hp.size]; (first | lia | omega)
    have hm : gv p m = m := hp.suf m (Nat.le_refl _) (by (first | lia | omega))
    refine pw_ask (hp.lt (by (first | lia | omega))) (hp.lt (by (first | lia | omega))) (fun (hc : r (gv p m) < r (gv p (m - 1))) => ?_) fun (hc : ¬ r (gv p m) < r (gv p (m - 1))) => ?_
    · rw [if_pos rfl]
      by_cases hq : q > 0
      · rw [if_pos hq]
        have hp' : PS n (kas_rev p (m - (q + 1)) m) m := hp.rev (Nat.le_refl _) (by (first | lia | omega))
        refine pw_mono (fun x h => ⟨by (first | lia | omega), by (first | lia | omega), h.2.2⟩) _ (desc_spec f _ (m + 1) 0 (by (first | lia | omega)) (by (first | lia | omega)) (hp'.more (by (first | lia | omega))) ((hd.all hsz).next h1 ?_))
        rw [show gv (kas_rev p (m - (q + 1)) m) m = gv p m by rw [gv_rev hsz, if_neg (by (first | lia | omega))], show gv (kas_rev p (m - (q + 1)) m) (m - 1) = gv p (m - (q + 1) + m - 1 - (m - 1)) by rw [gv_rev hsz, if_pos ⟨by (first | lia | omega), by (first | lia | omega)⟩]]
        have h0 := hd.1
        have e := hd.2.2.2 (m - (q + 1) + m - 1 - (m - 1)) (m - 1) (by (first | lia | omega)) (by (first | lia | omega)) (by (first | lia | omega))
        rw [e.1]; exact hc
      · rw [if_neg hq]
        have e : q = 0 := by (first | lia | omega)
        subst e
        exact pw_mono (fun x h => ⟨by (first | lia | omega), by (first | lia | omega), h.2.2⟩) _ (desc_spec f _ (m + 1) 0 (by (first | lia | omega)) (by (first | lia | omega)) (hp.more (by (first | lia | omega))) (hd.all0.next h1 hc))
    · rw [if_neg (by simp)]
      refine pw_ask (hp.lt (by (first | lia | omega))) (hp.lt (by (first | lia | omega))) (fun (hc2 : r (gv p (m - 1)) < r (gv p m)) => ?_) fun (hc2 : ¬ r (gv p (m - 1)) < r (gv p m)) => ?_
      · rw [if_pos rfl]
        exact ⟨Nat.le_refl _, (by (first | lia | omega) : m ≤ m + (f + 1)), hp, hd⟩
      · rw [if_neg (by simp)]
        have heq : r (gv p (m - 1)) = r (gv p m) := by (first | lia | omega)
        refine pw_mono (fun x h => ⟨by (first | lia | omega), by (first | lia | omega), h.2.2⟩) _ (desc_spec f p (m + 1) (q + 1) (by (first | lia | omega)) (by (first | lia | omega)) (hp.more (by (first | lia | omega))) ?_)
        obtain ⟨h0, k1, k2, k3⟩ := hd
        have last : ∀ a, a < m → r (gv p m) ≤ r (gv p a) := fun a ha => by
          rcases Nat.lt_or_ge a (m - 1) with q2 | q2
          · have := k1 a (m - 1) q2 (by (first | lia | omega)); (first | lia | omega)
          · have e2 : a = m - 1 := by (first | lia | omega)
            rw [e2]; (first | lia | omega)
        refine ⟨by (first | lia | omega), fun a b hab hb => ?_, fun a b hab hb ha e => ?_, fun a b ha hab hb => ?_⟩
        · rcases Nat.lt_or_ge b m with q2 | q2
          · exact k1 a b hab q2
          · have e2 : b = m := by (first | lia | omega)
            rw [e2]; exact last a (by (first | lia | omega))
        · rcases Nat.lt_or_ge b m with q2 | q2
          · have := k2 a b hab q2 (by (first | lia | omega)) e; exact ⟨by (first | lia | omega), this.2⟩
          · exfalso
            have e2 : b = m := by (first | lia | omega)
            rw [e2, ← heq] at e
            have := k2 a (m - 1) (by (first | lia | omega)) (by (first | lia | omega)) (by (first | lia | omega)) e
            (first | lia | omega)
        · have hpre : gv p a < m := by
            rcases Nat.lt_or_ge a m with q3 | q3
            · exact hp.pre (by (first | lia | omega)) q3
            · (first | lia | omega)
          rcases Nat.lt_or_ge b m with q2 | q2
          · exact k3 a b (by (first | lia | omega)) hab q2
          · have e2 : b = m := by (first | lia | omega)
            subst e2
            rcases Nat.lt_or_ge a (b - 1) with q4 | q4
            · have := k3 a (b - 1) (by (first | lia | omega)) q4 (by (first | lia | omega)); exact ⟨by (first | lia | omega), by (first | lia | omega)⟩
            · have e5 : a = b - 1 := by (first | lia | omega)
              subst e5; exact ⟨heq, by (first | lia | omega)⟩
theorem tail3_spec {p : Array Nat} {m : Nat} (h1 : 1 ≤ m) (hm : m ≤ n) (hp : PS n p m) (hd : DscAll r p m) :
    pw (fun i j => decide (r i < r j)) n (kas_tail3 m n p) (fun x => 1 ≤ x.1 ∧ x.1 ≤ n ∧ PS n x.2 x.1 ∧ Srt r x.2 x.1) := by
  unfold kas_tail3
  refine pw_bind _ (pw_mono (fun m' h => ?_) _ (asc_spec (r := r) (n - m) m h1 (by (first | lia | omega)) (hp.rev (i := 0) (Nat.le_refl _) hm) (hd.srt (by rw [hp.size]; exact hm))))
  exact ⟨by (first | lia | omega), by (first | lia | omega), h.2.2.1, h.2.2.2.1⟩
theorem descPart_spec {p : Array Nat} {m : Nat} (h1 : 1 ≤ m) (hm : m + 1 ≤ n) (hp : PS n p m) (hd : DscAll r p m) (hlt : r (gv p m) < r (gv p (m - 1))) :
    pw (fun i j => decide (r i < r j)) n (kas_descPart m n p) (fun x => 1 ≤ x.1 ∧ x.1 ≤ n ∧ PS n x.2 x.1 ∧ Srt r x.2 x.1) := by
  unfold kas_descPart
  refine pw_bind _ (pw_mono (fun x h => ?_) _ (desc_spec (r := r) (n - (m + 1)) p (m + 1) 0 (by (first | lia | omega)) (by (first | lia | omega)) (hp.more (by (first | lia | omega))) (hd.next h1 hlt)))
  obtain ⟨a1, a2, a3, a4⟩ := h
  have hsz : x.2.1 ≤ x.1.size := by rw [a3.size]; (first | lia | omega)
  by_cases hq : x.2.2 > 0
  · rw [if_pos hq]
    exact tail3_spec (by (first | lia | omega)) (by (first | lia | omega)) (a3.rev (Nat.le_refl _) (by (first | lia | omega))) (a4.all hsz)
  · rw [if_neg hq]
    have e : x.2.2 = 0 := by (first | lia | omega)
    rw [e] at a4
    exact tail3_spec (by (first | lia | omega)) (by (first | lia | omega)) a3 a4.all0
theorem count_spec {p : Array Nat} (h1 : 1 ≤ n) (hp : PS n p 0) :
    pw (fun i j => decide (r i < r j)) n (kas_count n p) (fun x => 1 ≤ x.1 ∧ x.1 ≤ n ∧ PS n x.2 x.1 ∧ Srt r x.2 x.1) := by
  unfold kas_count
  refine pw_bind _ (pw_mono (fun m h => ?_) _ (asc_spec (r := r) (n - 1) 1 (Nat.le_refl _) (by (first | lia | omega)) (hp.more (by (first | lia | omega))) fun a b hab hb => by (first | lia | omega)))
  obtain ⟨a1, a2, a3, a4, a5⟩ := h
  by_cases hmn : m = n
  · rw [if_pos (by simpa using hmn)]; exact ⟨by (first | lia | omega), by (first | lia | omega), a3, a4⟩
  · rw [if_neg (by simpa using hmn)]
    have hlt : r (gv p m) < r (gv p (m - 1)) := by
      rcases a5 with e | e
      · (first | lia | omega)
      · exact e.2
    have hsz : m ≤ p.size := by rw [a3.size]; (first | lia | omega)
    by_cases hm1 : m > 1
    · rw [if_pos hm1]
      refine pw_ask (a3.lt (by (first | lia | omega))) (a3.lt (by (first | lia | omega))) (fun (hc : r (gv p 0) < r (gv p (m - 1))) => ?_) fun (hc : ¬ r (gv p 0) < r (gv p (m - 1))) => ?_
      · rw [if_pos rfl]; exact ⟨by (first | lia | omega), by (first | lia | omega), a3, a4⟩
      · rw [if_neg (by simp)]
        have le0 : ∀ a, a < m → r (gv p 0) ≤ r (gv p a) := fun a ha => by
          rcases Nat.eq_zero_or_pos a with e | e
          · subst e; (first | lia | omega)
          · have := a4 0 a e ha; unfold SL at this; (first | lia | omega)
        have lel : ∀ a, a < m → r (gv p a) ≤ r (gv p (m - 1)) := fun a ha => by
          rcases Nat.lt_or_ge a (m - 1) with e | e
          · have := a4 a (m - 1) e (by (first | lia | omega)); unfold SL at this; (first | lia | omega)
          · have e2 : a = m - 1 := by (first | lia | omega)
            rw [e2]; (first | lia | omega)
        have alike : ∀ a, a < m → r (gv p a) = r (gv p 0) := fun a ha => by
          have := le0 a ha; have := lel a ha; have := le0 (m - 1) (by (first | lia | omega)); (first | lia | omega)
        refine descPart_spec (by (first | lia | omega)) (by (first | lia | omega)) (a3.rev (i := 0) (Nat.le_refl _) (by (first | lia | omega))) (fun a b hab hb => ?_) ?_
        · rw [show gv (kas_rev p 0 m) a = gv p (0 + m - 1 - a) by rw [gv_rev hsz, if_pos ⟨by (first | lia | omega), by (first | lia | omega)⟩], show gv (kas_rev p 0 m) b = gv p (0 + m - 1 - b) by rw [gv_rev hsz, if_pos ⟨by (first | lia | omega), by (first | lia | omega)⟩]]
          have e1 := alike (0 + m - 1 - a) (by (first | lia | omega))
          have e2 := alike (0 + m - 1 - b) (by (first | lia | omega))
          have := a4 (0 + m - 1 - b) (0 + m - 1 - a) (by (first | lia | omega)) (by (first | lia | omega))
          unfold SL at this
          exact .inr ⟨by (first | lia | omega), by (first | lia | omega)⟩
        · rw [show gv (kas_rev p 0 m) m = gv p m by rw [gv_rev hsz, if_neg (by (first | lia | omega))], show gv (kas_rev p 0 m) (m - 1) = gv p (0 + m - 1 - (m - 1)) by rw [gv_rev hsz, if_pos ⟨by (first | lia | omega), by (first | lia | omega)⟩]]
          have e1 := alike (0 + m - 1 - (m - 1)) (by (first | lia | omega))
          have e2 := alike (m - 1) (by (first | lia | omega))
          (first | lia | omega)
    · rw [if_neg hm1]
      have e : m = 1 := by (first | lia | omega)
      subst e
      exact descPart_spec (by (first | lia | omega)) (by (first | lia | omega)) a3 (fun a b hab hb => by (first | lia | omega)) hlt
theorem place_spec {p : Array Nat} {k : Nat} (hk : k < n) (hp : PS n p k) (hs : Srt r p k) : ∀ (f l u : Nat), l ≤ u → u ≤ k → u - l ≤ f → (∀ a, a < l → r (gv p a) ≤ r k) → (∀ a, u ≤ a → a < k → r k < r (gv p a)) →
    pw (fun i j => decide (r i < r j)) n (kas_place p k f l u) (fun x => x ≤ k ∧ (∀ a, a < x → r (gv p a) ≤ r k) ∧ (∀ a, x ≤ a → a < k → r k < r (gv p a)))
  | 0, l, u, hlu, huk, hf, h1, h2 => by
    have e : u = l := by (first | lia | omega)
    subst e
    exact ⟨huk, h1, h2⟩
  | f + 1, l, u, hlu, huk, hf, h1, h2 => by
    unfold kas_place
    by_cases hge : l ≥ u
    · rw [if_pos hge]
      have e : u = l := by (first | lia | omega)
      subst e
      exact ⟨huk, h1, h2⟩
    · rw [if_neg hge]
      have hkk : gv p k = k := hp.suf k (Nat.le_refl _) hk
      refine pw_ask (hp.lt hk) (hp.lt (by (first | lia | omega))) (fun (hc : r (gv p k) < r (gv p ((l + u) / 2))) => ?_) fun (hc : ¬ r (gv p k) < r (gv p ((l + u) / 2))) => ?_
      · rw [hkk] at hc
        rw [if_pos rfl]
        refine place_spec hk hp hs f l ((l + u) / 2) (by (first | lia | omega)) (by (first | lia | omega)) (by (first | lia | omega)) h1 fun a ha hak => ?_
        rcases Nat.lt_or_ge a u with q | q
        · rcases Nat.lt_or_ge ((l + u) / 2) a with q2 | q2
          · have := hs _ a q2 hak; unfold SL at this; (first | lia | omega)
          · have e : a = (l + u) / 2 := by (first | lia | omega)
            rw [e]; exact hc
        · exact h2 a q hak
      · rw [hkk] at hc
        rw [if_neg (by simp)]
        refine place_spec hk hp hs f ((l + u) / 2 + 1) u (by (first | lia | omega)) huk (by (first | lia | omega)) (fun a ha => ?_) h2
        rcases Nat.lt_or_ge a ((l + u) / 2) with q | q
        · have := hs a _ q (by (first | lia | omega)); unfold SL at this; (first | lia | omega)
        · have e : a = (l + u) / 2 := by (first | lia | omega)
          rw [e]; (first | lia | omega)
theorem bin_spec : ∀ (f : Nat) (p : Array Nat) (k : Nat), k + f = n → PS n p k → Srt r p k → pw (fun i j => decide (r i < r j)) n (kas_bin f p k) (fun x => PS n x n ∧ Srt r x n)
  | 0, p, k, hf, hp, hs => by
    have e : k = n := by (first | lia | omega)
    subst e
    exact ⟨hp, hs⟩
  | f + 1, p, k, hf, hp, hs => by
    have hk : k < n := by (first | lia | omega)
    have hksz : k < p.size := by rw [hp.size]; exact hk
    have hkk : gv p k = k := hp.suf k (Nat.le_refl _) hk
    refine pw_bind _ (pw_mono (fun x h => ?_) _ (place_spec hk hp hs k 0 k (Nat.zero_le _) (Nat.le_refl _) (by (first | lia | omega)) (fun a ha => by (first | lia | omega)) fun a ha hak => by (first | lia | omega)))
    obtain ⟨hx, b1, b2⟩ := h
    refine bin_spec f _ (k + 1) (by (first | lia | omega)) ⟨by rw [bubble_size, hp.size], (Array.perm_iff_toList_perm.mp (bubble_perm p k _)).trans hp.perm, fun q hq hqn => ?_⟩ fun a b hab hb => ?_
    · rw [gv_bubble hksz hx, if_neg (by (first | lia | omega)), if_neg (by (first | lia | omega))]; exact hp.suf q (by (first | lia | omega)) hqn
    · have pre : ∀ c, c < k → gv p c < k := fun c hc => hp.pre (by (first | lia | omega)) hc
      rw [gv_bubble hksz hx, gv_bubble hksz hx, hkk]
      rcases Nat.lt_trichotomy a x with q | q | q
      · rw [if_neg (by (first | lia | omega)), if_neg (by (first | lia | omega))]
        rcases Nat.lt_trichotomy b x with q2 | q2 | q2
        · rw [if_neg (by (first | lia | omega)), if_neg (by (first | lia | omega))]; exact hs a b hab (by (first | lia | omega))
        · rw [if_pos q2]
          have := b1 a q; have := pre a (by (first | lia | omega)); unfold SL; (first | lia | omega)
        · rw [if_neg (by (first | lia | omega)), if_pos ⟨q2, by (first | lia | omega)⟩]; exact hs a (b - 1) (by (first | lia | omega)) (by (first | lia | omega))
      · rw [if_pos q, if_neg (by (first | lia | omega)), if_pos ⟨by (first | lia | omega), by (first | lia | omega)⟩]
        exact .inl (b2 (b - 1) (by (first | lia | omega)) (by (first | lia | omega)))
      · rw [if_neg (by (first | lia | omega)), if_pos ⟨q, by (first | lia | omega)⟩, if_neg (by (first | lia | omega)), if_pos ⟨by (first | lia | omega), by (first | lia | omega)⟩]
        exact hs (a - 1) (b - 1) (by (first | lia | omega)) (by (first | lia | omega))
theorem sort_spec (h1 : 1 ≤ n) : pw (fun i j => decide (r i < r j)) n (kas_sort n) (fun p => p.toList.Perm (List.range n) ∧ p.toList.Pairwise (SL r)) := by
  have fin : ∀ x : Array Nat, PS n x n → Srt r x n → x.toList.Perm (List.range n) ∧ x.toList.Pairwise (SL r) := fun x hp hs => by
    refine ⟨hp.perm, List.pairwise_iff_getElem.mpr fun i j hi hj hij => ?_⟩
    have hi' : i < x.size := by simpa using hi
    have hj' : j < x.size := by simpa using hj
    have := hs i j hij (by rw [← hp.size]; exact hj')
    simpa [gv, Array.getD, hi', hj'] using this
  unfold kas_sort
  have hp0 : PS n (List.toArray (List.range n)) 0 := ⟨by simp, by simp, fun k _ hk => by simp [gv, Array.getD, hk]⟩
  refine pw_bind _ (pw_mono (fun x h => ?_) _ (count_spec (r := r) h1 hp0))
  obtain ⟨a1, a2, a3, a4⟩ := h
  by_cases hlt : x.1 < n
  · rw [if_pos hlt]
    have e : max x.1 1 = x.1 := by (first | lia | omega)
    rw [e]
    exact pw_mono (fun y h => fin y h.1 h.2) _ (bin_spec (n - x.1) x.2 x.1 (by (first | lia | omega)) a3 a4)
  · rw [if_neg hlt]
    have e : x.1 = n := by (first | lia | omega)
    rw [e] at a3 a4
    exact fin _ a3 a4
end
end Mine
end
theorem Mine.start_O1 : True := by
  w_top off
  trivial
section
open PySem PySem.W PySem.Calls PyProof.Rows
set_option maxRecDepth 100000
set_option maxHeartbeats 4000000
namespace Mine
noncomputable def turned (b : Bool) (r : Nat → Int) : Nat → Int := fun i => if b = true then - r i else r i
theorem rev_out {b : Bool} {r : Nat → Int} {N : Nat} {vs : List Value} (hN : vs.length = N) {p : List Nat} (hp : p.Perm (List.range N)) (hs : p.Pairwise (SL fun i => r (if b = true then N - 1 - i else i))) :
    ∃ q : List Nat, q.Perm (List.range N) ∧ q.Pairwise (SL (turned b r)) ∧ katRev b (p.map fun i => (katRev b vs).getD i Value.none) = q.map fun i => vs.getD i Value.none := by
  have hlt : ∀ i ∈ p, i < N := fun i hi => List.mem_range.mp (hp.mem_iff.mp hi)
  cases b with
  | false => exact ⟨p, hp, List.Pairwise.imp (fun {i j} h => by simpa [turned, SL] using h) hs, rfl⟩
  | true =>
    refine ⟨(p.map fun i => N - 1 - i).reverse, ?_, ?_, ?_⟩
    · refine (List.reverse_perm _).trans ?_
      refine (hp.map _).trans ?_
      have : (List.range N).map (fun i => N - 1 - i) = (List.range N).reverse := by
        apply List.ext_getElem
        · simp
        · intro i h1 h2; simp
      rw [this]; exact List.reverse_perm _
    · rw [List.pairwise_reverse, List.pairwise_map]
      refine List.Pairwise.imp_of_mem (fun {i j} hi hj h => ?_) hs
      have := hlt i hi; have := hlt j hj
      simp only [turned, SL, if_true] at h ⊢
      (first | lia | omega)
    · show ((p.map fun i => (vs.reverse).getD i Value.none)).reverse = _
      rw [List.map_reverse, List.map_map]
      congr 1
      refine List.map_congr_left fun i hi => ?_
      have := hlt i hi
      simp only [Function.comp]
      rw [List.getD_eq_getElem?_getD, List.getD_eq_getElem?_getD, List.getElem?_reverse (by (first | lia | omega)), hN]
section
variable {prog : Program} {w : World} {A : Around} {E : Value → Shared → Prop} {s : Shared} {a : Addr} {vs ks : List Value} {κ : SortKind} {b : Bool} {r : Nat → Int}
noncomputable def Toks (s s' : Shared) : Prop := ∃ tk, s' = { s with toks := tk }
theorem sort_core {Q : Unit × SortSt → Shared → Prop} (hl : ks.length = vs.length) (h2 : 2 ≤ vs.length) (h64 : vs.length < 64)
    (hcmp : ∀ i j (C : Bool → Shared → Prop) tk, i < vs.length → j < vs.length → (∀ tk', C (decide (r i < r j)) { s with toks := tk' }) → wpAny (model prog w) A (keyLt' κ (ks.getD i Value.none) (ks.getD j Value.none)) C (fun _ _ => False) { s with toks := tk })
    (hQ : ∀ st' tk (p : Array Nat), arrOf st' = p.map (kas_item (ks.toArray.zip vs.toArray)) → failedOf st' = none → p.toList.Perm (List.range vs.length) → p.toList.Pairwise (SL r) → Q ((), st') { s with toks := tk }) :
    wpAny (model prog w) A ((sortRuns').run (SortSt.mk' κ (ks.toArray.zip vs.toArray) #[] 7 none)) Q E s := by
  refine kat_run (Q := fun st' s' => Q ((), st') s') (G := fun p s' => (p.toList.Perm (List.range vs.length) ∧ p.toList.Pairwise (SL r)) ∧ Toks s s') hl h2 h64 (fun p st' s' a1 a2 a3 a4 => ?_) ?_
  · obtain ⟨⟨b1, b2⟩, tk, rfl⟩ := a4
    exact hQ st' tk p a2 a3 b1 b2
  · refine kasWp_pw (lt := fun i j => decide (r i < r j)) (n := vs.length) (P := Toks s) (fun i j C s' hi hj hs hC => ?_) _ s ⟨s.toks, rfl⟩ (pw_mono (fun p hp s' hs' => ⟨hp, hs'⟩) _ (sort_spec (by (first | lia | omega))))
    obtain ⟨tk, rfl⟩ := hs
    exact hcmp i j C tk hi hj fun tk' => hC _ ⟨tk', rfl⟩

/-- list.sort without a key -/
noncomputable def nk_tree (a : Addr) (b : Bool) : Sem PySem.Fin := do
  let items ← Builtin.List.listItems (.ref a)
  Builtin.List.listUpdate (.ref a) fun _ => #[]
  let before ← seqEpoch a
  let held ← newTuple items.toList
  let keyStore ← newList []
  holding [held, keyStore] do
    if b then rule "list.sort.reverse"
    let kind ← if items.size < 2 then pure general' else keyKind' items
    let ((), s) ← (if items.size < 2 then pure () else sortRuns').run (SortSt.mk' kind (if b then (items.zip items).reverse else items.zip items) #[] 7 none)
    let sorted := (arrOf s).map (·.2)
    let touched := (← seqEpoch a) != before
    Builtin.List.listUpdate (.ref a) fun _ => if b then sorted.reverse else sorted
    if let some e := failedOf s then rule "list.sort.comparison-raised"; throw e
    if touched then rule "list.sort.modified"; raiseError "ValueError" "list modified during sort"
    ret .none
theorem nk_1 (a : Addr) : Builtin.«list.sort» ⟨[.ref a], []⟩ = nk_tree a false := rfl
theorem nk_2 (a : Addr) (b : Bool) : Builtin.«list.sort» ⟨[.ref a], [(Str.ofString "reverse", .bool b)]⟩ = nk_tree a b := rfl
theorem nk_3 (a : Addr) : Builtin.«list.sort» ⟨[.ref a], [(Str.ofString "key", .none)]⟩ = nk_tree a false := rfl
theorem nk_4 (a : Addr) (b : Bool) : Builtin.«list.sort» ⟨[.ref a], [(Str.ofString "key", .none), (Str.ofString "reverse", .bool b)]⟩ = nk_tree a b := rfl

theorem nk_sort {n : Nat} {P : PySem.Fin → Shared → Prop} (ho : s.heap.get? a = some (listOf vs.toArray n)) (h2 : 2 ≤ vs.length) (h64 : vs.length < 64)
    (hkind : ∀ h tk, (∀ c o, c ≠ a → s.heap.get? c = some o → h.get? c = some o) → ∀ (Q' : SortKind → Shared → Prop) (E' : Value → Shared → Prop), Q' κ { s with heap := h, toks := tk } → wpAny (model prog w) A (keyKind' vs.toArray) Q' E' { s with heap := h, toks := tk })
    (hcmp : ∀ i j h tk (C : Bool → Shared → Prop), (∀ c o, c ≠ a → s.heap.get? c = some o → h.get? c = some o) → i < vs.length → j < vs.length → (∀ tk', C (decide (r i < r j)) { s with heap := h, toks := tk' }) →
      wpAny (model prog w) A (keyLt' κ (vs.getD i Value.none) (vs.getD j Value.none)) C (fun _ _ => False) { s with heap := h, toks := tk })
    (hP : ∀ h' tk' (q : List Nat) c, q.Perm (List.range vs.length) → q.Pairwise (SL (turned b r)) → h'.get? a = some (listOf (q.map fun i => vs.getD i Value.none).toArray c) → (∀ c o, c ≠ a → s.heap.get? c = some o → h'.get? c = some o) → s.heap.objs.size ≤ h'.objs.size →
      P (.done (.ret .none)) { s with heap := h', toks := tk' }) :
    wpAny (model prog w) A (nk_tree a b) P E s := by
  have s1 := Heap.SameBut.update s.heap a (Obj.mapSeq fun _ => (#[] : Array Value))
  obtain ⟨e1, ho1⟩ : ∃ e1, (s.heap.update a (Obj.mapSeq fun _ => (#[] : Array Value))).get? a = some (listOf #[] e1) := ⟨_, get?_update_seq ho fun _ => #[]⟩
  unfold nk_tree
  refine wpAny_bind (listItems_at ho rfl ?_)
  refine wpAny_bind (listUpdate_at ho rfl ?_ (by rw [List.size_toArray, sizeLine_eq]; (first | lia | omega)) (Nat.zero_le _))
  refine wpAny_bind (seqEpoch_at ho1 rfl ?_)
  refine wpAny_bind (wpAny_newTuple ?_ (by show vs.length ≤ _; rw [sizeLine_eq]; (first | lia | omega)))
  refine wpAny_bind (wpAny_newList ?_ (Nat.zero_le _))
  refine wpAny_holding ?_
  show wpAny (model prog w) A _ P E { s with heap := ((s.heap.update a (Obj.mapSeq fun _ => (#[] : Array Value))).push (seqObj "tuple" vs.toArray 0)).push (seqObj "list" #[] 0) }
  have keep3 : ∀ c o, (s.heap.update a (Obj.mapSeq fun _ => (#[] : Array Value))).get? c = some o → (((s.heap.update a (Obj.mapSeq fun _ => (#[] : Array Value))).push (seqObj "tuple" vs.toArray 0)).push (seqObj "list" #[] 0)).get? c = some o :=
    fun c o e => Heap.get?_push_of_some _ (Heap.get?_push_of_some _ e)
  have hsz3 : s.heap.objs.size ≤ (((s.heap.update a (Obj.mapSeq fun _ => (#[] : Array Value))).push (seqObj "tuple" vs.toArray 0)).push (seqObj "list" #[] 0)).objs.size := by
    simp only [Heap.size_push, Heap.size_after_update]; (first | lia | omega)
  generalize ((s.heap.update a (Obj.mapSeq fun _ => (#[] : Array Value))).push (seqObj "tuple" vs.toArray 0)).push (seqObj "list" #[] 0) = H3 at keep3 hsz3 ⊢
  have k3 : ∀ c o, c ≠ a → s.heap.get? c = some o → H3.get? c = some o := fun c o hc e => keep3 c o ((s1.2 c hc).trans e)
  have hn2 : ¬ vs.toArray.size < 2 := by rw [List.size_toArray]; (first | lia | omega)
  have step : ∀ t : Sem PySem.Fin, wpAny (model prog w) A t P E { s with heap := H3 } → wpAny (model prog w) A (if b = true then (do let _ ← rule "list.sort.reverse"; t) else t) P E { s with heap := H3 } := by
    intro t ht
    split
    · exact wpAny_bind (wpAny_rule ht)
    · exact ht
  dsimp only
  refine step _ ?_
  rw [if_neg hn2, if_neg hn2]
  refine wpAny_bind (hkind H3 s.toks k3 _ _ ?_)
  rw [kat_pairs b rfl]
  have hlr : (katRev b vs).length = vs.length := kat_len b vs
  have hget : ∀ i, i < vs.length → (katRev b vs).getD i Value.none = vs.getD (if b = true then vs.length - 1 - i else i) Value.none := fun i hi => by
    cases b with
    | false => rfl
    | true =>
      show (vs.reverse).getD i Value.none = _
      rw [List.getD_eq_getElem?_getD, List.getD_eq_getElem?_getD, List.getElem?_reverse (by (first | lia | omega)), if_pos rfl]
  refine wpAny_bind (sort_core (r := fun i => r (if b = true then vs.length - 1 - i else i)) rfl (by rw [hlr]; exact h2) (by rw [hlr]; exact h64) (fun i j C tk hi hj hC => ?_) fun st' tk p har hf hp hs => ?_)
  · rw [hlr] at hi hj
    rw [hget i hi, hget j hj]
    exact hcmp _ _ H3 tk C k3 (by split <;> (first | lia | omega)) (by split <;> (first | lia | omega)) hC
  · rw [hlr] at hp
    obtain ⟨q, hq1, hq2, hq3⟩ := rev_out (b := b) (r := r) (vs := vs) rfl hp hs
    have hout : (arrOf st').map (·.2) = List.toArray (p.toList.map fun i => (katRev b vs).getD i Value.none) := kat_snds rfl har
    have na := keep3 _ _ ho1
    dsimp only
    rw [hout, kat_outs, hq3]
    have s2 := Heap.SameBut.update H3 a (Obj.mapSeq fun _ => List.toArray (q.map fun i => vs.getD i Value.none))
    obtain ⟨c2, hc2⟩ : ∃ c2, (H3.update a (Obj.mapSeq fun _ => List.toArray (q.map fun i => vs.getD i Value.none))).get? a = some (listOf (List.toArray (q.map fun i => vs.getD i Value.none)) c2) := ⟨_, get?_update_seq na fun _ => List.toArray (q.map fun i => vs.getD i Value.none)⟩
    have hql : q.length = vs.length := by rw [hq1.length_eq, List.length_range]
    refine wpAny_bind (seqEpoch_at na rfl ?_)
    refine wpAny_bind (listUpdate_at na rfl ?_ (Nat.zero_le _) (by rw [List.size_toArray, List.length_map, hql, sizeLine_eq]; (first | lia | omega)))
    rw [hf]
    simp only [bne_self_eq_false, Bool.false_eq_true, if_false]
    exact wpAny_pure (hP _ _ q c2 hq1 hq2 hc2 (fun c o hc e => (s2.2 c hc).trans (k3 c o hc e)) (by rw [Heap.size_after_update]; exact hsz3))
end
end Mine
end
theorem Mine.start_O2 : True := by
  w_top off
  trivial
section
open PySem PySem.W PySem.Calls PyProof.Rows
set_option maxRecDepth 100000
set_option maxHeartbeats 4000000
namespace Mine
section
variable {prog : Program} {w : World} {A : Around} {E : Value → Shared → Prop} {s : Shared} {a : Addr} {vs : List Value} {b : Bool} {r : Nat → Int} {S : Nat → Str}
/-- texts, one for each place -/
noncomputable def StrsAre (S : Nat → Str) (ks : List Value) : Prop := ∀ i v, ks[i]? = some v → ∃ t, v = Value.str (S i) t
theorem StrsAre.get {S : Nat → Str} {ks : List Value} (h : StrsAre S ks) {i : Nat} (hi : i < ks.length) : ∃ t, ks.getD i Value.none = Value.str (S i) t := by
  obtain ⟨t, e⟩ := h i ks[i] (by simp [hi])
  exact ⟨t, by rw [List.getD_eq_getElem?_getD, List.getElem?_eq_getElem hi]; exact e⟩
theorem strs_kind {ks : List Value} {Q : SortKind → Shared → Prop} (h : StrsAre S ks) (h2 : 2 ≤ ks.length) (hq : Q oneType' s) : wpAny (model prog w) A (keyKind' ks.toArray) Q E s := by
  refine kas_kind (T := Value.type "str") h2 (fun v hv => ?_) (by decide +kernel) (by decide +kernel) hq
  obtain ⟨i, hi, rfl⟩ := List.mem_iff_getElem.mp hv
  obtain ⟨t, e⟩ := h i ks[i] (by simp [hi])
  rw [e]
  exact Looks.of_pure rfl
theorem strs_lt {ks : List Value} {C : Bool → Shared → Prop} (h : StrsAre S ks) {i j : Nat} (hi : i < ks.length) (hj : j < ks.length) (hC : C (strLt (S i) (S j)) s) : wpAny (model prog w) A (keyLt' oneType' (ks.getD i Value.none) (ks.getD j Value.none)) C E s := by
  obtain ⟨t, e1⟩ := h.get hi
  obtain ⟨u, e2⟩ := h.get hj
  rw [e1, e2]
  exact kas_lt_str hC
theorem kk_sort {f : Addr} {n : Nat} {P : PySem.Fin → Shared → Prop} (ho : s.heap.get? a = some (listOf vs.toArray n)) (h2 : 2 ≤ vs.length) (h64 : vs.length < 64)
    (hkey : ∀ i v, vs[i]? = some v → ∀ h tk (Q' : Value → Shared → Prop) (E' : Value → Shared → Prop), (∀ c o, c ≠ a → s.heap.get? c = some o → h.get? c = some o) →
      (∀ h' tk' t, Stays h h' → h.objs.size ≤ h'.objs.size → Q' (.str (S i) t) { s with heap := h', toks := tk' }) → wpAny (model prog w) A (call (.ref f) [v]) Q' E' { s with heap := h, toks := tk })
    (hr : ∀ i j, i < vs.length → j < vs.length → strLt (S i) (S j) = decide (r i < r j))
    (hP : ∀ h' tk' (q : List Nat) c, q.Perm (List.range vs.length) → q.Pairwise (SL (turned b r)) → h'.get? a = some (listOf (q.map fun i => vs.getD i Value.none).toArray c) → (∀ c o, c ≠ a → s.heap.get? c = some o → h'.get? c = some o) → s.heap.objs.size ≤ h'.objs.size →
      P (.done (.ret .none)) { s with heap := h', toks := tk' }) :
    wpAny (model prog w) A (ksk_tree a (.ref f) b) P E s := by
  have s1 := Heap.SameBut.update s.heap a (Obj.mapSeq fun _ => (#[] : Array Value))
  obtain ⟨e1, ho1⟩ : ∃ e1, (s.heap.update a (Obj.mapSeq fun _ => (#[] : Array Value))).get? a = some (listOf #[] e1) := ⟨_, get?_update_seq ho fun _ => #[]⟩
  have halt : a < s.heap.objs.size := Heap.lt_size ho
  unfold ksk_tree
  refine wpAny_bind (listItems_at ho rfl ?_)
  refine wpAny_bind (listUpdate_at ho rfl ?_ (by rw [List.size_toArray, sizeLine_eq]; (first | lia | omega)) (Nat.zero_le _))
  refine wpAny_bind (seqEpoch_at ho1 rfl ?_)
  refine wpAny_bind (wpAny_newTuple ?_ (by show vs.length ≤ _; rw [sizeLine_eq]; (first | lia | omega)))
  refine wpAny_bind (wpAny_newList ?_ (Nat.zero_le _))
  refine wpAny_holding ?_
  show wpAny (model prog w) A (ksk_rest a (.ref f) b vs.toArray e1 (.ref ((s.heap.update a (Obj.mapSeq fun _ => (#[] : Array Value))).push (seqObj "tuple" vs.toArray 0)).objs.size)) P E { s with heap := ((s.heap.update a (Obj.mapSeq fun _ => (#[] : Array Value))).push (seqObj "tuple" vs.toArray 0)).push (seqObj "list" #[] 0) }
  have hkS : ((s.heap.update a (Obj.mapSeq fun _ => (#[] : Array Value))).push (seqObj "tuple" vs.toArray 0)).objs.size = s.heap.objs.size + 1 := by simp only [Heap.size_push, Heap.size_after_update]
  have keep3 : ∀ c o, (s.heap.update a (Obj.mapSeq fun _ => (#[] : Array Value))).get? c = some o → (((s.heap.update a (Obj.mapSeq fun _ => (#[] : Array Value))).push (seqObj "tuple" vs.toArray 0)).push (seqObj "list" #[] 0)).get? c = some o :=
    fun c o e => Heap.get?_push_of_some _ (Heap.get?_push_of_some _ e)
  have hk3 : (((s.heap.update a (Obj.mapSeq fun _ => (#[] : Array Value))).push (seqObj "tuple" vs.toArray 0)).push (seqObj "list" #[] 0)).get? (s.heap.objs.size + 1) = some (listOf #[] 0) := by rw [← hkS]; exact Heap.get?_push_size _ rfl
  have hsz3 : s.heap.objs.size ≤ (((s.heap.update a (Obj.mapSeq fun _ => (#[] : Array Value))).push (seqObj "tuple" vs.toArray 0)).push (seqObj "list" #[] 0)).objs.size := by
    simp only [Heap.size_push, Heap.size_after_update]; (first | lia | omega)
  rw [hkS]
  generalize ((s.heap.update a (Obj.mapSeq fun _ => (#[] : Array Value))).push (seqObj "tuple" vs.toArray 0)).push (seqObj "list" #[] 0) = H3 at keep3 hsz3 hk3 ⊢
  have k3 : ∀ c o, c ≠ a → s.heap.get? c = some o → H3.get? c = some o := fun c o hc e => keep3 c o ((s1.2 c hc).trans e)
  have haS : a ≠ s.heap.objs.size + 1 := Nat.ne_of_lt (Nat.lt_succ_of_lt halt)
  generalize hKS : s.heap.objs.size + 1 = kS at *
  have oldS : ∀ c o, s.heap.get? c = some o → c ≠ kS := fun c o e => by have := ltN (Heap.lt_size e); exact neN (by (first | lia | omega))
  unfold ksk_rest
  refine wpAny_bind (wpAny_rule ?_)
  rw [List.forIn_toArray]
  refine wpAny_bind (wpAny_forIn_list _ (fun rest _ s' => ∃ done h tk ks c, vs = done ++ rest ∧ s' = { s with heap := h, toks := tk } ∧ ks.length = done.length ∧ StrsAre S ks ∧ h.get? kS = some (listOf ks.toArray c) ∧ h.get? a = some (listOf #[] e1) ∧
      (∀ c o, c ≠ a → s.heap.get? c = some o → h.get? c = some o) ∧ s.heap.objs.size ≤ h.objs.size) _ ?_ ?_ _ _ ⟨[], H3, s.toks, [], 0, rfl, rfl, rfl, fun i v q => by simp at q, hk3, keep3 _ _ ho1, k3, hsz3⟩)
  · rintro x rest u s' ⟨done, h, tk, ks, c, hvs, rfl, hkl, hks, hkS', ha', hk', hsz'⟩
    have hx : vs[done.length]? = some x := by rw [hvs]; simp
    have hdl : done.length < vs.length := by rw [hvs]; simp
    refine wpAny_bind (wpAny_attempt (hkey done.length x hx h tk _ _ hk' fun h2 tk2 t st hsz2 => ?_))
    have nk := st _ _ hkS'
    have s1' := Heap.SameBut.update h2 kS (Obj.mapSeq (·.push (Value.str (S done.length) t)))
    have ea : (ks.toArray).push (Value.str (S done.length) t) = (ks ++ [Value.str (S done.length) t]).toArray := by simp
    obtain ⟨c2, hc2⟩ : ∃ c2, (h2.update kS (Obj.mapSeq (·.push (Value.str (S done.length) t)))).get? kS = some (listOf (ks ++ [Value.str (S done.length) t]).toArray c2) := ⟨_, by rw [← ea]; exact get?_update_seq nk (·.push (Value.str (S done.length) t))⟩
    dsimp only
    refine wpAny_bind (listUpdate_at nk rfl ?_ (by rw [List.size_toArray, sizeLine_eq]; (first | lia | omega)) (Nat.le_trans (Nat.le_of_eq (Array.size_push ..)) (by rw [List.size_toArray, sizeLine_eq]; (first | lia | omega))))
    refine wpAny_pure ⟨done ++ [x], _, _, _, c2, by rw [hvs]; simp, rfl, by simp [hkl], fun i v q => ?_, hc2, (s1'.2 a haS).trans (st _ _ ha'), fun c o hc e => (s1'.2 c (oldS c o e)).trans (st _ _ (hk' c o hc e)), ?_⟩
    · rcases Nat.lt_trichotomy i ks.length with hi | hi | hi
      · rw [List.getElem?_append_left hi] at q; exact hks i v q
      · subst hi
        simp only [List.getElem?_append_right (Nat.le_refl _), Nat.sub_self, List.getElem?_cons_zero, Option.some.injEq] at q
        exact ⟨t, by rw [← q, hkl]⟩
      · rw [List.getElem?_eq_none (by rw [List.length_append, List.length_singleton]; (first | lia | omega))] at q; cases q
    · rw [Heap.size_after_update]; exact Nat.le_trans hsz' hsz2
  · rintro u s' ⟨done, h, tk, ks, c, hvs, rfl, hkl, hks, hkS', ha', hk', hsz'⟩
    have hl : ks.length = vs.length := by rw [hkl, hvs]; simp
    refine wpAny_bind (listItems_at hkS' rfl ?_)
    unfold ksk_end
    have hn2 : ¬ vs.toArray.size < 2 := by rw [List.size_toArray]; (first | lia | omega)
    have step : ∀ t : Sem PySem.Fin, wpAny (model prog w) A t P E { s with heap := h, toks := tk } → wpAny (model prog w) A (if b = true then (do let _ ← rule "list.sort.reverse"; t) else t) P E { s with heap := h, toks := tk } := by
      intro t ht
      split
      · exact wpAny_bind (wpAny_rule ht)
      · exact ht
    dsimp only
    refine step _ ?_
    rw [if_neg hn2, if_neg hn2]
    refine wpAny_bind (strs_kind hks (by (first | lia | omega)) ?_)
    rw [kat_pairs b hl]
    have hlr : (katRev b vs).length = vs.length := kat_len b vs
    have hlk : (katRev b ks).length = (katRev b vs).length := by rw [kat_len, kat_len, hl]
    have hget : ∀ i, i < vs.length → (katRev b ks).getD i Value.none = ks.getD (if b = true then vs.length - 1 - i else i) Value.none := fun i hi => by
      cases b with
      | false => rfl
      | true =>
        show (ks.reverse).getD i Value.none = _
        rw [List.getD_eq_getElem?_getD, List.getD_eq_getElem?_getD, List.getElem?_reverse (by (first | lia | omega)), if_pos rfl, hl]
    refine wpAny_bind (sort_core (s := { s with heap := h, toks := tk }) (r := fun i => r (if b = true then vs.length - 1 - i else i)) hlk (by rw [hlr]; exact h2) (by rw [hlr]; exact h64) (fun i j C tk' hi hj hC => ?_) fun st' tk' p har hf hp hs => ?_)
    · rw [hlr] at hi hj
      rw [hget i hi, hget j hj]
      refine strs_lt hks (by split <;> (first | lia | omega)) (by split <;> (first | lia | omega)) ?_
      rw [hr _ _ (by split <;> (first | lia | omega)) (by split <;> (first | lia | omega))]
      exact hC _
    · rw [hlr] at hp
      obtain ⟨q, hq1, hq2, hq3⟩ := rev_out (b := b) (r := r) (vs := vs) rfl hp hs
      have hout : (arrOf st').map (·.2) = List.toArray (p.toList.map fun i => (katRev b vs).getD i Value.none) := kat_snds hlk har
      have hql : q.length = vs.length := by rw [hq1.length_eq, List.length_range]
      unfold ksk_tail
      dsimp only
      rw [hout, kat_outs, hq3]
      have t1 := Heap.SameBut.update h kS (Obj.mapSeq fun _ => (#[] : Array Value))
      have na : (h.update kS (Obj.mapSeq fun _ => (#[] : Array Value))).get? a = some (listOf #[] e1) := (t1.2 a haS).trans ha'
      have t2 := Heap.SameBut.update (h.update kS (Obj.mapSeq fun _ => (#[] : Array Value))) a (Obj.mapSeq fun _ => List.toArray (q.map fun i => vs.getD i Value.none))
      obtain ⟨c2, hc2⟩ : ∃ c2, ((h.update kS (Obj.mapSeq fun _ => (#[] : Array Value))).update a (Obj.mapSeq fun _ => List.toArray (q.map fun i => vs.getD i Value.none))).get? a = some (listOf (List.toArray (q.map fun i => vs.getD i Value.none)) c2) := ⟨_, get?_update_seq na fun _ => List.toArray (q.map fun i => vs.getD i Value.none)⟩
      refine wpAny_bind (listUpdate_at hkS' rfl ?_ (by rw [List.size_toArray, sizeLine_eq]; (first | lia | omega)) (Nat.zero_le _))
      refine wpAny_bind (wpAny_letGo ?_)
      refine wpAny_bind (seqEpoch_at na rfl ?_)
      refine wpAny_bind (listUpdate_at na rfl ?_ (Nat.zero_le _) (by rw [List.size_toArray, List.length_map, hql, sizeLine_eq]; (first | lia | omega)))
      rw [hf]
      simp only [bne_self_eq_false, Bool.false_eq_true, if_false]
      exact wpAny_pure (hP _ _ q c2 hq1 hq2 hc2 (fun c o hc e => (t2.2 c hc).trans ((t1.2 c (oldS c o e)).trans (hk' c o hc e))) (by simp only [Heap.size_after_update]; exact hsz'))

/-- sorted(l, ..), by what list.sort does to the copy -/
theorem sorted_call {l : Addr} {kw : List (Str × Value)} {Q : Value → Shared → Prop} {tree : Addr → Sem PySem.Fin} (hl : s.heap.IsList l vs.toArray) (h64 : vs.length < 64)
    (ha1 : argsOk "sorted" ⟨[.ref l], kw⟩) (ha2 : ∀ x, argsOk "list.sort" ⟨[.ref x], kw⟩) (ht : ∀ x, Builtin.«list.sort» ⟨[.ref x], kw⟩ = tree x)
    (h : ∀ D h', D = s.heap.objs.size + 1 → h'.get? D = some (listOf vs.toArray 0) → Stays s.heap h' → s.heap.objs.size ≤ h'.objs.size →
      wpAny (model prog w) A.in1.in1 (tree D) (fun fin s' => fin = .done (.ret .none) ∧ Q (.ref D) s') E { s with heap := h' }) :
    wpAny (model prog w) A (call (.builtin "sorted") [.ref l] kw) Q E s := by
  refine call_function_entry_kw kind_sorted plain_sorted entry_sorted ha1 ?_
  unfold Builtin.«sorted»
  refine wpAny_bind (m := checkCount "sorted" 1 1 _) (wpAny_pure ?_)
  refine wpAny_bind (collect_list hl ?_ (by rw [sizeLine_eq]; (first | lia | omega)))
  refine wpAny_bind (wpAny_newList ?_ (by rw [sizeLine_eq]; (first | lia | omega)))
  have hsz : ((s.heap.push (seqObj "list" #[] 0)).update s.heap.objs.size (Obj.mapSeq (· ++ vs.toArray))).objs.size = s.heap.objs.size + 1 := by
    rw [Heap.size_update, size_push']
  have hoL : (((s.heap.push (seqObj "list" #[] 0)).update s.heap.objs.size (Obj.mapSeq (· ++ vs.toArray))).push (seqObj "list" vs.toArray 0)).get? (s.heap.objs.size + 1) = some (seqObj "list" vs.toArray 0) := by
    rw [← hsz]; exact Heap.get?_push_size _ rfl
  have keep : Stays s.heap (((s.heap.push (seqObj "list" #[] 0)).update s.heap.objs.size (Obj.mapSeq (· ++ vs.toArray))).push (seqObj "list" vs.toArray 0)) := fun b o q => by
    have hlt : b < s.heap.objs.size := Heap.lt_size q
    rw [Heap.get?_push_ne _ _ _ (by rw [hsz]; exact Nat.ne_of_lt (Nat.lt_succ_of_lt hlt)), Heap.get?_update_ne _ _ _ _ (Nat.ne_of_lt hlt), Heap.get?_push_ne _ _ _ (Nat.ne_of_lt hlt)]
    exact q
  have hge : s.heap.objs.size ≤ (((s.heap.push (seqObj "list" #[] 0)).update s.heap.objs.size (Obj.mapSeq (· ++ vs.toArray))).push (seqObj "list" vs.toArray 0)).objs.size := by
    rw [size_push', hsz]; (first | lia | omega)
  show wpAny _ _ _ _ _ { s with heap := ((s.heap.push (seqObj "list" #[] 0)).update s.heap.objs.size (Obj.mapSeq (· ++ vs.toArray))).push (seqObj "list" vs.toArray 0) }
  rw [hsz]
  refine wpAny_bind (wpAny_holding (wpAny_call_entry_kw slot_list_sort ⟨_, hoL, rfl⟩ entry_list_sort ?body (ha2 _)))
  case body =>
    show wpAny (model prog w) A.in1.in1 (Builtin.«list.sort» ⟨[.ref (s.heap.objs.size + 1)], kw⟩) _ _ _
    rw [ht]
    refine wpAny_mono (h _ _ rfl hoL keep hge) (fun fin s' hf => ?_) fun _ _ x => x
    obtain ⟨rfl, hq⟩ := hf
    exact ⟨_, rfl, wpAny_pure ⟨_, rfl, hq⟩⟩
end
end Mine
end
theorem Mine.start_S1 : True := by
  w_top off
  trivial
section
open PySem PySem.W PySem.Calls PyProof.Rows
set_option maxRecDepth 100000
set_option maxHeartbeats 8000000
namespace Mine

noncomputable def sdown (lt : Nat → Nat → Bool) (x start : Nat) (pos : Nat) (xs : List Nat) : List Nat :=
  if start < pos then
    if lt (xs.getD ((pos - 1) / 2) 0) x = true then sdown lt x start ((pos - 1) / 2) (xs.set pos (xs.getD ((pos - 1) / 2) 0)) else xs.set pos x
  else xs.set pos x
termination_by pos
decreasing_by (first | lia | omega)

section
variable {w : World}
local macro_rules | `(tactic| walk_at "subscriptTail Name Name ref int") => `(tactic| k_extra "q subscriptTail Name Name ref int")
local macro_rules | `(tactic| walk_at "setItem ref int") => `(tactic| k_extra "q setItem ref int")
local macro_rules | `(tactic| walk_at "compareOp Lt ref") => `(tactic| k_extra "q compareOp Lt ref")
local macro_rules | `(tactic| walk_at "binaryOp RShift int int") => `(tactic| k_extra "q binaryOp RShift int int")

theorem siftdown_max_spec {l : Addr} {as : List Nat} {n : Nat} {lt : Nat → Nat → Bool} {st p : Nat} {t1 t2 : Tok} (hp : p < as.length) (hlen : as.length < 64) :
    MutSpec 1 w 63 [.ref l, .int st t1, .int p t2] l (listOf (refs as).toArray n) (listOf (refs (sdown lt (as.getD p 0) st p as)).toArray n) (CmpOk w lt as) .none := by
  intro A g s Q E G hg hgs hgl hl hc ret
  obtain ⟨dp, un, gd, outer, A₀, base, mean, mg, mb, rfl, hdp, hun, B, X, T⟩ := G.ex
  w_strict (
  revert X
  k_fill
  intro X
  refine' enter (binds := [(Str.ofString "heap", .ref l), (Str.ofString "startpos", .int st t1), (Str.ofString "pos", .int p t2)]) ?_ ?_ X hg hgs ?k1 ?k2 ?k3 ?k4 ?_ ?_ ?_ ?_ ?k5
  case k1 => k_is
  case k2 => k_is
  case k3 => exact BindsTo.of_eq rfl
  case k4 => exact locs rfl
  case k5 => decide
  all_goals try exact rfl
  · exact Nat.lt_of_le_of_lt (Nat.le_add_right _ _) hdp
  · exact T.nolimit
  intro h₁ F hk₁
  have N : News g s.heap.objs.size h₁ [(l, listOf (refs as).toArray n)] := fun q hq => by
    cases List.mem_singleton.mp hq
    exact ⟨hk₁ _ _ hl, Nat.ne_of_lt (Heap.lt_size hl), hgl⟩
  generalize hL : s.heap.objs.size = L' at *
  (try dsimp only)
  (try k_fold)
  k_with_none
  k_with "q subscriptTail Name Name ref int" => (k_here; (with_reducible show wpAny _ _ (subscriptTail _ _ (Value.ref _) (Value.int _ _)) _ _ _); k_dflt (refine' item_refs ?k1 ?k2 ?k3 ?k4 ?_ ?k6 ?k7; (case k1 => k_asm); (case k2 => k_mem); (case k3 => (first | lia | omega)); (case k4 => (first | lia | omega)); (case k6 => with_unfolding_all rfl); (case k7 => (intro _; with_unfolding_all rfl)); k_whole))
  k_with "q setItem ref int" => (k_here; (with_reducible show wpAny _ _ (setItem (Value.ref _) (Value.int _ _) (Value.ref _)) _ _ _); k_dflt (refine' set_refs ?k1 ?k2 ?k3 ?k4 ?_; (case k1 => k_asm); (case k2 => k_asm); (case k3 => (first | lia | omega)); (case k4 => (first | lia | omega)); k_whole); intro _ _ _)
  k_with "q compareOp Lt ref" => (k_here; (with_reducible show wpAny _ _ (compareOp CmpOp.Lt (Value.ref _) (Value.ref _)) _ _ _); k_dflt (refine' cmp_refs ?k1 ?k2 ?k3 ?k4 ?k5 ?_; (case k1 => k_asm); (case k2 => k_asm); (case k3 => k_extra "mem"); (case k4 => k_extra "mem"); (case k5 => (show _ + 20 < cLine; simp only [Around.deeper]; (first | lia | omega))); k_whole); intro _; (try dsimp only))
  k_with "q binaryOp RShift int int" => (k_here; k_dflt (refine' shr1 ?k1 ?_; (case k1 => (first | lia | omega)); k_whole))
  k_with "mem" => first | exact getD_mem hp | (refine hP4 _ (getD_mem ?_); (first | lia | omega))
  k_with "exec While Compare cons nil" => ((rename Fr _ _ _ _ => lF); (rename News _ _ _ _ => lN); refine' ksw_while (σ := List Nat × Nat × Nat) (fun c => [(l, listOf (refs c.1).toArray n)]) (fun c => [(Str.ofString "pos", .int c.2.1 c.2.2)]) (fun _ => True) [Str.ofString "parentpos", Str.ofString "parent"] (fun c => sdown lt (as.getD p 0) st c.2.1 c.1 = sdown lt (as.getD p 0) st p as ∧ c.2.1 < c.1.length ∧ c.1.length = as.length ∧ (∀ y ∈ c.1, y ∈ as)) (fun c => c.2.1) (as, p, t2) lF lN trivial ?kk ⟨rfl, hp, rfl, fun _ h => h⟩ ?_; (case kk => (intro q hq; cases List.mem_singleton.mp hq; rfl)); clear lF lN; rintro ⟨xs, pos, tp⟩ u h tk _ ⟨hP1, hP2, hP3, hP4⟩ lF lN; dsimp only at hP1 hP2 hP3 hP4 lF lN)
  k_steps
  k_with_none
  all_goals (try dsimp only)
  all_goals ((rename Fr _ _ _ _ => eF); (rename News _ _ _ _ => eN)))
  · rename_i hlt hb _ _
    refine' ksw_end (xs.set pos (xs.getD ((pos - 1) / 2) 0), (pos - 1) / 2, ?tt) eF eN (fun _ h => h) trivial ?hk ?hr ⟨?p1, ?p2, ?p3, ?p4⟩ ?mu
    case hk => intro q hq; rw [List.mem_singleton.mp hq]; exact rfl
    case hr => intro z h2 h3; simp only [List.forall_mem_cons, List.not_mem_nil, false_implies, implies_true, and_true, ne_eq] at h2; simp only [List.contains_cons, List.contains_nil, Bool.or_false, Bool.or_eq_false_iff, beq_eq_false_iff_ne, ne_eq] at h3; simp [kstB, h2, h3]
    case p1 =>
      rw [← hP1]
      conv => rhs; unfold sdown
      rw [if_pos (by (first | lia | omega)), if_pos hb]
    case p2 => dsimp only; rw [List.length_set]; (first | lia | omega)
    case p3 => dsimp only; rw [List.length_set]; exact hP3
    case p4 =>
      intro y hy
      rcases List.mem_or_eq_of_mem_set hy with h1 | h1
      · exact hP4 y h1
      · rw [h1]; exact hP4 _ (getD_mem (by (first | lia | omega)))
    case mu => dsimp only; (first | lia | omega)
  · rename_i hb _
    refine ret _ _ eF.keep (Nat.le_of_lt eF.ns.lt) ?_
    rw [← hP1]
    unfold sdown
    rw [if_pos (by (first | lia | omega)), if_neg (by rw [hb]; exact Bool.false_ne_true)]
    exact (eN _ (List.mem_singleton.mpr rfl)).1
  · refine ret _ _ eF.keep (Nat.le_of_lt eF.ns.lt) ?_
    rw [← hP1]
    unfold sdown
    rw [if_neg (by (first | lia | omega))]
    exact (eN _ (List.mem_singleton.mpr rfl)).1

theorem siftdown_spec {l : Addr} {as : List Nat} {n : Nat} {lt : Nat → Nat → Bool} {st p : Nat} {t1 t2 : Tok} (hp : p < as.length) (hlen : as.length < 64) :
    MutSpec 1 w 49 [.ref l, .int st t1, .int p t2] l (listOf (refs as).toArray n) (listOf (refs (sdown lt (as.getD p 0) st p as)).toArray n) (CmpOk w (fun a b => lt b a) as) .none := by
  intro A g s Q E G hg hgs hgl hl hc ret
  obtain ⟨dp, un, gd, outer, A₀, base, mean, mg, mb, rfl, hdp, hun, B, X, T⟩ := G.ex
  w_strict (
  revert X
  k_fill
  intro X
  refine' enter (binds := [(Str.ofString "heap", .ref l), (Str.ofString "startpos", .int st t1), (Str.ofString "pos", .int p t2)]) ?_ ?_ X hg hgs ?k1 ?k2 ?k3 ?k4 ?_ ?_ ?_ ?_ ?k5
  case k1 => k_is
  case k2 => k_is
  case k3 => exact BindsTo.of_eq rfl
  case k4 => exact locs rfl
  case k5 => decide
  all_goals try exact rfl
  · exact Nat.lt_of_le_of_lt (Nat.le_add_right _ _) hdp
  · exact T.nolimit
  intro h₁ F hk₁
  have N : News g s.heap.objs.size h₁ [(l, listOf (refs as).toArray n)] := fun q hq => by
    cases List.mem_singleton.mp hq
    exact ⟨hk₁ _ _ hl, Nat.ne_of_lt (Heap.lt_size hl), hgl⟩
  generalize hL : s.heap.objs.size = L' at *
  (try dsimp only)
  (try k_fold)
  k_with_none
  k_with "q subscriptTail Name Name ref int" => (k_here; (with_reducible show wpAny _ _ (subscriptTail _ _ (Value.ref _) (Value.int _ _)) _ _ _); k_dflt (refine' item_refs ?k1 ?k2 ?k3 ?k4 ?_ ?k6 ?k7; (case k1 => k_asm); (case k2 => k_mem); (case k3 => (first | lia | omega)); (case k4 => (first | lia | omega)); (case k6 => with_unfolding_all rfl); (case k7 => (intro _; with_unfolding_all rfl)); k_whole))
  k_with "q setItem ref int" => (k_here; (with_reducible show wpAny _ _ (setItem (Value.ref _) (Value.int _ _) (Value.ref _)) _ _ _); k_dflt (refine' set_refs ?k1 ?k2 ?k3 ?k4 ?_; (case k1 => k_asm); (case k2 => k_asm); (case k3 => (first | lia | omega)); (case k4 => (first | lia | omega)); k_whole); intro _ _ _)
  k_with "q compareOp Lt ref" => (k_here; (with_reducible show wpAny _ _ (compareOp CmpOp.Lt (Value.ref _) (Value.ref _)) _ _ _); k_dflt (refine' cmp_refs ?k1 ?k2 ?k3 ?k4 ?k5 ?_; (case k1 => k_asm); (case k2 => k_asm); (case k3 => k_extra "mem"); (case k4 => k_extra "mem"); (case k5 => (show _ + 20 < cLine; simp only [Around.deeper]; (first | lia | omega))); k_whole); intro _; (try dsimp only))
  k_with "q binaryOp RShift int int" => (k_here; k_dflt (refine' shr1 ?k1 ?_; (case k1 => (first | lia | omega)); k_whole))
  k_with "mem" => first | exact getD_mem hp | (refine hP4 _ (getD_mem ?_); (first | lia | omega))
  k_with "exec While Compare cons nil" => ((rename Fr _ _ _ _ => lF); (rename News _ _ _ _ => lN); refine' ksw_while (σ := List Nat × Nat × Nat) (fun c => [(l, listOf (refs c.1).toArray n)]) (fun c => [(Str.ofString "pos", .int c.2.1 c.2.2)]) (fun _ => True) [Str.ofString "parentpos", Str.ofString "parent"] (fun c => sdown lt (as.getD p 0) st c.2.1 c.1 = sdown lt (as.getD p 0) st p as ∧ c.2.1 < c.1.length ∧ c.1.length = as.length ∧ (∀ y ∈ c.1, y ∈ as)) (fun c => c.2.1) (as, p, t2) lF lN trivial ?kk ⟨rfl, hp, rfl, fun _ h => h⟩ ?_; (case kk => (intro q hq; cases List.mem_singleton.mp hq; rfl)); clear lF lN; rintro ⟨xs, pos, tp⟩ u h tk _ ⟨hP1, hP2, hP3, hP4⟩ lF lN; dsimp only at hP1 hP2 hP3 hP4 lF lN)
  k_steps
  k_with_none
  all_goals (try dsimp only)
  all_goals ((rename Fr _ _ _ _ => eF); (rename News _ _ _ _ => eN)))
  · rename_i hlt hb _ _
    refine' ksw_end (xs.set pos (xs.getD ((pos - 1) / 2) 0), (pos - 1) / 2, ?tt) eF eN (fun _ h => h) trivial ?hk ?hr ⟨?p1, ?p2, ?p3, ?p4⟩ ?mu
    case hk => intro q hq; rw [List.mem_singleton.mp hq]; exact rfl
    case hr => intro z h2 h3; simp only [List.forall_mem_cons, List.not_mem_nil, false_implies, implies_true, and_true, ne_eq] at h2; simp only [List.contains_cons, List.contains_nil, Bool.or_false, Bool.or_eq_false_iff, beq_eq_false_iff_ne, ne_eq] at h3; simp [kstB, h2, h3]
    case p1 =>
      rw [← hP1]
      conv => rhs; unfold sdown
      rw [if_pos (by (first | lia | omega)), if_pos hb]
    case p2 => dsimp only; rw [List.length_set]; (first | lia | omega)
    case p3 => dsimp only; rw [List.length_set]; exact hP3
    case p4 =>
      intro y hy
      rcases List.mem_or_eq_of_mem_set hy with h1 | h1
      · exact hP4 y h1
      · rw [h1]; exact hP4 _ (getD_mem (by (first | lia | omega)))
    case mu => dsimp only; (first | lia | omega)
  · rename_i hb _
    refine ret _ _ eF.keep (Nat.le_of_lt eF.ns.lt) ?_
    rw [← hP1]
    unfold sdown
    rw [if_pos (by (first | lia | omega)), if_neg (by rw [hb]; exact Bool.false_ne_true)]
    exact (eN _ (List.mem_singleton.mpr rfl)).1
  · refine ret _ _ eF.keep (Nat.le_of_lt eF.ns.lt) ?_
    rw [← hP1]
    unfold sdown
    rw [if_neg (by (first | lia | omega))]
    exact (eN _ (List.mem_singleton.mpr rfl)).1
end
end Mine
end
theorem Mine.start_S2 : True := by
  w_top off
  trivial
section
open PySem PySem.W PySem.Calls PyProof.Rows
set_option maxRecDepth 100000
set_option maxHeartbeats 8000000
namespace Mine

/-- the child that goes up -/
noncomputable def kid (lt : Nat → Nat → Bool) (xs : List Nat) (pos : Nat) : Nat :=
  if 2 * pos + 2 < xs.length ∧ lt (xs.getD (2 * pos + 2) 0) (xs.getD (2 * pos + 1) 0) = false then 2 * pos + 2 else 2 * pos + 1
theorem kid_gt (lt : Nat → Nat → Bool) (xs : List Nat) (pos : Nat) : pos < kid lt xs pos := by
  unfold kid; split <;> (first | lia | omega)
theorem kid_lt {lt : Nat → Nat → Bool} {xs : List Nat} {pos : Nat} (h : 2 * pos + 1 < xs.length) : kid lt xs pos < xs.length := by
  unfold kid; split <;> (first | lia | omega)
/-- down to a leaf -/
noncomputable def sleaf (lt : Nat → Nat → Bool) (pos : Nat) (xs : List Nat) : Nat × List Nat :=
  if 2 * pos + 1 < xs.length then sleaf lt (kid lt xs pos) (xs.set pos (xs.getD (kid lt xs pos) 0)) else (pos, xs)
termination_by xs.length - pos
decreasing_by (rw [List.length_set]; have := kid_gt lt xs pos; (first | lia | omega))
noncomputable def sup (lt : Nat → Nat → Bool) (pos : Nat) (xs : List Nat) : List Nat :=
  sdown lt (xs.getD pos 0) pos (sleaf lt pos xs).1 ((sleaf lt pos xs).2.set (sleaf lt pos xs).1 (xs.getD pos 0))

section
variable {w : World}
theorem len_refs {A : Around} {E : Value → Shared → Prop} {s : Shared} {g : Heap} {L l : Addr} {news : List (Addr × Obj)} {as : List Nat} {n : Nat} {Q : Value → Shared → Prop} (N : News g L s.heap news) (hm : (l, listOf (refs as).toArray n) ∈ news) (hlen : as.length < 64) (h : Q (.int (as.length : Nat) (s.toks + 1)) { s with toks := s.toks + 1 + 1 }) :
    wpAny (model PySem.Challenge.rw_mq0307_01.row.prog w) A (call (.builtin "len") [.ref l]) Q E s := by
  refine PyProof.Rows.len_list (PySem.IsL.isList (n := n) (N _ hm).1) (by simp [refs]; (first | lia | omega)) ?_
  have e : ((refs as).toArray.size : Int) = (as.length : Nat) := by simp [refs]
  rw [e]; exact h
local macro_rules | `(tactic| walk_at "call builtin:len") => `(tactic| k_extra "q call builtin:len")
local macro_rules | `(tactic| walk_at "subscriptTail Name Name ref int") => `(tactic| k_extra "q subscriptTail Name Name ref int")
local macro_rules | `(tactic| walk_at "setItem ref int") => `(tactic| k_extra "q setItem ref int")
local macro_rules | `(tactic| walk_at "compareOp Lt ref") => `(tactic| k_extra "q compareOp Lt ref")

theorem siftup_max_spec {l : Addr} {as : List Nat} {n : Nat} {lt : Nat → Nat → Bool} {p : Nat} {t2 : Tok} (hp : p < as.length) (hlen : as.length < 64) :
    MutSpec 2 w 70 [.ref l, .int p t2] l (listOf (refs as).toArray n) (listOf (refs (sup lt p as)).toArray n) (CmpOk w lt as) .none := by
  intro A g s Q E G hg hgs hgl hl hc ret
  obtain ⟨dp, un, gd, outer, A₀, base, mean, mg, mb, rfl, hdp, hun, B, X, T⟩ := G.ex
  w_strict (
  revert X
  k_fill
  intro X
  refine' enter (binds := [(Str.ofString "heap", .ref l), (Str.ofString "pos", .int p t2)]) ?_ ?_ X hg hgs ?k1 ?k2 ?k3 ?k4 ?_ ?_ ?_ ?_ ?k5
  case k1 => k_is
  case k2 => k_is
  case k3 => exact BindsTo.of_eq rfl
  case k4 => exact locs rfl
  case k5 => decide
  all_goals try exact rfl
  · exact Nat.lt_of_le_of_lt (Nat.le_add_right _ _) hdp
  · exact T.nolimit
  intro h₁ F hk₁
  have N : News g s.heap.objs.size h₁ [(l, listOf (refs as).toArray n)] := fun q hq => by
    cases List.mem_singleton.mp hq
    exact ⟨hk₁ _ _ hl, Nat.ne_of_lt (Heap.lt_size hl), hgl⟩
  generalize hL : s.heap.objs.size = L' at *
  (try dsimp only)
  (try k_fold)
  k_with_none
  k_with "q call builtin:len" => (k_here; (with_reducible show wpAny _ _ (call (Value.builtin _) [Value.ref _]) _ _ _); k_dflt (refine' len_refs ?k1 ?k2 ?k3 ?_; (case k1 => k_asm); (case k2 => k_mem); (case k3 => (first | lia | omega)); k_whole))
  k_with "q subscriptTail Name Name ref int" => (k_here; (with_reducible show wpAny _ _ (subscriptTail _ _ (Value.ref _) (Value.int _ _)) _ _ _); k_dflt (refine' item_refsI ?k1 ?k2 ?k3 ?k4 ?k5 ?_ ?k6 ?k7; (case k1 => k_asm); (case k2 => k_mem); (case k3 => (first | lia | omega)); (case k4 => (first | lia | omega)); (case k5 => (first | lia | omega)); (case k6 => with_unfolding_all rfl); (case k7 => (intro _; with_unfolding_all rfl)); k_whole))
  k_with "q subscriptTail Name Name ref int" => (k_here; (with_reducible show wpAny _ _ (subscriptTail _ _ (Value.ref _) (Value.int _ _)) _ _ _); k_dflt (refine' item_refs ?k1 ?k2 ?k3 ?k4 ?_ ?k6 ?k7; (case k1 => k_asm); (case k2 => k_mem); (case k3 => (first | lia | omega)); (case k4 => (first | lia | omega)); (case k6 => with_unfolding_all rfl); (case k7 => (intro _; with_unfolding_all rfl)); k_whole))
  k_with "q setItem ref int" => (k_here; (with_reducible show wpAny _ _ (setItem (Value.ref _) (Value.int _ _) (Value.ref _)) _ _ _); k_dflt (refine' set_refs ?k1 ?k2 ?k3 ?k4 ?_; (case k1 => k_asm); (case k2 => k_asm); (case k3 => (first | lia | omega)); (case k4 => (first | lia | omega)); k_whole); intro _ _ _)
  k_with "q compareOp Lt ref" => (k_here; (with_reducible show wpAny _ _ (compareOp CmpOp.Lt (Value.ref _) (Value.ref _)) _ _ _); k_dflt (refine' cmp_refs ?k1 ?k2 ?k3 ?k4 ?k5 ?_; (case k1 => k_asm); (case k2 => k_asm); (case k3 => k_extra "mem"); (case k4 => k_extra "mem"); (case k5 => (show _ + 20 < cLine; simp only [Around.deeper]; (first | lia | omega))); k_whole); intro _; (try dsimp only))
  k_with "mem" => (refine hP4 _ (getD_mem ?_); (first | lia | omega))
  repeat' ((fail_if_success (with_reducible show wpAny _ _ (exec (Stmt.While _ _ _ _) _) _ _ _)); (first | (k_unfold; (try dsimp only)) | walk1 | (dsimp only; walk1)))
  (rename Fr _ _ _ _ => lF)
  (rename News _ _ _ _ => lN)
  refine' ksw_while (σ := List Nat × Nat × Nat × Nat) (fun c => [(l, listOf (refs c.1).toArray n)]) (fun c => [(Str.ofString "pos", .int c.2.1 c.2.2.1), (Str.ofString "childpos", .int (2 * c.2.1 + 1) c.2.2.2)]) (fun _ => True) [Str.ofString "rightpos"] (fun c => sleaf lt c.2.1 c.1 = sleaf lt p as ∧ c.2.1 < c.1.length ∧ c.1.length = as.length ∧ (∀ y ∈ c.1, y ∈ as)) (fun c => c.1.length - c.2.1) (as, p, t2, ?tc) lF lN trivial ?kk ⟨rfl, hp, rfl, fun _ h => h⟩ ?_
  (case kk => (refine List.forall_mem_cons.mpr ⟨rfl, List.forall_mem_cons.mpr ⟨?_, fun _ h => nomatch h⟩⟩; rfl))
  clear lF lN
  rintro ⟨xs, pos, tp, tc⟩ u h tk _ ⟨hP1, hP2, hP3, hP4⟩ lF lN
  dsimp only at hP1 hP2 hP3 hP4 lF lN
  repeat' ((fail_if_success (with_reducible show KswEnd _ _ _ _ _ _ _ _ _ _ _ _)); (fail_if_success (with_reducible show wpAny _ _ (call (Value.ref _) _ _) _ _ _)); (first | (k_unfold; (try dsimp only)) | walk1 | (dsimp only; walk1)))
  k_with_none
  all_goals (try dsimp only)
  all_goals ((rename Fr _ _ _ _ => eF); (rename News _ _ _ _ => eN)))
  · rename_i hb _ _ _
    have hkid : kid lt xs pos = 2 * pos + 1 := by
      unfold kid; rw [if_neg]; rintro ⟨-, q⟩
      have hb' : lt (xs.getD (2 * pos + 2) 0) (xs.getD (2 * pos + 1) 0) = true := hb
      rw [hb'] at q; cases q
    refine' ksw_end (xs.set pos (xs.getD (2 * pos + 1) 0), 2 * pos + 1, ?tx0, ?ty0) eF eN (fun _ h => h) trivial ?hk ?hr ⟨?p1, ?p2, ?p3, ?p4⟩ ?mu
    case hk => (refine List.forall_mem_cons.mpr ⟨?_, List.forall_mem_cons.mpr ⟨?_, fun _ h => nomatch h⟩⟩; rfl; rfl)
    case hr => intro z h2 h3; simp only [List.forall_mem_cons, List.not_mem_nil, false_implies, implies_true, and_true, ne_eq] at h2; simp only [List.contains_cons, List.contains_nil, Bool.or_false, beq_eq_false_iff_ne, ne_eq] at h3; simp [kstB, h2, h3]
    case p1 =>
      rw [← hP1]
      conv => rhs; unfold sleaf
      rw [if_pos (by (first | lia | omega)), hkid]
    case p2 => dsimp only; rw [List.length_set]; (first | lia | omega)
    case p3 => dsimp only; rw [List.length_set]; exact hP3
    case p4 =>
      intro y hy
      rcases List.mem_or_eq_of_mem_set hy with h1 | h1
      · exact hP4 y h1
      · rw [h1]; exact hP4 _ (getD_mem (by (first | lia | omega)))
    case mu => dsimp only; rw [List.length_set]; (first | lia | omega)
  · rename_i hr2 _ hb _ _ _ _
    have hkid : kid lt xs pos = 2 * pos + 2 := by
      unfold kid; rw [if_pos ⟨by (first | lia | omega), hb⟩]
    refine' ksw_end (xs.set pos (xs.getD (2 * pos + 2) 0), 2 * pos + 2, ?tx1, ?ty1) eF eN (fun _ h => h) trivial ?hk ?hr ⟨?p1, ?p2, ?p3, ?p4⟩ ?mu
    case hk => (refine List.forall_mem_cons.mpr ⟨?_, List.forall_mem_cons.mpr ⟨?_, fun _ h => nomatch h⟩⟩; rfl; rfl)
    case hr => intro z h2 h3; simp only [List.forall_mem_cons, List.not_mem_nil, false_implies, implies_true, and_true, ne_eq] at h2; simp only [List.contains_cons, List.contains_nil, Bool.or_false, beq_eq_false_iff_ne, ne_eq] at h3; simp [kstB, h2, h3]
    case p1 =>
      rw [← hP1]
      conv => rhs; unfold sleaf
      rw [if_pos (by (first | lia | omega)), hkid]
    case p2 => dsimp only; rw [List.length_set]; (first | lia | omega)
    case p3 => dsimp only; rw [List.length_set]; exact hP3
    case p4 =>
      intro y hy
      rcases List.mem_or_eq_of_mem_set hy with h1 | h1
      · exact hP4 y h1
      · rw [h1]; exact hP4 _ (getD_mem (by (first | lia | omega)))
    case mu => dsimp only; rw [List.length_set]; (first | lia | omega)
  · rename_i hr2 _ _ _ _
    have hkid : kid lt xs pos = 2 * pos + 1 := by
      unfold kid; rw [if_neg]; rintro ⟨q, -⟩; (first | lia | omega)
    refine' ksw_end (xs.set pos (xs.getD (2 * pos + 1) 0), 2 * pos + 1, ?tx2, ?ty2) eF eN (fun _ h => h) trivial ?hk ?hr ⟨?p1, ?p2, ?p3, ?p4⟩ ?mu
    case hk => (refine List.forall_mem_cons.mpr ⟨?_, List.forall_mem_cons.mpr ⟨?_, fun _ h => nomatch h⟩⟩; rfl; rfl)
    case hr => intro z h2 h3; simp only [List.forall_mem_cons, List.not_mem_nil, false_implies, implies_true, and_true, ne_eq] at h2; simp only [List.contains_cons, List.contains_nil, Bool.or_false, beq_eq_false_iff_ne, ne_eq] at h3; simp [kstB, h2, h3]
    case p1 =>
      rw [← hP1]
      conv => rhs; unfold sleaf
      rw [if_pos (by (first | lia | omega)), hkid]
    case p2 => dsimp only; rw [List.length_set]; (first | lia | omega)
    case p3 => dsimp only; rw [List.length_set]; exact hP3
    case p4 =>
      intro y hy
      rcases List.mem_or_eq_of_mem_set hy with h1 | h1
      · exact hP4 y h1
      · rw [h1]; exact hP4 _ (getD_mem (by (first | lia | omega)))
    case mu => dsimp only; rw [List.length_set]; (first | lia | omega)
  · have hz : sleaf lt p as = (pos, xs) := by
      rw [← hP1]; unfold sleaf; rw [if_neg (by (first | lia | omega))]
    refine mut_walk (siftdown_max_spec (lt := lt) (by rw [List.length_set]; exact hP2) (by rw [List.length_set]; (first | lia | omega))) (hc.sub fun y hy => ?_) (fun g' st h => h.up st) B X T eF eN (by (first | lia | omega)) (by (first | lia | omega)) fun h9 tk9 F9 N9 => ?_
    · rcases List.mem_or_eq_of_mem_set hy with h1 | h1
      · exact hP4 y h1
      · rw [h1]; exact getD_mem hp
    · refine wpAny_pure (ret _ _ F9.keep (Nat.le_of_lt F9.ns.lt) ?_)
      have e : (xs.set pos (as.getD p 0)).getD pos 0 = as.getD p 0 := by simp [hP2]
      have z := (N9 _ (List.mem_singleton.mpr rfl)).1
      rw [e] at z
      unfold sup
      rw [hz]
      exact z

theorem siftup_spec {l : Addr} {as : List Nat} {n : Nat} {lt : Nat → Nat → Bool} {p : Nat} {t2 : Tok} (hp : p < as.length) (hlen : as.length < 64) :
    MutSpec 2 w 56 [.ref l, .int p t2] l (listOf (refs as).toArray n) (listOf (refs (sup lt p as)).toArray n) (CmpOk w (fun a b => lt b a) as) .none := by
  intro A g s Q E G hg hgs hgl hl hc ret
  obtain ⟨dp, un, gd, outer, A₀, base, mean, mg, mb, rfl, hdp, hun, B, X, T⟩ := G.ex
  w_strict (
  revert X
  k_fill
  intro X
  refine' enter (binds := [(Str.ofString "heap", .ref l), (Str.ofString "pos", .int p t2)]) ?_ ?_ X hg hgs ?k1 ?k2 ?k3 ?k4 ?_ ?_ ?_ ?_ ?k5
  case k1 => k_is
  case k2 => k_is
  case k3 => exact BindsTo.of_eq rfl
  case k4 => exact locs rfl
  case k5 => decide
  all_goals try exact rfl
  · exact Nat.lt_of_le_of_lt (Nat.le_add_right _ _) hdp
  · exact T.nolimit
  intro h₁ F hk₁
  have N : News g s.heap.objs.size h₁ [(l, listOf (refs as).toArray n)] := fun q hq => by
    cases List.mem_singleton.mp hq
    exact ⟨hk₁ _ _ hl, Nat.ne_of_lt (Heap.lt_size hl), hgl⟩
  generalize hL : s.heap.objs.size = L' at *
  (try dsimp only)
  (try k_fold)
  k_with_none
  k_with "q call builtin:len" => (k_here; (with_reducible show wpAny _ _ (call (Value.builtin _) [Value.ref _]) _ _ _); k_dflt (refine' len_refs ?k1 ?k2 ?k3 ?_; (case k1 => k_asm); (case k2 => k_mem); (case k3 => (first | lia | omega)); k_whole))
  k_with "q subscriptTail Name Name ref int" => (k_here; (with_reducible show wpAny _ _ (subscriptTail _ _ (Value.ref _) (Value.int _ _)) _ _ _); k_dflt (refine' item_refsI ?k1 ?k2 ?k3 ?k4 ?k5 ?_ ?k6 ?k7; (case k1 => k_asm); (case k2 => k_mem); (case k3 => (first | lia | omega)); (case k4 => (first | lia | omega)); (case k5 => (first | lia | omega)); (case k6 => with_unfolding_all rfl); (case k7 => (intro _; with_unfolding_all rfl)); k_whole))
  k_with "q subscriptTail Name Name ref int" => (k_here; (with_reducible show wpAny _ _ (subscriptTail _ _ (Value.ref _) (Value.int _ _)) _ _ _); k_dflt (refine' item_refs ?k1 ?k2 ?k3 ?k4 ?_ ?k6 ?k7; (case k1 => k_asm); (case k2 => k_mem); (case k3 => (first | lia | omega)); (case k4 => (first | lia | omega)); (case k6 => with_unfolding_all rfl); (case k7 => (intro _; with_unfolding_all rfl)); k_whole))
  k_with "q setItem ref int" => (k_here; (with_reducible show wpAny _ _ (setItem (Value.ref _) (Value.int _ _) (Value.ref _)) _ _ _); k_dflt (refine' set_refs ?k1 ?k2 ?k3 ?k4 ?_; (case k1 => k_asm); (case k2 => k_asm); (case k3 => (first | lia | omega)); (case k4 => (first | lia | omega)); k_whole); intro _ _ _)
  k_with "q compareOp Lt ref" => (k_here; (with_reducible show wpAny _ _ (compareOp CmpOp.Lt (Value.ref _) (Value.ref _)) _ _ _); k_dflt (refine' cmp_refs ?k1 ?k2 ?k3 ?k4 ?k5 ?_; (case k1 => k_asm); (case k2 => k_asm); (case k3 => k_extra "mem"); (case k4 => k_extra "mem"); (case k5 => (show _ + 20 < cLine; simp only [Around.deeper]; (first | lia | omega))); k_whole); intro _; (try dsimp only))
  k_with "mem" => (refine hP4 _ (getD_mem ?_); (first | lia | omega))
  repeat' ((fail_if_success (with_reducible show wpAny _ _ (exec (Stmt.While _ _ _ _) _) _ _ _)); (first | (k_unfold; (try dsimp only)) | walk1 | (dsimp only; walk1)))
  (rename Fr _ _ _ _ => lF)
  (rename News _ _ _ _ => lN)
  refine' ksw_while (σ := List Nat × Nat × Nat × Nat) (fun c => [(l, listOf (refs c.1).toArray n)]) (fun c => [(Str.ofString "pos", .int c.2.1 c.2.2.1), (Str.ofString "childpos", .int (2 * c.2.1 + 1) c.2.2.2)]) (fun _ => True) [Str.ofString "rightpos"] (fun c => sleaf lt c.2.1 c.1 = sleaf lt p as ∧ c.2.1 < c.1.length ∧ c.1.length = as.length ∧ (∀ y ∈ c.1, y ∈ as)) (fun c => c.1.length - c.2.1) (as, p, t2, ?tc) lF lN trivial ?kk ⟨rfl, hp, rfl, fun _ h => h⟩ ?_
  (case kk => (refine List.forall_mem_cons.mpr ⟨rfl, List.forall_mem_cons.mpr ⟨?_, fun _ h => nomatch h⟩⟩; rfl))
  clear lF lN
  rintro ⟨xs, pos, tp, tc⟩ u h tk _ ⟨hP1, hP2, hP3, hP4⟩ lF lN
  dsimp only at hP1 hP2 hP3 hP4 lF lN
  repeat' ((fail_if_success (with_reducible show KswEnd _ _ _ _ _ _ _ _ _ _ _ _)); (fail_if_success (with_reducible show wpAny _ _ (call (Value.ref _) _ _) _ _ _)); (first | (k_unfold; (try dsimp only)) | walk1 | (dsimp only; walk1)))
  k_with_none
  all_goals (try dsimp only)
  all_goals ((rename Fr _ _ _ _ => eF); (rename News _ _ _ _ => eN)))
  · rename_i hb _ _ _
    have hkid : kid lt xs pos = 2 * pos + 1 := by
      unfold kid; rw [if_neg]; rintro ⟨-, q⟩
      have hb' : lt (xs.getD (2 * pos + 2) 0) (xs.getD (2 * pos + 1) 0) = true := hb
      rw [hb'] at q; cases q
    refine' ksw_end (xs.set pos (xs.getD (2 * pos + 1) 0), 2 * pos + 1, ?tx0, ?ty0) eF eN (fun _ h => h) trivial ?hk ?hr ⟨?p1, ?p2, ?p3, ?p4⟩ ?mu
    case hk => (refine List.forall_mem_cons.mpr ⟨?_, List.forall_mem_cons.mpr ⟨?_, fun _ h => nomatch h⟩⟩; rfl; rfl)
    case hr => intro z h2 h3; simp only [List.forall_mem_cons, List.not_mem_nil, false_implies, implies_true, and_true, ne_eq] at h2; simp only [List.contains_cons, List.contains_nil, Bool.or_false, beq_eq_false_iff_ne, ne_eq] at h3; simp [kstB, h2, h3]
    case p1 =>
      rw [← hP1]
      conv => rhs; unfold sleaf
      rw [if_pos (by (first | lia | omega)), hkid]
    case p2 => dsimp only; rw [List.length_set]; (first | lia | omega)
    case p3 => dsimp only; rw [List.length_set]; exact hP3
    case p4 =>
      intro y hy
      rcases List.mem_or_eq_of_mem_set hy with h1 | h1
      · exact hP4 y h1
      · rw [h1]; exact hP4 _ (getD_mem (by (first | lia | omega)))
    case mu => dsimp only; rw [List.length_set]; (first | lia | omega)
  · rename_i hr2 _ hb _ _ _ _
    have hkid : kid lt xs pos = 2 * pos + 2 := by
      unfold kid; rw [if_pos ⟨by (first | lia | omega), hb⟩]
    refine' ksw_end (xs.set pos (xs.getD (2 * pos + 2) 0), 2 * pos + 2, ?tx1, ?ty1) eF eN (fun _ h => h) trivial ?hk ?hr ⟨?p1, ?p2, ?p3, ?p4⟩ ?mu
    case hk => (refine List.forall_mem_cons.mpr ⟨?_, List.forall_mem_cons.mpr ⟨?_, fun _ h => nomatch h⟩⟩; rfl; rfl)
    case hr => intro z h2 h3; simp only [List.forall_mem_cons, List.not_mem_nil, false_implies, implies_true, and_true, ne_eq] at h2; simp only [List.contains_cons, List.contains_nil, Bool.or_false, beq_eq_false_iff_ne, ne_eq] at h3; simp [kstB, h2, h3]
    case p1 =>
      rw [← hP1]
      conv => rhs; unfold sleaf
      rw [if_pos (by (first | lia | omega)), hkid]
    case p2 => dsimp only; rw [List.length_set]; (first | lia | omega)
    case p3 => dsimp only; rw [List.length_set]; exact hP3
    case p4 =>
      intro y hy
      rcases List.mem_or_eq_of_mem_set hy with h1 | h1
      · exact hP4 y h1
      · rw [h1]; exact hP4 _ (getD_mem (by (first | lia | omega)))
    case mu => dsimp only; rw [List.length_set]; (first | lia | omega)
  · rename_i hr2 _ _ _ _
    have hkid : kid lt xs pos = 2 * pos + 1 := by
      unfold kid; rw [if_neg]; rintro ⟨q, -⟩; (first | lia | omega)
    refine' ksw_end (xs.set pos (xs.getD (2 * pos + 1) 0), 2 * pos + 1, ?tx2, ?ty2) eF eN (fun _ h => h) trivial ?hk ?hr ⟨?p1, ?p2, ?p3, ?p4⟩ ?mu
    case hk => (refine List.forall_mem_cons.mpr ⟨?_, List.forall_mem_cons.mpr ⟨?_, fun _ h => nomatch h⟩⟩; rfl; rfl)
    case hr => intro z h2 h3; simp only [List.forall_mem_cons, List.not_mem_nil, false_implies, implies_true, and_true, ne_eq] at h2; simp only [List.contains_cons, List.contains_nil, Bool.or_false, beq_eq_false_iff_ne, ne_eq] at h3; simp [kstB, h2, h3]
    case p1 =>
      rw [← hP1]
      conv => rhs; unfold sleaf
      rw [if_pos (by (first | lia | omega)), hkid]
    case p2 => dsimp only; rw [List.length_set]; (first | lia | omega)
    case p3 => dsimp only; rw [List.length_set]; exact hP3
    case p4 =>
      intro y hy
      rcases List.mem_or_eq_of_mem_set hy with h1 | h1
      · exact hP4 y h1
      · rw [h1]; exact hP4 _ (getD_mem (by (first | lia | omega)))
    case mu => dsimp only; rw [List.length_set]; (first | lia | omega)
  · have hz : sleaf lt p as = (pos, xs) := by
      rw [← hP1]; unfold sleaf; rw [if_neg (by (first | lia | omega))]
    refine mut_walk (siftdown_spec (lt := lt) (by rw [List.length_set]; exact hP2) (by rw [List.length_set]; (first | lia | omega))) (hc.sub fun y hy => ?_) (fun g' st h => h.up st) B X T eF eN (by (first | lia | omega)) (by (first | lia | omega)) fun h9 tk9 F9 N9 => ?_
    · rcases List.mem_or_eq_of_mem_set hy with h1 | h1
      · exact hP4 y h1
      · rw [h1]; exact getD_mem hp
    · refine wpAny_pure (ret _ _ F9.keep (Nat.le_of_lt F9.ns.lt) ?_)
      have e : (xs.set pos (as.getD p 0)).getD pos 0 = as.getD p 0 := by simp [hP2]
      have z := (N9 _ (List.mem_singleton.mpr rfl)).1
      rw [e] at z
      unfold sup
      rw [hz]
      exact z
end
end Mine
end
theorem Mine.start_R1 : True := by
  w_top off
  trivial
section
open PySem PySem.W PySem.Calls PyProof.Rows
set_option maxRecDepth 100000
set_option maxHeartbeats 4000000
namespace Mine
section
variable {prog : Program} {w : World} {A : Around} {E : Value → Shared → Prop} {s : Shared}
noncomputable def ritObj (x n c : Int) : Obj := { cls := .type "range_iterator", data := .fields #[rawInt x, rawInt n, rawInt c] }
theorem rangeFields_at {r : Addr} {a b c : Int} {t u v : Tok} {Q : Int × Int × Int → Shared → Prop} (hr : IsRange s.heap r a b c t u v) (h : Q (a, b, c) s) : wpAny (model prog w) A (Builtin.Range.rangeFields (.ref r)) Q E s := by
  unfold Builtin.Range.rangeFields
  refine wpAny_bind (wpAny_field hr rfl (x := .int a t) rfl ?_)
  refine wpAny_bind (wpAny_of_eq (a := some a) rfl ?_)
  refine wpAny_bind (wpAny_field hr rfl (x := .int b u) rfl ?_)
  refine wpAny_bind (wpAny_of_eq (a := some b) rfl ?_)
  refine wpAny_bind (wpAny_field hr rfl (x := .int c v) rfl ?_)
  refine wpAny_bind (wpAny_of_eq (a := some c) rfl ?_)
  exact wpAny_pure h
theorem fitsLong {i : Int} (h : -100 ≤ i) (h2 : i ≤ 100) : Builtin.Range.rangeFitsLong i = true := by
  unfold Builtin.Range.rangeFitsLong
  rw [Bool.and_eq_true]; exact ⟨decide_eq_true (by (first | lia | omega)), decide_eq_true (by (first | lia | omega))⟩
theorem range_rev_entry {r : Addr} {k : Nat} {t u v : Tok} {Q : Value → Shared → Prop} (hr : IsRange s.heap r 0 k 1 t u v) (hk : k < 64)
    (h : Q (.ref s.heap.objs.size) { s with heap := s.heap.push (ritObj ((k : Int) - 1) k (-1)) }) : wpAny (model prog w) A (call (.builtin "range.__reversed__") [.ref r]) Q E s := by
  have hT : s.TypeIs (.ref r) "range" := ⟨_, hr, rfl⟩
  refine wpAny_call_entry F.slot_range_reversed hT F.entry_range_reversed ?_ (F.args_range_reversed_1 _)
  have hn : Builtin.Range.rangeSize 0 (k : Int) 1 = (k : Int) := by
    simp only [Builtin.Range.rangeSize]
    rw [if_pos (by decide)]
    split <;> (first | lia | omega)
  unfold Builtin.«range.__reversed__»
  refine wpAny_bind (wpAny_of_eq (a := Value.ref r) rfl ?_)
  refine wpAny_bind (rangeFields_at hr ?_)
  dsimp only
  rw [hn, fitsLong (by (first | lia | omega)) (by (first | lia | omega)), fitsLong (by (first | lia | omega)) (by (first | lia | omega)), fitsLong (by (first | lia | omega)) (by (first | lia | omega)), fitsLong (by (first | lia | omega)) (by (first | lia | omega)), fitsLong (by (first | lia | omega)) (by (first | lia | omega))]
  simp only [Bool.and_true, Bool.not_true, Bool.false_eq_true, if_false, if_true]
  refine wpAny_bind (wpAny_newObj_type ?_)
  refine wpAny_pure ⟨_, rfl, ?_⟩
  have e : (0 : Int) + ((k : Int) - 1) * 1 = (k : Int) - 1 := by (first | lia | omega)
  rw [e]
  exact h
theorem sub_rit_reversed : isSubtype (.type "range_iterator") (.type "reversed") = pure false := by rw [isSubtype_type]; kernel_rfl
theorem code_reversed_range {r : Addr} {k : Nat} {t u v : Tok} {Q₁ : Value → Shared → Prop} (hr : IsRange s.heap r 0 k 1 t u v) (hk : k < 64)
    (h : Q₁ (.ref s.heap.objs.size) { s with heap := s.heap.push (ritObj ((k : Int) - 1) k (-1)) }) :
    codeAny (model prog w) A (.call (.builtin "reversed.__new__") ⟨[.type "reversed", .ref r], []⟩) (wants Q₁ E) s := by
  have hT : s.TypeIs (.ref r) "range" := ⟨_, hr, rfl⟩
  refine codeAny_of_tree ?_
  show wpAny _ A.in1 (do checkBuiltinCall "reversed.__new__" ⟨[.type "reversed", .ref r], []⟩; again (.builtin "reversed.__new__" ⟨[.type "reversed", .ref r], []⟩)) _ _ s
  refine wpAny_bind (wpAny_of_eq (F.newCall_reversed_1 _) (wpAny_pure ⟨plainId_quiet F.plain_reversed_new _, codeAny_builtin F.entry_reversed_new ?_⟩))
  rw [Around.under_plainId F.plain_reversed_new _]
  unfold Builtin.«reversed.__new__»
  refine wpAny_bind (wpAny_of_eq (newClass_reversed _) ?_)
  try dsimp only
  refine wpAny_bind (wpAny_of_eq (a := ()) (by first | rfl | kernel_rfl) ?_)
  refine wpAny_bind (wpAny_of_eq (a := ()) (by first | rfl | kernel_rfl) ?_)
  try dsimp only
  refine wpAny_bind (wpAny_specialOf hT F.slot_range_reversed.lookup ?_)
  try dsimp only
  refine wpAny_bind (wpAny_of_eq (F.slot_range_reversed.bind _) ?_)
  try dsimp only
  first
  | rw [if_neg (show ¬ ((Value.builtin "range.__reversed__" == Value.none) = true) from Bool.false_ne_true)]
  | (show wpAny _ _ (if (Value.builtin "range.__reversed__" == Value.none) = true then _ else _) _ _ _; rw [if_neg (show ¬ ((Value.builtin "range.__reversed__" == Value.none) = true) from Bool.false_ne_true)])
  refine wpAny_bind (wpAny_rule ?_)
  refine wpAny_bind (m := runValue (.call (.builtin "range.__reversed__") ⟨[.ref r], []⟩)) (show wpAny _ _ (call (.builtin "range.__reversed__") [.ref r]) _ _ _ from range_rev_entry hr hk ?_)
  first
  | exact wpAny_pure h
  | exact wpAny_bind (wpAny_pure (wpAny_pure h))
theorem call_reversed_range {r : Addr} {k : Nat} {t u v : Tok} {Q : Value → Shared → Prop} (hr : IsRange s.heap r 0 k 1 t u v) (hk : k < 64)
    (h : Q (.ref s.heap.objs.size) { s with heap := s.heap.push (ritObj ((k : Int) - 1) k (-1)) }) : wpAny (model prog w) A (call (.type "reversed") [.ref r]) Q E s := by
  refine callType_other (U := "range_iterator") (Q₁ := fun obj s₁ => obj = .ref s.heap.objs.size ∧ s₁ = { s with heap := s.heap.push (ritObj ((k : Int) - 1) k (-1)) }) (by decide +kernel) F.create_reversed ⟨_, _, F.mro_reversed⟩ F.made_reversed sub_rit_reversed (F.typeCall_reversed_1 _) (code_reversed_range hr hk ⟨rfl, rfl⟩) ?_
  rintro obj s₁ ⟨rfl, rfl⟩
  exact ⟨⟨_, Heap.get?_push_size _ rfl, rfl⟩, h⟩
end
end Mine
end
theorem Mine.start_S3 : True := by
  w_top off
  trivial
section
open PySem PySem.W PySem.Calls PyProof.Rows
set_option maxRecDepth 100000
set_option maxHeartbeats 8000000
namespace Mine

theorem sdown_len (lt : Nat → Nat → Bool) (x st : Nat) : ∀ (pos : Nat) (xs : List Nat), (sdown lt x st pos xs).length = xs.length := by
  intro pos
  induction pos using Nat.strongRecOn with
  | ind pos ih =>
    intro xs
    unfold sdown
    split
    · split
      · rw [ih _ (by (first | lia | omega)), List.length_set]
      · rw [List.length_set]
    · rw [List.length_set]
theorem sdown_mem (lt : Nat → Nat → Bool) (x st : Nat) : ∀ (pos : Nat) (xs : List Nat), pos < xs.length → ∀ y ∈ sdown lt x st pos xs, y ∈ xs ∨ y = x := by
  intro pos
  induction pos using Nat.strongRecOn with
  | ind pos ih =>
    intro xs hp y hy
    unfold sdown at hy
    split at hy
    · split at hy
      · rcases ih _ (by (first | lia | omega)) _ (by rw [List.length_set]; (first | lia | omega)) y hy with h | h
        · rcases List.mem_or_eq_of_mem_set h with h | h
          · exact .inl h
          · rw [h]; exact .inl (getD_mem (by (first | lia | omega)))
        · exact .inr h
      · rcases List.mem_or_eq_of_mem_set hy with h | h
        · exact .inl h
        · exact .inr h
    · rcases List.mem_or_eq_of_mem_set hy with h | h
      · exact .inl h
      · exact .inr h
theorem sleaf_facts (lt : Nat → Nat → Bool) : ∀ (k pos : Nat) (xs : List Nat), xs.length - pos = k → pos < xs.length → (sleaf lt pos xs).2.length = xs.length ∧ (sleaf lt pos xs).1 < xs.length ∧ ∀ y ∈ (sleaf lt pos xs).2, y ∈ xs := by
  intro k
  induction k using Nat.strongRecOn with
  | ind k ih =>
    intro pos xs hk hp
    unfold sleaf
    split
    · rename_i h1
      have h2 := kid_gt lt xs pos
      have h3 := kid_lt (lt := lt) h1
      obtain ⟨a1, a2, a3⟩ := ih (xs.length - kid lt xs pos) (by (first | lia | omega)) (kid lt xs pos) (xs.set pos (xs.getD (kid lt xs pos) 0)) (by rw [List.length_set]) (by rw [List.length_set]; exact h3)
      rw [List.length_set] at a1 a2
      refine ⟨a1, a2, fun y hy => ?_⟩
      rcases List.mem_or_eq_of_mem_set (a3 y hy) with h | h
      · exact h
      · rw [h]; exact getD_mem h3
    · exact ⟨rfl, hp, fun _ h => h⟩
theorem sup_len {lt : Nat → Nat → Bool} {p : Nat} {xs : List Nat} (hp : p < xs.length) : (sup lt p xs).length = xs.length := by
  unfold sup
  rw [sdown_len, List.length_set]
  exact (sleaf_facts lt _ p xs rfl hp).1
theorem sup_mem {lt : Nat → Nat → Bool} {p : Nat} {xs : List Nat} (hp : p < xs.length) : ∀ y ∈ sup lt p xs, y ∈ xs := by
  intro y hy
  obtain ⟨a1, a2, a3⟩ := sleaf_facts lt _ p xs rfl hp
  unfold sup at hy
  rcases sdown_mem _ _ _ _ _ (by rw [List.length_set]; (first | lia | omega)) y hy with h | h
  · rcases List.mem_or_eq_of_mem_set h with h | h
    · exact a3 y h
    · rw [h]; exact getD_mem hp
  · rw [h]; exact getD_mem hp
/-- t turns of heapify: places k - 1, k - 2, .. -/
noncomputable def hfy (lt : Nat → Nat → Bool) (k : Nat) : Nat → List Nat → List Nat
  | 0, xs => xs
  | t + 1, xs => sup lt (k - 1 - t) (hfy lt k t xs)
theorem hfy_facts {lt : Nat → Nat → Bool} {k : Nat} {xs : List Nat} : ∀ t, t ≤ k → k ≤ xs.length → (hfy lt k t xs).length = xs.length ∧ ∀ y ∈ hfy lt k t xs, y ∈ xs
  | 0, _, _ => ⟨rfl, fun _ h => h⟩
  | t + 1, ht, hk => by
    obtain ⟨a, b⟩ := hfy_facts (lt := lt) (k := k) (xs := xs) t (by (first | lia | omega)) hk
    exact ⟨(sup_len (by (first | lia | omega))).trans a, fun y hy => b y (sup_mem (by (first | lia | omega)) y hy)⟩

theorem for_rev {prog : Program} {w : World} {A : Around} {E : Value → Shared → Prop} {s : Shared} {g : Heap} {env : Env} {x : Str} {body : List Stmt} {Q : Flow → Shared → Prop} {m₀ : Str → Option Value} {l r : Addr} {k : Nat} (o : Nat → Obj) {t u v : Tok}
    (hh : A.handled = none) (hr : IsRange s.heap r 0 k 1 t u v) (hk : k < 64) (F : Fr g env.locals s.heap m₀) (N : News g env.locals s.heap [(l, o 0)])
    (turn : ∀ i tv h tk own, i < k → (∀ p ∈ own, p.1 ≠ l) → Fr g env.locals h (fun y => if y = x then some (.int ((k - 1 - i : Nat) : Int) tv) else m₀ y) → News g env.locals h ((l, o i) :: own) →
      wpAny (model prog w) A (execs body env) (InvPostN g env.locals (fun m nx => nx = [(l, o (i + 1))] ∧ ∀ z, z ≠ x → m z = m₀ z) own [l] { s with heap := h, toks := tk } Q) E { s with heap := h, toks := tk })
    (done : ∀ m₁ h tk, (∀ z, z ≠ x → m₁ z = m₀ z) → Fr g env.locals h m₁ → News g env.locals h [(l, o k)] → Q .next { s with heap := h, toks := tk }) :
    wpAny (model prog w) A (call (.type "reversed") [.ref r]) (fun xv s₁ => wpAny (model prog w) A (pyIter xv) (fun it s₂ => LoopAtV prog w A g env x body Q E it s₂) E s₁) E s := by
  refine call_reversed_range hr hk ?_
  refine wpAny_pyIter_rangeiter (x := (k : Int) - 1) (left := k) (step := -1) (Heap.get?_push_size _ rfl) ?_
  have hlI : l ≠ s.heap.objs.size := Nat.ne_of_lt (Heap.lt_size (N _ (.head _)).1)
  refine loop_invN (news := [(l, o 0)]) (fun i m₁ nx => nx = [(l, o i)] ∧ ∀ z, z ≠ x → m₁ z = m₀ z) (Walks.range hh s.heap.objs.size ((k : Int) - 1) (-1) k) ?_ ?_ ?_ ?_ ?_ (F.push _) (fun p hp => ⟨Heap.get?_push_of_some _ (N p hp).1, (N p hp).2⟩) ⟨rfl, fun _ _ => rfl⟩ ?_ ?_
  · intro q; exact Nat.ne_of_lt F.ns.lt (List.mem_singleton.mp q)
  · intro b hb; rw [List.mem_singleton.mp hb]; exact next_is_new F
  · intro p hp q; rw [List.mem_singleton.mp hp] at q; exact hlI (List.mem_singleton.mp q)
  · intro p hp q; rw [List.mem_singleton.mp hp] at q; exact hlI (List.mem_singleton.mp q)
  · show IsRangeIter _ _ _ _ _
    have e1 : (k : Int) - 1 + ((0 : Nat) : Int) * (-1) = (k : Int) - 1 := by (first | lia | omega)
    have e2 : (k : Int) - ((0 : Nat) : Int) = (k : Int) := by (first | lia | omega)
    rw [e1, e2]
    exact Heap.get?_push_size _ rfl
  · rintro i v m₁ nx h2 tk2 own hi ⟨tv, rfl⟩ hadr hoff ⟨rfl, hmx⟩ F3 N3
    have ei : (k : Int) - 1 + (i : Int) * (-1) = ((k - 1 - i : Nat) : Int) := by (first | lia | omega)
    rw [ei, map_none hmx] at F3
    exact turn i tv h2 tk2 own hi (fun p hp => hoff p hp l (List.mem_singleton.mpr rfl)) F3 N3
  · rintro m₁ nx h2 tk2 ⟨rfl, hmx⟩ F3 N3
    exact done m₁ h2 tk2 hmx F3 N3

section
variable {w : World}
local macro_rules | `(tactic| walk_at "call builtin:len") => `(tactic| k_extra "q call builtin:len")

theorem heapify_max_spec {l : Addr} {as : List Nat} {n : Nat} {lt : Nat → Nat → Bool} (hlen : as.length < 64) :
    MutSpec 3 w 42 [.ref l] l (listOf (refs as).toArray n) (listOf (refs (hfy lt (as.length / 2) (as.length / 2) as)).toArray n) (CmpOk w lt as) .none := by
  intro A g s Q E G hg hgs hgl hl hc ret
  obtain ⟨dp, un, gd, outer, A₀, base, mean, mg, mb, rfl, hdp, hun, B, X, T⟩ := G.ex
  w_strict (
  revert X
  k_fill
  intro X
  refine' enter (binds := [(Str.ofString "x", .ref l)]) ?_ ?_ X hg hgs ?k1 ?k2 ?k3 ?k4 ?_ ?_ ?_ ?_ ?k5
  case k1 => k_is
  case k2 => k_is
  case k3 => exact BindsTo.of_eq rfl
  case k4 => exact locs rfl
  case k5 => decide
  all_goals try exact rfl
  · exact Nat.lt_of_le_of_lt (Nat.le_add_right _ _) hdp
  · exact T.nolimit
  intro h₁ F hk₁
  have N : News g s.heap.objs.size h₁ [(l, listOf (refs as).toArray n)] := fun q hq => by
    cases List.mem_singleton.mp hq
    exact ⟨hk₁ _ _ hl, Nat.ne_of_lt (Heap.lt_size hl), hgl⟩
  generalize hL : s.heap.objs.size = L' at *
  (try dsimp only)
  (try k_fold)
  k_with_none
  k_with "q call builtin:len" => (k_here; (with_reducible show wpAny _ _ (call (Value.builtin _) [Value.ref _]) _ _ _); k_dflt (refine' len_refs ?k1 ?k2 ?k3 ?_; (case k1 => k_asm); (case k2 => k_mem); (case k3 => (first | lia | omega)); k_whole))
  repeat' ((fail_if_success (with_reducible show wpAny _ _ (call (Value.type "reversed") _ _) _ _ _)); (fail_if_success (with_reducible show wpAny _ _ (call (Value.ref _) _ _) _ _ _)); (first | (k_unfold; (try dsimp only)) | walk1 | (dsimp only; walk1)))
  ((rename Fr _ _ _ _ => eF); (rename News _ _ _ _ => eN); (rename IsRange _ _ _ _ _ _ _ _ => eR)))
  have ek : ((as.length : Int)).fdiv 2 = ((as.length / 2 : Nat) : Int) := by
    rw [Int.fdiv_eq_ediv_of_nonneg _ (by decide)]; (first | lia | omega)
  rw [ek] at eR
  have hk64 : as.length / 2 < 64 := by (first | lia | omega)
  have hkl : as.length / 2 ≤ as.length := by (first | lia | omega)
  generalize hkk : as.length / 2 = k at *
  refine for_rev (fun i => listOf (refs (hfy lt k i as)).toArray n) rfl eR hk64 eF eN ?_ ?_
  · rintro i tv h2 tk2 own hi hown F3 N3
    obtain ⟨hf1, hf2⟩ := hfy_facts (lt := lt) (k := k) (xs := as) i (by (first | lia | omega)) hkl
    clear eF eN hl
    w_strict (
    repeat' ((fail_if_success (with_reducible show wpAny _ _ (call (Value.ref _) _ _) _ _ _)); (first | (k_unfold; (try dsimp only)) | walk1 | (dsimp only; walk1)))
    skip)
    refine mut_walkR (siftup_max_spec (lt := lt) (by (first | lia | omega)) (by (first | lia | omega))) ((hc.sub hf2).up (stays_ground F3 N3)) B X T F3 N3 hown (by (first | lia | omega)) (by (first | lia | omega)) fun h9 tk9 F9 N9 _ => ?_
    refine wpAny_pure ?_
    refine InvEndN.intro (nx := [(l, listOf (refs (hfy lt k (i + 1) as)).toArray n)]) F9 N9 ⟨rfl, fun z hz => if_neg hz⟩ rfl (fun p hp => ?_) (fun p hp => .tail _ hp)
    rw [List.mem_singleton.mp hp]; exact .head _
  · intro m₁ h2 tk2 hmx F3 N3
    refine wpAny_pure ?_
    exact ret _ _ F3.keep (Nat.le_of_lt F3.ns.lt) (N3 _ (.head _)).1

theorem heapify_spec {l : Addr} {as : List Nat} {n : Nat} {lt : Nat → Nat → Bool} (hlen : as.length < 64) :
    MutSpec 3 w 28 [.ref l] l (listOf (refs as).toArray n) (listOf (refs (hfy lt (as.length / 2) (as.length / 2) as)).toArray n) (CmpOk w (fun a b => lt b a) as) .none := by
  intro A g s Q E G hg hgs hgl hl hc ret
  obtain ⟨dp, un, gd, outer, A₀, base, mean, mg, mb, rfl, hdp, hun, B, X, T⟩ := G.ex
  w_strict (
  revert X
  k_fill
  intro X
  refine' enter (binds := [(Str.ofString "x", .ref l)]) ?_ ?_ X hg hgs ?k1 ?k2 ?k3 ?k4 ?_ ?_ ?_ ?_ ?k5
  case k1 => k_is
  case k2 => k_is
  case k3 => exact BindsTo.of_eq rfl
  case k4 => exact locs rfl
  case k5 => decide
  all_goals try exact rfl
  · exact Nat.lt_of_le_of_lt (Nat.le_add_right _ _) hdp
  · exact T.nolimit
  intro h₁ F hk₁
  have N : News g s.heap.objs.size h₁ [(l, listOf (refs as).toArray n)] := fun q hq => by
    cases List.mem_singleton.mp hq
    exact ⟨hk₁ _ _ hl, Nat.ne_of_lt (Heap.lt_size hl), hgl⟩
  generalize hL : s.heap.objs.size = L' at *
  (try dsimp only)
  (try k_fold)
  k_with_none
  k_with "q call builtin:len" => (k_here; (with_reducible show wpAny _ _ (call (Value.builtin _) [Value.ref _]) _ _ _); k_dflt (refine' len_refs ?k1 ?k2 ?k3 ?_; (case k1 => k_asm); (case k2 => k_mem); (case k3 => (first | lia | omega)); k_whole))
  repeat' ((fail_if_success (with_reducible show wpAny _ _ (call (Value.type "reversed") _ _) _ _ _)); (fail_if_success (with_reducible show wpAny _ _ (call (Value.ref _) _ _) _ _ _)); (first | (k_unfold; (try dsimp only)) | walk1 | (dsimp only; walk1)))
  ((rename Fr _ _ _ _ => eF); (rename News _ _ _ _ => eN); (rename IsRange _ _ _ _ _ _ _ _ => eR)))
  have ek : ((as.length : Int)).fdiv 2 = ((as.length / 2 : Nat) : Int) := by
    rw [Int.fdiv_eq_ediv_of_nonneg _ (by decide)]; (first | lia | omega)
  rw [ek] at eR
  have hk64 : as.length / 2 < 64 := by (first | lia | omega)
  have hkl : as.length / 2 ≤ as.length := by (first | lia | omega)
  generalize hkk : as.length / 2 = k at *
  refine for_rev (fun i => listOf (refs (hfy lt k i as)).toArray n) rfl eR hk64 eF eN ?_ ?_
  · rintro i tv h2 tk2 own hi hown F3 N3
    obtain ⟨hf1, hf2⟩ := hfy_facts (lt := lt) (k := k) (xs := as) i (by (first | lia | omega)) hkl
    clear eF eN hl
    w_strict (
    repeat' ((fail_if_success (with_reducible show wpAny _ _ (call (Value.ref _) _ _) _ _ _)); (first | (k_unfold; (try dsimp only)) | walk1 | (dsimp only; walk1)))
    skip)
    refine mut_walkR (siftup_spec (lt := lt) (by (first | lia | omega)) (by (first | lia | omega))) ((hc.sub hf2).up (stays_ground F3 N3)) B X T F3 N3 hown (by (first | lia | omega)) (by (first | lia | omega)) fun h9 tk9 F9 N9 _ => ?_
    refine wpAny_pure ?_
    refine InvEndN.intro (nx := [(l, listOf (refs (hfy lt k (i + 1) as)).toArray n)]) F9 N9 ⟨rfl, fun z hz => if_neg hz⟩ rfl (fun p hp => ?_) (fun p hp => .tail _ hp)
    rw [List.mem_singleton.mp hp]; exact .head _
  · intro m₁ h2 tk2 hmx F3 N3
    refine wpAny_pure ?_
    exact ret _ _ F3.keep (Nat.le_of_lt F3.ns.lt) (N3 _ (.head _)).1
end
end Mine
end
theorem Mine.start_H1 : True := by
  w_top off
  trivial
section
set_option maxHeartbeats 1000000
namespace Mine
theorem getD_set {xs : List Nat} {p v i : Nat} (hp : p < xs.length) : (xs.set p v).getD i 0 = if i = p then v else xs.getD i 0 := by
  rw [List.getD_eq_getElem?_getD, List.getD_eq_getElem?_getD, List.getElem?_set]
  by_cases h : p = i
  · subst h; simp [hp]
  · rw [if_neg h, if_neg (Ne.symm h)]
theorem swap_set {xs : List Nat} {i j x : Nat} (hi : i < xs.length) (hj : j < xs.length) (hij : j ≠ i) : ((xs.set i (xs.getD j 0)).set j x).Perm (xs.set i x) := by
  have h := Array.swap_perm (xs := (xs.set i x).toArray) (i := i) (j := j) (by simpa using hi) (by simpa using hj)
  have h2 := Array.perm_iff_toList_perm.mp h
  refine List.Perm.trans (List.Perm.of_eq ?_) h2
  apply List.ext_getElem?
  intro k
  simp only [Array.swap, List.getElem?_set, Array.toList_set, List.getElem_toArray, List.getElem_set, List.length_set]
  have e : xs.getD j 0 = xs[j] := by rw [List.getD_eq_getElem?_getD, List.getElem?_eq_getElem hj]; rfl
  rw [e]
  by_cases h1 : j = k
  · simp [h1]
  · by_cases h2 : i = k
    · have h3 : ¬ k = j := fun q => h1 q.symm
      simp [h1, h2, h3]
    · simp [h1, h2]
theorem sdown_perm (lt : Nat → Nat → Bool) (x st : Nat) : ∀ (pos : Nat) (xs : List Nat), pos < xs.length → (sdown lt x st pos xs).Perm (xs.set pos x) := by
  intro pos
  induction pos using Nat.strongRecOn with
  | ind pos ih =>
    intro xs hp
    unfold sdown
    split
    · split
      · exact (ih ((pos - 1) / 2) (by (first | lia | omega)) _ (by rw [List.length_set]; (first | lia | omega))).trans (swap_set hp (by (first | lia | omega)) (by (first | lia | omega)))
      · exact .refl _
    · exact .refl _
theorem sleaf_perm (lt : Nat → Nat → Bool) (x : Nat) : ∀ (k pos : Nat) (xs : List Nat), xs.length - pos = k → pos < xs.length → ((sleaf lt pos xs).2.set (sleaf lt pos xs).1 x).Perm (xs.set pos x) := by
  intro k
  induction k using Nat.strongRecOn with
  | ind k ih =>
    intro pos xs hk hp
    unfold sleaf
    split
    · rename_i h
      have h1 := kid_gt lt xs pos
      have h2 := kid_lt (lt := lt) h
      exact (ih (xs.length - kid lt xs pos) (by (first | lia | omega)) _ _ (by rw [List.length_set]) (by rw [List.length_set]; exact h2)).trans (swap_set hp h2 (by (first | lia | omega)))
    · exact .refl _
theorem set_self {xs : List Nat} {p : Nat} (hp : p < xs.length) : xs.set p (xs.getD p 0) = xs := by
  apply List.ext_getElem?
  intro k
  rw [List.getElem?_set]
  by_cases h : p = k
  · subst h; simp [hp]
  · simp [h]
theorem sup_perm {lt : Nat → Nat → Bool} {p : Nat} {xs : List Nat} (hp : p < xs.length) : (sup lt p xs).Perm xs := by
  have hf := sleaf_facts lt _ p xs rfl hp
  unfold sup
  refine (sdown_perm lt _ p _ _ (by rw [List.length_set, hf.1]; exact hf.2.1)).trans ?_
  rw [List.set_set]
  refine (sleaf_perm lt _ _ p xs rfl hp).trans ?_
  rw [set_self hp]
theorem hfy_perm {lt : Nat → Nat → Bool} {k : Nat} {xs : List Nat} : ∀ t, t ≤ k → k ≤ xs.length → (hfy lt k t xs).Perm xs
  | 0, _, _ => .refl _
  | t + 1, ht, hk => by
    have h := hfy_facts (lt := lt) (xs := xs) t (by (first | lia | omega)) hk
    exact (sup_perm (by rw [h.1]; (first | lia | omega))).trans (hfy_perm t (by (first | lia | omega)) hk)

section
variable (f : Nat → Int)
/-- the parents from p on are no less than their children -/
noncomputable def HP (p : Nat) (xs : List Nat) : Prop := ∀ i, 1 ≤ i → i < xs.length → p ≤ (i - 1) / 2 → f (xs.getD i 0) ≤ f (xs.getD ((i - 1) / 2) 0)
inductive Desc (p : Nat) : Nat → Prop
  | refl : Desc p p
  | step {i : Nat} : 1 ≤ i → Desc p ((i - 1) / 2) → Desc p i
theorem Desc.le {p i : Nat} (h : Desc p i) : p ≤ i := by
  induction h with
  | refl => exact Nat.le_refl _
  | step _ _ ih => (first | lia | omega)
theorem Desc.up {p i : Nat} (h : Desc p i) (hi : i ≠ p) : 1 ≤ i ∧ Desc p ((i - 1) / 2) := by
  cases h with
  | refl => exact absurd rfl hi
  | step h1 h2 => exact ⟨h1, h2⟩
theorem kid_spec {xs : List Nat} {pos : Nat} (h : 2 * pos + 1 < xs.length) :
    (kid (fun a b => decide (f a < f b)) xs pos - 1) / 2 = pos ∧ 1 ≤ kid (fun a b => decide (f a < f b)) xs pos ∧ ∀ i, 1 ≤ i → i < xs.length → (i - 1) / 2 = pos → f (xs.getD i 0) ≤ f (xs.getD (kid (fun a b => decide (f a < f b)) xs pos) 0) := by
  unfold kid
  split
  · rename_i hc
    have := of_decide_eq_false hc.2
    refine ⟨by (first | lia | omega), by (first | lia | omega), fun i h1 h2 h3 => ?_⟩
    have : i = 2 * pos + 1 ∨ i = 2 * pos + 2 := by (first | lia | omega)
    rcases this with rfl | rfl <;> (first | lia | omega)
  · rename_i hc
    refine ⟨by (first | lia | omega), by (first | lia | omega), fun i h1 h2 h3 => ?_⟩
    have : i = 2 * pos + 1 ∨ i = 2 * pos + 2 := by (first | lia | omega)
    rcases this with rfl | rfl
    · exact Int.le_refl _
    · by_cases hh : f (xs.getD (2 * pos + 2) 0) < f (xs.getD (2 * pos + 1) 0)
      · (first | lia | omega)
      · exact absurd ⟨h2, decide_eq_false hh⟩ hc
theorem sleaf_heap (p : Nat) : ∀ (k pos : Nat) (ys : List Nat), ys.length - pos = k → pos < ys.length → Desc p pos →
    (∀ i, 1 ≤ i → i < ys.length → p ≤ (i - 1) / 2 → (i - 1) / 2 ≠ pos → f (ys.getD i 0) ≤ f (ys.getD ((i - 1) / 2) 0)) →
    (pos ≠ p → ∀ i, 1 ≤ i → i < ys.length → (i - 1) / 2 = pos → f (ys.getD i 0) ≤ f (ys.getD ((pos - 1) / 2) 0)) →
    let r := sleaf (fun a b => decide (f a < f b)) pos ys
    r.2.length = ys.length ∧ r.1 < ys.length ∧ Desc p r.1 ∧ ys.length ≤ 2 * r.1 + 1 ∧ (∀ i, 1 ≤ i → i < ys.length → p ≤ (i - 1) / 2 → (i - 1) / 2 ≠ r.1 → f (r.2.getD i 0) ≤ f (r.2.getD ((i - 1) / 2) 0)) := by
  intro k
  induction k using Nat.strongRecOn with
  | ind k ih =>
    intro pos ys hk hp hD ha hb
    unfold sleaf
    split
    · rename_i h
      obtain ⟨k1, k2, k3⟩ := kid_spec f h
      have h1 := kid_gt (fun a b => decide (f a < f b)) ys pos
      have h2 := kid_lt (lt := fun a b => decide (f a < f b)) h
      generalize kid (fun a b => decide (f a < f b)) ys pos = c at *
      have hle := hD.le
      have := ih (ys.length - c) (by (first | lia | omega)) c (ys.set pos (ys.getD c 0)) (by rw [List.length_set]) (by rw [List.length_set]; exact h2) (.step k2 (by rw [k1]; exact hD)) ?_ ?_
      · rw [List.length_set] at this; exact this
      · intro i h3 h4 h5 h6
        rw [List.length_set] at h4
        rw [getD_set hp, getD_set hp]
        by_cases e : (i - 1) / 2 = pos
        · rw [if_pos e, if_neg (by (first | lia | omega))]
          exact k3 i h3 h4 e
        · rw [if_neg e]
          by_cases e2 : i = pos
          · rw [if_pos e2]
            subst e2
            exact hb (by (first | lia | omega)) c k2 h2 k1
          · rw [if_neg e2]; exact ha i h3 h4 h5 e
      · intro _ i h3 h4 h5
        rw [List.length_set] at h4
        rw [getD_set hp, getD_set hp, if_neg (by (first | lia | omega)), if_pos k1]
        have := ha i h3 h4 (by (first | lia | omega)) (by (first | lia | omega))
        rw [h5] at this; exact this
    · rename_i h
      exact ⟨rfl, hp, hD, by (first | lia | omega), ha⟩
theorem sdown_heap (x p : Nat) : ∀ (pos : Nat) (zs : List Nat), pos < zs.length → Desc p pos →
    (∀ i, 1 ≤ i → i < zs.length → p ≤ (i - 1) / 2 → (i - 1) / 2 ≠ pos → i ≠ pos → f (zs.getD i 0) ≤ f (zs.getD ((i - 1) / 2) 0)) →
    (∀ i, 1 ≤ i → i < zs.length → (i - 1) / 2 = pos → f (zs.getD i 0) ≤ f x) →
    (pos ≠ p → ∀ i, 1 ≤ i → i < zs.length → (i - 1) / 2 = pos → f (zs.getD i 0) ≤ f (zs.getD ((pos - 1) / 2) 0)) →
    HP f p (sdown (fun a b => decide (f a < f b)) x p pos zs) := by
  intro pos
  induction pos using Nat.strongRecOn with
  | ind pos ih =>
    intro zs hp hD hc hd he
    have hle := hD.le
    have fin : (p < pos → ¬ f (zs.getD ((pos - 1) / 2) 0) < f x) → HP f p (zs.set pos x) := by
      intro hx i h1 h2 h3
      rw [List.length_set] at h2
      rw [getD_set hp, getD_set hp]
      by_cases e : (i - 1) / 2 = pos
      · rw [if_pos e, if_neg (by (first | lia | omega))]; exact hd i h1 h2 e
      · rw [if_neg e]
        by_cases e2 : i = pos
        · rw [if_pos e2]; subst e2
          have := hx (by (first | lia | omega))
          (first | lia | omega)
        · rw [if_neg e2]; exact hc i h1 h2 h3 e e2
    unfold sdown
    split
    · rename_i hlt
      split
      · rename_i hcmp
        have hcmp' : f (zs.getD ((pos - 1) / 2) 0) < f x := of_decide_eq_true hcmp
        obtain ⟨hpos, hD'⟩ := hD.up (by (first | lia | omega))
        have hle' := hD'.le
        refine ih ((pos - 1) / 2) (by (first | lia | omega)) _ (by rw [List.length_set]; (first | lia | omega)) hD' ?_ ?_ ?_
        · intro i h1 h2 h3 h4 h5
          rw [List.length_set] at h2
          rw [getD_set hp, getD_set hp]
          have n1 : i ≠ pos := fun q => h4 (by rw [q])
          rw [if_neg n1]
          by_cases e : (i - 1) / 2 = pos
          · rw [if_pos e]; exact he (by (first | lia | omega)) i h1 h2 e
          · rw [if_neg e]; exact hc i h1 h2 h3 e n1
        · intro i h1 h2 h3
          rw [List.length_set] at h2
          rw [getD_set hp]
          by_cases e : i = pos
          · rw [if_pos e]; (first | lia | omega)
          · rw [if_neg e]
            have := hc i h1 h2 (by (first | lia | omega)) (by (first | lia | omega)) e
            rw [h3] at this; (first | lia | omega)
        · intro hne i h1 h2 h3
          rw [List.length_set] at h2
          obtain ⟨hpos2, hD2⟩ := hD'.up hne
          have hle2 := hD2.le
          have hpp := hc ((pos - 1) / 2) hpos2 (by (first | lia | omega)) hle2 (by (first | lia | omega)) (by (first | lia | omega))
          rw [getD_set hp, getD_set hp, if_neg (show ((pos - 1) / 2 - 1) / 2 ≠ pos by (first | lia | omega))]
          by_cases e : i = pos
          · rw [if_pos e]; exact hpp
          · rw [if_neg e]
            have := hc i h1 h2 (by (first | lia | omega)) (by (first | lia | omega)) e
            rw [h3] at this; (first | lia | omega)
      · rename_i hcmp
        exact fin fun _ q => hcmp (decide_eq_true q)
    · rename_i hlt
      exact fin fun q => absurd q hlt
theorem sup_heap {p : Nat} {xs : List Nat} (hp : p < xs.length) (h : HP f (p + 1) xs) : HP f p (sup (fun a b => decide (f a < f b)) p xs) := by
  have hs := sleaf_heap f p _ p xs rfl hp .refl (fun i h1 h2 h3 h4 => h i h1 h2 (by (first | lia | omega))) (fun q => absurd rfl q)
  unfold sup
  generalize sleaf (fun a b => decide (f a < f b)) p xs = r at hs
  obtain ⟨leaf, ys⟩ := r
  obtain ⟨h1, h2, h3, h4, h5⟩ := hs
  dsimp only at h1 h2 h3 h4 h5 ⊢
  refine sdown_heap f _ p leaf _ (by rw [List.length_set]; (first | lia | omega)) h3 ?_ ?_ ?_
  · intro i a b c d e
    rw [List.length_set] at b
    rw [getD_set (by (first | lia | omega)), getD_set (by (first | lia | omega)), if_neg e, if_neg d]
    exact h5 i a (by (first | lia | omega)) c d
  · intro i a b c
    rw [List.length_set] at b; (first | lia | omega)
  · intro _ i a b c
    rw [List.length_set] at b; (first | lia | omega)
theorem hfy_heap {xs : List Nat} : ∀ t, t ≤ xs.length / 2 → HP f (xs.length / 2 - t) (hfy (fun a b => decide (f a < f b)) (xs.length / 2) t xs)
  | 0, _ => fun i h1 h2 h3 => by
    have h2' : i < xs.length := h2
    (first | lia | omega)
  | t + 1, ht => by
    have hl := (hfy_facts (lt := fun a b => decide (f a < f b)) (k := xs.length / 2) (xs := xs) t (by (first | lia | omega)) (by (first | lia | omega))).1
    have h := hfy_heap (xs := xs) t (by (first | lia | omega))
    rw [show xs.length / 2 - (t + 1) = xs.length / 2 - 1 - t by (first | lia | omega)]
    refine sup_heap f (by rw [hl]; (first | lia | omega)) ?_
    rw [show xs.length / 2 - 1 - t + 1 = xs.length / 2 - t by (first | lia | omega)]; exact h
theorem heap_root {xs : List Nat} (h : HP f 0 xs) : ∀ i, i < xs.length → f (xs.getD i 0) ≤ f (xs.getD 0 0) := by
  intro i
  induction i using Nat.strongRecOn with
  | ind i ih =>
    intro hi
    by_cases e : i = 0
    · subst e; exact Int.le_refl _
    · have h1 := h i (by (first | lia | omega)) hi (by (first | lia | omega))
      have h2 := ih ((i - 1) / 2) (by (first | lia | omega)) (by (first | lia | omega))
      (first | lia | omega)
theorem heap_root_mem {xs : List Nat} (h : HP f 0 xs) : ∀ a ∈ xs, f a ≤ f (xs.getD 0 0) := by
  intro a ha
  obtain ⟨i, hi, rfl⟩ := List.mem_iff_getElem.mp ha
  have := heap_root f h i hi
  rwa [List.getD_eq_getElem?_getD, List.getElem?_eq_getElem hi] at this
theorem hp_set0 {xs : List Nat} {x : Nat} (h0 : 0 < xs.length) (h : HP f 0 xs) : HP f 1 (xs.set 0 x) := by
  intro i h1 h2 h3
  rw [List.length_set] at h2
  rw [getD_set h0, getD_set h0, if_neg (by (first | lia | omega)), if_neg (by (first | lia | omega))]
  exact h i h1 h2 (by (first | lia | omega))
end
end Mine
end
theorem Mine.start_H2 : True := by
  w_top off
  trivial
section
set_option maxHeartbeats 1000000
namespace Mine
theorem SL.irr {r : Nat → Int} {i : Nat} (h : SL r i i) : False := by unfold SL at h; (first | lia | omega)
theorem SL.asymm {r : Nat → Int} {i j : Nat} (h : SL r i j) (h' : SL r j i) : False := (h.trans h').irr
theorem SL.tot {r : Nat → Int} {i j : Nat} (h : i ≠ j) : SL r i j ∨ SL r j i := by unfold SL; (first | lia | omega)
theorem sl_unique {r : Nat → Int} : ∀ {p q : List Nat}, p.Perm q → p.Pairwise (SL r) → q.Pairwise (SL r) → p = q := by
  intro p
  induction p with
  | nil => intro q h _ _; exact (List.Perm.nil_eq h)
  | cons a p ih =>
    intro q h hp hq
    cases q with
    | nil => exact absurd h.length_eq (by simp)
    | cons b q =>
      have e : a = b := by
        by_cases e : a = b
        · exact e
        · have h1 : a ∈ q := by
            have := h.mem_iff.mp (List.mem_cons_self (a := a) (l := p))
            rcases List.mem_cons.mp this with q | q
            · exact absurd q e
            · exact q
          have h2 : b ∈ p := by
            have := h.symm.mem_iff.mp (List.mem_cons_self (a := b) (l := q))
            rcases List.mem_cons.mp this with q | q
            · exact absurd q.symm e
            · exact q
          exact ((List.pairwise_cons.mp hp).1 b h2).asymm ((List.pairwise_cons.mp hq).1 a h1) |>.elim
      subst e
      rw [ih h.cons_inv (List.pairwise_cons.mp hp).2 (List.pairwise_cons.mp hq).2]
/-- the indices in their order -/
noncomputable def ord (r : Nat → Int) (N : Nat) : List Nat := (List.range N).mergeSort fun i j => decide (r i < r j ∨ (r i = r j ∧ i ≤ j))
theorem ord_perm (r : Nat → Int) (N : Nat) : (ord r N).Perm (List.range N) := List.mergeSort_perm _ _
theorem ord_sorted (r : Nat → Int) (N : Nat) : (ord r N).Pairwise (SL r) := by
  have h := List.pairwise_mergeSort (le := fun i j => decide (r i < r j ∨ (r i = r j ∧ i ≤ j))) (fun a b c h1 h2 => by
    have := of_decide_eq_true h1; have := of_decide_eq_true h2; exact decide_eq_true (by (first | lia | omega))) (fun a b => by
    simp only [Bool.or_eq_true, decide_eq_true_eq]; (first | lia | omega)) (List.range N)
  have hn : (ord r N).Nodup := (ord_perm r N).nodup_iff.mpr List.nodup_range
  refine (h.and hn).imp fun {a b} hh => ?_
  have := of_decide_eq_true hh.1
  have := hh.2
  unfold SL; (first | lia | omega)
theorem ord_unique {r : Nat → Int} {N : Nat} {q : List Nat} (hp : q.Perm (List.range N)) (hs : q.Pairwise (SL r)) : q = ord r N :=
  sl_unique (hp.trans (ord_perm r N).symm) hs (ord_sorted r N)
theorem ord_len (r : Nat → Int) (N : Nat) : (ord r N).length = N := by rw [(ord_perm r N).length_eq, List.length_range]
theorem ord_mem {r : Nat → Int} {N i : Nat} : i ∈ ord r N ↔ i < N := by rw [(ord_perm r N).mem_iff, List.mem_range]
/-- these are the least of the first j -/
structure Best (r : Nat → Int) (j : Nat) (I : List Nat) : Prop where
  nodup : I.Nodup
  lt : ∀ i ∈ I, i < j
  best : ∀ i, i < j → i ∉ I → ∀ k ∈ I, SL r k i
theorem Best.all (r : Nat → Int) (j : Nat) : Best r j (List.range j) := ⟨List.nodup_range, fun i h => List.mem_range.mp h, fun i h h' => absurd (List.mem_range.mpr h) h'⟩
theorem Best.perm {r : Nat → Int} {j : Nat} {I I' : List Nat} (h : Best r j I) (p : I'.Perm I) : Best r j I' :=
  ⟨p.nodup_iff.mpr h.nodup, fun i hi => h.lt i (p.mem_iff.mp hi), fun i hi hn k hk => h.best i hi (fun q => hn (p.mem_iff.mpr q)) k (p.mem_iff.mp hk)⟩
theorem Best.keep {r : Nat → Int} {j m : Nat} {I : List Nat} (h : Best r j I) (hm : m ∈ I) (hmax : ∀ k ∈ I, k = m ∨ SL r k m) (hge : ¬ r j < r m) : Best r (j + 1) I := by
  refine ⟨h.nodup, fun i hi => by have := h.lt i hi; (first | lia | omega), fun i hi hn k hk => ?_⟩
  by_cases e : i = j
  · subst e
    have hmj : SL r m i := by have := h.lt m hm; unfold SL; (first | lia | omega)
    rcases hmax k hk with rfl | q
    · exact hmj
    · exact q.trans hmj
  · exact h.best i (by (first | lia | omega)) hn k hk
theorem Best.swap {r : Nat → Int} {j m : Nat} {I : List Nat} (h : Best r j (m :: I)) (hmax : ∀ k ∈ I, SL r k m) (hlt : r j < r m) : Best r (j + 1) (j :: I) := by
  have hn := List.nodup_cons.mp h.nodup
  refine ⟨List.nodup_cons.mpr ⟨fun q => by have := h.lt j (.tail _ q); (first | lia | omega), hn.2⟩, fun i hi => ?_, fun i hi hni k hk => ?_⟩
  · rcases List.mem_cons.mp hi with rfl | hi
    · (first | lia | omega)
    · have := h.lt i (.tail _ hi); (first | lia | omega)
  · have hij : i ≠ j := fun q => hni (by rw [q]; exact .head _)
    have hiI : i ∉ I := fun q => hni (.tail _ q)
    by_cases e : i = m
    · subst e
      rcases List.mem_cons.mp hk with rfl | hk
      · exact .inl hlt
      · exact hmax k hk
    · have hb := h.best i (by (first | lia | omega)) (fun q => by
        rcases List.mem_cons.mp q with q | q
        · exact e q
        · exact hiI q)
      rcases List.mem_cons.mp hk with rfl | hk
      · exact SL.trans (.inl hlt) (hb m (.head _))
      · exact hb k (.tail _ hk)
theorem Best.take {r : Nat → Int} {N : Nat} {I p : List Nat} (h : Best r N I) (hp : p.Perm I) (hs : p.Pairwise (SL r)) : p = (ord r N).take p.length := by
  have hpn : p.Nodup := hp.nodup_iff.mpr h.nodup
  have hon : (ord r N).Nodup := (ord_perm r N).nodup_iff.mpr List.nodup_range
  have key : p ++ (ord r N).filter (fun i => decide (i ∉ I)) = ord r N := by
    refine sl_unique ?_ ?_ (ord_sorted r N)
    · rw [List.perm_ext_iff_of_nodup (List.nodup_append.mpr ⟨hpn, hon.filter _, fun a ha b hb => ?_⟩) hon]
      · intro a
        rw [List.mem_append, List.mem_filter, ord_mem, hp.mem_iff]
        constructor
        · rintro (q | q)
          · exact h.lt a q
          · exact q.1
        · intro q
          by_cases e : a ∈ I
          · exact .inl e
          · exact .inr ⟨q, decide_eq_true e⟩
      · intro q
        subst q
        exact of_decide_eq_true (List.mem_filter.mp hb).2 (hp.mem_iff.mp ha)
    · rw [List.pairwise_append]
      refine ⟨hs, (ord_sorted r N).filter _, fun a ha b hb => ?_⟩
      have hb' := List.mem_filter.mp hb
      exact h.best b (ord_mem.mp hb'.1) (of_decide_eq_true hb'.2) a (hp.mem_iff.mp ha)
  rw [← key, List.take_left']
  rfl
end Mine
end
theorem Mine.start_H3 : True := by
  w_top off
  trivial
section
open PySem PySem.W PySem.Calls PyProof.Rows
set_option maxRecDepth 100000
set_option maxHeartbeats 2000000
namespace Mine
noncomputable def fk (r : Nat → Int) (ix : Nat → Nat) (b : Nat) : Int := r (ix b) * 64 + ix b
theorem sl_fk {r : Nat → Int} {i j : Nat} (hi : i < 64) (hj : j < 64) : SL r i j ↔ r i * 64 + i < r j * 64 + j := by unfold SL; (first | lia | omega)
/-- each of these addresses holds a tuple (text, order, ..) -/
noncomputable def Tups (S : Nat → Str) (TO : Nat → List Value → Prop) (ix : Nat → Nat) (od : Nat → Int) (bs : List Nat) (h : Heap) : Prop :=
  ∀ b ∈ bs, ∃ t u tl, TO (ix b) (.str (S (ix b)) t :: .int (od b) u :: tl) ∧ h.get? b = some (tupObj (.str (S (ix b)) t :: .int (od b) u :: tl))
/-- the heap's list behind j items -/
structure LS (N : Nat) (r : Nat → Int) (j : Nat) (bs : List Nat) (ix : Nat → Nat) : Prop where
  best : Best r j (bs.map ix)
  jN : j ≤ N
  heap : HP (fk r ix) 0 bs
theorem LS.ix_lt {N : Nat} {r : Nat → Int} {j : Nat} {bs : List Nat} {ix : Nat → Nat} (h : LS N r j bs ix) {b : Nat} (hb : b ∈ bs) : ix b < N :=
  Nat.lt_of_lt_of_le (h.best.lt _ (List.mem_map.mpr ⟨b, hb, rfl⟩)) h.jN
theorem nodup_map_inj {ix : Nat → Nat} : ∀ {bs : List Nat}, (bs.map ix).Nodup → ∀ a ∈ bs, ∀ b ∈ bs, ix a = ix b → a = b
  | [], _, a, ha, _, _, _ => nomatch ha
  | x :: bs, h, a, ha, b, hb, e => by
    rw [List.map_cons, List.nodup_cons] at h
    rcases List.mem_cons.mp ha with q1 | h1 <;> rcases List.mem_cons.mp hb with q2 | h2
    · rw [q1, q2]
    · exact absurd (List.mem_map.mpr ⟨b, h2, by rw [← e, q1]⟩) h.1
    · exact absurd (List.mem_map.mpr ⟨a, h1, by rw [e, q2]⟩) h.1
    · exact nodup_map_inj h.2 a h1 b h2 e
theorem LS.inj {N : Nat} {r : Nat → Int} {j : Nat} {bs : List Nat} {ix : Nat → Nat} (h : LS N r j bs ix) : ∀ a ∈ bs, ∀ b ∈ bs, ix a = ix b → a = b := nodup_map_inj h.best.nodup
theorem getD0_mem {bs : List Nat} (h : 0 < bs.length) : bs.getD 0 0 ∈ bs := by cases bs with | nil => simp at h | cons a _ => simp
theorem LS.root {N : Nat} {r : Nat → Int} {j : Nat} {bs : List Nat} {ix : Nat → Nat} (h : LS N r j bs ix) (hN : N ≤ 64) (h0 : 0 < bs.length) : ∀ k ∈ bs.map ix, k = ix (bs.getD 0 0) ∨ SL r k (ix (bs.getD 0 0)) := by
  intro k hk
  obtain ⟨b, hb, rfl⟩ := List.mem_map.mp hk
  have h1 := heap_root_mem _ h.heap b hb
  have i1 := h.ix_lt hb
  have i2 := h.ix_lt (getD0_mem h0)
  by_cases e : ix b = ix (bs.getD 0 0)
  · exact .inl e
  · refine .inr ((sl_fk (by (first | lia | omega)) (by (first | lia | omega))).mpr ?_)
    unfold fk at h1
    (first | lia | omega)
theorem LS.keep {N : Nat} {r : Nat → Int} {j : Nat} {bs : List Nat} {ix : Nat → Nat} (h : LS N r j bs ix) (hN : N ≤ 64) (h0 : 0 < bs.length) (hj : j < N) (hge : ¬ r j < r (ix (bs.getD 0 0))) : LS N r (j + 1) bs ix :=
  ⟨h.best.keep (List.mem_map.mpr ⟨_, getD0_mem h0, rfl⟩) (h.root hN h0) hge, hj, h.heap⟩
theorem LS.swap {N : Nat} {r : Nat → Int} {j : Nat} {bs : List Nat} {ix : Nat → Nat} (h : LS N r j bs ix) (hN : N ≤ 64) (h0 : 0 < bs.length) (hj : j < N) {P : Nat} (hP : P ∉ bs) (hlt : r j < r (ix (bs.getD 0 0))) :
    let ix' := fun x => if x = P then j else ix x
    LS N r (j + 1) (sup (fun a b => decide (fk r ix' a < fk r ix' b)) 0 (bs.set 0 P)) ix' ∧ ∀ b ∈ sup (fun a b => decide (fk r ix' a < fk r ix' b)) 0 (bs.set 0 P), b = P ∨ b ∈ bs := by
  intro ix'
  have same : ∀ b ∈ bs, ix' b = ix b := fun b hb => if_neg (fun (q : b = P) => hP (q ▸ hb))
  cases bs with
  | nil => simp at h0
  | cons a rest =>
    have hroot := h.root hN h0
    have hbest := h.best
    rw [List.map_cons] at hbest hroot
    have ha : (a :: rest).getD 0 0 = a := rfl
    rw [ha] at hroot hlt
    have hset : (a :: rest).set 0 P = P :: rest := rfl
    rw [hset]
    have hn := List.nodup_cons.mp hbest.nodup
    have b2 : Best r (j + 1) (j :: rest.map ix) := hbest.swap (fun k hk => by
      rcases hroot k (.tail _ hk) with e | e
      · exact absurd (e ▸ hk) hn.1
      · exact e) hlt
    have hmap : (P :: rest).map ix' = j :: rest.map ix := by
      rw [List.map_cons]
      have e1 : ix' P = j := if_pos rfl
      have e2 : rest.map ix' = rest.map ix := List.map_congr_left fun b hb => same b (.tail _ hb)
      rw [e1, e2]
    have hperm : (sup (fun a b => decide (fk r ix' a < fk r ix' b)) 0 (P :: rest)).Perm (P :: rest) := sup_perm (by simp)
    have hp0 : HP (fk r ix') 0 (a :: rest) := by
      intro i h1 h2 h3
      have m1 : (a :: rest).getD i 0 ∈ (a :: rest) := by rw [List.getD_eq_getElem?_getD, List.getElem?_eq_getElem h2]; exact List.getElem_mem h2
      have h4 : (i - 1) / 2 < (a :: rest).length := by (first | lia | omega)
      have m2 : (a :: rest).getD ((i - 1) / 2) 0 ∈ (a :: rest) := by rw [List.getD_eq_getElem?_getD, List.getElem?_eq_getElem h4]; exact List.getElem_mem h4
      have := h.heap i h1 h2 h3
      unfold fk at this ⊢
      rw [same _ m1, same _ m2]; exact this
    refine ⟨⟨Best.perm (by rw [← hmap] at b2; exact b2) (hperm.map ix'), hj, sup_heap _ (by simp) (hp_set0 (fk r ix') (xs := a :: rest) (x := P) (by simp) hp0)⟩, fun b hb => ?_⟩
    rcases List.mem_cons.mp (hperm.mem_iff.mp hb) with q | q
    · exact .inl q
    · exact .inr (.tail _ q)
/-- the end: sorted, these are the first of the order -/
theorem LS.fin {N : Nat} {r : Nat → Int} {bs cs : List Nat} {ix : Nat → Nat} (h : LS N r N bs ix) (hN : N ≤ 64) (hp : cs.Perm bs) (hs : cs.Pairwise fun a b => fk r ix a < fk r ix b) : cs.map ix = (ord r N).take bs.length := by
  have h1 := h.best.take (p := cs.map ix) (hp.map ix) ?_
  · rw [List.length_map, hp.length_eq] at h1; exact h1
  · rw [List.pairwise_map]
    refine hs.imp_of_mem fun {a b} ha hb hlt => ?_
    have i1 := h.ix_lt (hp.mem_iff.mp ha)
    have i2 := h.ix_lt (hp.mem_iff.mp hb)
    exact (sl_fk (by (first | lia | omega)) (by (first | lia | omega))).mpr hlt
/-- the start: the first k, made a heap -/
theorem LS.start {N : Nat} {r : Nat → Int} {as : List Nat} {ix : Nat → Nat} (hN : as.length ≤ N) (hm : as.map ix = List.range as.length) :
    LS N r as.length (hfy (fun a b => decide (fk r ix a < fk r ix b)) (as.length / 2) (as.length / 2) as) ix := by
  have hperm := hfy_perm (lt := fun a b => decide (fk r ix a < fk r ix b)) (k := as.length / 2) (xs := as) (as.length / 2) (Nat.le_refl _) (by (first | lia | omega))
  refine ⟨(Best.all r as.length).perm ?_, hN, ?_⟩
  · rw [← hm]; exact hperm.map ix
  · have := hfy_heap (fk r ix) (xs := as) (as.length / 2) (Nat.le_refl _)
    rw [Nat.sub_self] at this; exact this
section
variable {w : World} {S : Nat → Str} {TO : Nat → List Value → Prop} {ix : Nat → Nat} {od : Nat → Int} {bs : List Nat} {h : Heap} {r : Nat → Int} {N : Nat}
theorem cmp_up (hN : N ≤ 64) (ht : Tups S TO ix od bs h) (hix : ∀ b ∈ bs, ix b < N) (hinj : ∀ a ∈ bs, ∀ b ∈ bs, ix a = ix b → a = b) (hod : ∀ a ∈ bs, ∀ b ∈ bs, ix a < ix b → od a < od b)
    (hr : ∀ i j, i < N → j < N → strLt (S i) (S j) = decide (r i < r j)) (hre : ∀ i j, i < N → j < N → (S i = S j ↔ r i = r j)) : CmpOk w (fun a b => decide (fk r ix a < fk r ix b)) bs h := by
  intro a b ha hb A E Q s st hu hq
  obtain ⟨t, u, tl, -, e1⟩ := ht a ha
  obtain ⟨t', u', tl', -, e2⟩ := ht b hb
  have i1 := hix a ha
  have i2 := hix b hb
  have o1 := hod a ha b hb
  have o2 := hod b hb a ha
  have hab : a = b ∨ od a ≠ od b := by
    by_cases e : a = b
    · exact .inl e
    · have : ix a ≠ ix b := fun q => e (hinj a ha b hb q)
      exact .inr (by (first | lia | omega))
  refine tup_lt (st _ _ e1) (st _ _ e2) hab (by (first | lia | omega)) ?_
  have e : tupLt (S (ix a)) (od a) (S (ix b)) (od b) = decide (fk r ix a < fk r ix b) := by
    unfold tupLt fk
    by_cases q : S (ix a) = S (ix b)
    · rw [if_pos q, decide_eq_decide]
      have := (hre _ _ i1 i2).mp q
      by_cases e : ix a = ix b
      · have e' := hinj a ha b hb e
        subst e'
        (first | lia | omega)
      · (first | lia | omega)
    · rw [if_neg q, hr _ _ i1 i2, decide_eq_decide]
      have : r (ix a) ≠ r (ix b) := fun x => q ((hre _ _ i1 i2).mpr x)
      (first | lia | omega)
  rw [e]; exact hq _
theorem cmp_dn (hN : N ≤ 64) (ht : Tups S TO ix od bs h) (hix : ∀ b ∈ bs, ix b < N) (hinj : ∀ a ∈ bs, ∀ b ∈ bs, ix a = ix b → a = b) (hod : ∀ a ∈ bs, ∀ b ∈ bs, ix a < ix b → od b < od a)
    (hr : ∀ i j, i < N → j < N → strLt (S i) (S j) = decide (r j < r i)) (hre : ∀ i j, i < N → j < N → (S i = S j ↔ r i = r j)) : CmpOk w (fun a b => decide (fk r ix b < fk r ix a)) bs h := by
  intro a b ha hb A E Q s st hu hq
  obtain ⟨t, u, tl, -, e1⟩ := ht a ha
  obtain ⟨t', u', tl', -, e2⟩ := ht b hb
  have i1 := hix a ha
  have i2 := hix b hb
  have o1 := hod a ha b hb
  have o2 := hod b hb a ha
  have hab : a = b ∨ od a ≠ od b := by
    by_cases e : a = b
    · exact .inl e
    · have : ix a ≠ ix b := fun q => e (hinj a ha b hb q)
      exact .inr (by (first | lia | omega))
  refine tup_lt (st _ _ e1) (st _ _ e2) hab (by (first | lia | omega)) ?_
  have e : tupLt (S (ix a)) (od a) (S (ix b)) (od b) = decide (fk r ix b < fk r ix a) := by
    unfold tupLt fk
    by_cases q : S (ix a) = S (ix b)
    · rw [if_pos q, decide_eq_decide]
      have := (hre _ _ i1 i2).mp q
      by_cases e : ix a = ix b
      · have e' := hinj a ha b hb e
        subst e'
        (first | lia | omega)
      · (first | lia | omega)
    · rw [if_neg q, hr _ _ i1 i2, decide_eq_decide]
      have : r (ix a) ≠ r (ix b) := fun x => q ((hre _ _ i1 i2).mpr x)
      (first | lia | omega)
  rw [e]; exact hq _
end
end Mine
end
theorem Mine.start_O3 : True := by
  w_top off
  trivial
section
open PySem PySem.W PySem.Calls PyProof.Rows
set_option maxRecDepth 100000
set_option maxHeartbeats 4000000
namespace Mine
section
variable {prog : Program} {w : World} {A : Around} {E : Value → Shared → Prop} {s : Shared}
theorem kl_same {b fin : Bool} {Q : Bool → Shared → Prop} (h : Q fin s) : ∀ (xs : List Value) (i : Nat), KatLex prog w A b fin Q (xs.zip xs) i s
  | [], i => kat_nil h
  | x :: xs, i => kat_cons (eqBool_self (kat_yes (kl_same h xs (i + 1))))
theorem kl_tup {x y : Str} {o p : Int} {t t' u u' : Tok} {r r' : List Value} {fin : Bool} {Q : Bool → Shared → Prop} (hop : o ≠ p) (h : Q (tupLt x o y p) s) :
    KatLex prog w A true fin Q ((.str x t :: .int o u :: r).zip (.str y t' :: .int p u' :: r')) 0 s := by
  refine kat_cons (wpAny_eqBool_str ?_)
  unfold tupLt at h
  by_cases e : x = y
  · rw [if_pos e] at h
    rw [decide_eq_true e]
    refine kat_yes (kat_cons (wpAny_eqBool_int ?_))
    rw [show (o == p) = false from by simp [hop]]
    refine kat_no (kat_one _ _ ?_)
    show wpAny _ _ (richCompare .Lt _ _) _ _ _
    exact rc_lt_int h
  · rw [if_neg e] at h
    rw [decide_eq_false e]
    exact kat_no (oneLt_str h)
theorem kat_fs {h : Heap} : ∀ (bs : List Nat), (∀ b ∈ bs, ∃ x t o u tl, h.get? b = some (tupObj (.str x t :: .int o u :: tl))) → ∃ fs, KatTups h (refs bs) fs ∧ fs.length = bs.length ∧ ∀ v ∈ fs, ∃ x t, v = Value.str x t
  | [], _ => ⟨[], .nil, rfl, fun _ h => nomatch h⟩
  | b :: bs, H => by
    obtain ⟨fs, h1, h2, h3⟩ := kat_fs bs fun c hc => H c (.tail _ hc)
    obtain ⟨x, t, o, u, tl, ho⟩ := H b (.head _)
    refine ⟨.str x t :: fs, .cons ho rfl rfl rfl h1, by simp [h2], fun v hv => ?_⟩
    rcases List.mem_cons.mp hv with rfl | hv
    · exact ⟨x, t, rfl⟩
    · exact h3 v hv
theorem range_map_getD (bs : List Nat) : (List.range bs.length).map (fun i => bs.getD i 0) = bs := by
  apply List.ext_getElem
  · simp
  · intro i h1 h2
    simp [h2]
theorem sort_tups {D : Nat} {bs : List Nat} {c : Nat} {S : Nat → Str} {TO : Nat → List Value → Prop} {ix : Nat → Nat} {od rs : Nat → Int} {kw : List (Str × Value)} {b : Bool} {Q : Value → Shared → Prop}
    (ho : s.heap.get? D = some (listOf (refs bs).toArray c)) (h2 : 2 ≤ bs.length) (h64 : bs.length < 64) (hT : Tups S TO ix od bs (hideAll s.heap [D])) (hnd : bs.Nodup)
    (hop : ∀ x ∈ bs, ∀ y ∈ bs, x = y ∨ od x ≠ od y) (hlt : ∀ x ∈ bs, ∀ y ∈ bs, tupLt (S (ix x)) (od x) (S (ix y)) (od y) = decide (rs x < rs y)) (hne : ∀ x ∈ bs, ∀ y ∈ bs, x ≠ y → rs x ≠ rs y)
    (ha : argsOk "list.sort" ⟨[.ref D], kw⟩) (ht : Builtin.«list.sort» ⟨[.ref D], kw⟩ = nk_tree D b)
    (hP : ∀ h' tk' cs c', cs.Perm bs → cs.Pairwise (fun x y => if b = true then rs y < rs x else rs x < rs y) → h'.get? D = some (listOf (refs cs).toArray c') → (∀ a o, a ≠ D → s.heap.get? a = some o → h'.get? a = some o) → s.heap.objs.size ≤ h'.objs.size → Q .none { s with heap := h', toks := tk' }) :
    wpAny (model prog w) A (call (.builtin "list.sort") [.ref D] kw) Q E s := by
  have hrl : (refs bs).length = bs.length := refs_length bs
  have hg : ∀ i, i < bs.length → (refs bs).getD i Value.none = .ref (bs.getD i 0) := fun i hi => by
    rw [List.getD_eq_getElem?_getD, refs_get hi]; rfl
  have hm : ∀ i, i < bs.length → bs.getD i 0 ∈ bs := fun i hi => getD_mem hi
  have tup : ∀ h : Heap, (∀ a o, a ≠ D → s.heap.get? a = some o → h.get? a = some o) → ∀ x ∈ bs, ∃ t u tl, h.get? x = some (tupObj (.str (S (ix x)) t :: .int (od x) u :: tl)) := fun h hk x hx => by
    obtain ⟨t, u, tl, -, e⟩ := hT x hx
    refine ⟨t, u, tl, hk x _ (fun q => ?_) (of_hideAll _ e)⟩
    rw [q, hideAll_none _ (.head _)] at e; cases e
  refine wpAny_call_entry_kw slot_list_sort ⟨_, ho, rfl⟩ entry_list_sort ?_ ha
  rw [ht]
  refine nk_sort (r := fun i => rs (bs.getD i 0)) (κ := tuples' true) ho (by (first | lia | omega)) (by (first | lia | omega)) (fun h tk hk Q' E' hq => ?_) (fun i j h tk C hk hi hj hC => ?_) fun h' tk' q c' hp hs hl' hk' hsz' => ?_
  · obtain ⟨fs, k1, k2, k3⟩ := kat_fs (h := h) bs fun x hx => by
      obtain ⟨t, u, tl, e⟩ := tup h hk x hx
      exact ⟨_, t, _, u, tl, e⟩
    refine kat_kind (s := { s with heap := h, toks := tk }) (T := .type "str") k1 (by (first | lia | omega)) (fun v hv => ?_) (by decide +kernel) hq
    obtain ⟨x, t, rfl⟩ := k3 v hv
    exact Looks.of_pure rfl
  · rw [hrl] at hi hj
    rw [hg i hi, hg j hj]
    obtain ⟨t, u, tl, e1⟩ := tup h hk _ (hm i hi)
    obtain ⟨t', u', tl', e2⟩ := tup h hk _ (hm j hj)
    refine kat_lt (s := { s with heap := h, toks := tk }) e1 rfl e2 rfl ?_
    rcases hop _ (hm i hi) _ (hm j hj) with e | e
    · have e3 : (Value.str (S (ix (bs.getD i 0))) t :: Value.int (od (bs.getD i 0)) u :: tl) = (Value.str (S (ix (bs.getD j 0))) t' :: Value.int (od (bs.getD j 0)) u' :: tl') := by
        rw [e, e2] at e1
        have := congrArg (fun o : Option Obj => o.map (·.data)) e1
        simp only [tupObj, Option.map_some, Option.some.injEq, Data.seq.injEq, and_true] at this
        rw [e]
        exact (Array.toList_inj.mpr this.symm)
      simp only [e3]
      refine kl_same ?_ _ _
      have := hC tk
      rw [show (decide (rs (bs.getD i 0) < rs (bs.getD j 0))) = false from by rw [e]; simp] at this
      simpa using this
    · refine kl_tup e ?_
      rw [hlt _ (hm i hi) _ (hm j hj)]
      exact hC tk
  · rw [hrl] at hp
    have hq : q.map (fun i => (refs bs).getD i Value.none) = refs (q.map fun i => bs.getD i 0) := by
      unfold refs
      rw [List.map_map]
      refine List.map_congr_left fun i hi => ?_
      have := List.mem_range.mp (hp.mem_iff.mp hi)
      exact hg i this
    refine ⟨_, rfl, hP h' tk' (q.map fun i => bs.getD i 0) c' ?_ ?_ (by rw [← hq]; exact hl') hk' hsz'⟩
    · have := hp.map (fun i => bs.getD i 0)
      rwa [range_map_getD] at this
    · rw [List.pairwise_map]
      refine hs.imp_of_mem fun {i j} hi hj hsl => ?_
      have hi' := List.mem_range.mp (hp.mem_iff.mp hi)
      have hj' := List.mem_range.mp (hp.mem_iff.mp hj)
      have hij : i ≠ j := fun q => by rw [q] at hsl; unfold SL at hsl; (first | lia | omega)
      have hb : bs.getD i 0 ≠ bs.getD j 0 := fun q => by
        rw [List.getD_eq_getElem?_getD, List.getD_eq_getElem?_getD, List.getElem?_eq_getElem hi', List.getElem?_eq_getElem hj'] at q
        exact hij ((List.getElem_inj hnd).mp q)
      have := hne _ (hm i hi') _ (hm j hj') hb
      unfold SL at hsl
      cases b with
      | true =>
        have e1 : turned true (fun i => rs (bs.getD i 0)) i = - rs (bs.getD i 0) := if_pos rfl
        have e2 : turned true (fun i => rs (bs.getD i 0)) j = - rs (bs.getD j 0) := if_pos rfl
        rw [e1, e2] at hsl
        rw [if_pos rfl]; (first | lia | omega)
      | false =>
        have e1 : turned false (fun i => rs (bs.getD i 0)) i = rs (bs.getD i 0) := if_neg (by decide)
        have e2 : turned false (fun i => rs (bs.getD i 0)) j = rs (bs.getD j 0) := if_neg (by decide)
        rw [e1, e2] at hsl
        rw [if_neg (by decide)]; (first | lia | omega)
end
end Mine
end
theorem Mine.start_Q3 : True := by
  w_top off
  trivial
section
open PySem PySem.W PySem.Calls PyProof.Rows
set_option maxRecDepth 100000
set_option maxHeartbeats 4000000
namespace Mine
section
variable {prog : Program} {w : World} {A : Around} {E : Value → Shared → Prop} {env : Env} {s : Shared}
theorem assign3 {env : Env} {a b d : Str} {pa pb pd tp : Pos} {kk : Nat} {T : Addr} {x y z : Value} {m : Str → Option Value} {Q : Unit → Shared → Prop} (hh : A.handled = none) (ht : s.heap.IsTuple T #[x, y, z])
    (ha : env.kindOf a = some .local) (hb : env.kindOf b = some .local) (hd : env.kindOf d = some .local) (hp : (env.scope.kind == .class || (env.scope.kind == .module && env.locals != env.globals)) = false) (hn : s.heap.Ns env.locals m)
    (h : ∀ (h' : Heap) (tk : Nat), h'.Ns env.locals (fun q => if q = d then some z else if q = b then some y else if q = a then some x else m q) → (∀ c o, c ≠ env.locals → s.heap.get? c = some o → h'.get? c = some o) → Q () { s with heap := h', toks := tk }) :
    wpAny (model prog w) A (assign (.Tuple [.Name a pa, .Name b pb, .Name d pd] kk tp) env (.ref T)) Q E s := by
  refine wpAny_assign_Tuple hh ht rfl rfl fun h₁ he₁ => ?_
  have hL : env.locals ≠ s.heap.objs.size := Nat.ne_of_lt hn.lt
  have hn₁ : h₁.Ns env.locals m := hn.at' fun o e => he₁ _ o hL e
  have up₁ : ∀ c o, s.heap.get? c = some o → h₁.get? c = some o := fun c o e => he₁ c o (Nat.ne_of_lt (Heap.lt_size e)) e
  show wpAny _ _ (assignInOrder [assign (.Name a pa) env, assign (.Name b pb) env, assign (.Name d pd) env] [x, y, z]) _ _ _
  refine assignInOrder_cons ?_
  refine wpAny_assign_Name (wpAny_storeName_local ha hn₁ (fun h₂ hn₂ hs₂ => ?_) hp)
  refine assignInOrder_cons ?_
  refine wpAny_assign_Name (wpAny_storeName_local hb hn₂ (fun h₃ hn₃ hs₃ => ?_) hp)
  refine assignInOrder_cons ?_
  refine wpAny_assign_Name (wpAny_storeName_local hd hn₃ (fun h₄ hn₄ hs₄ => ?_) hp)
  refine assignInOrder_nil ?_
  exact h h₄ _ hn₄ (fun c o hc e => hs₄.extBut c o hc (hs₃.extBut c o hc (hs₂.extBut c o hc (up₁ c o e))))
theorem letGo_lit {elts : List PySem.Expr} {x1} {pos : Pos} {I l T : Addr} {i : Nat} {Q : Unit → Shared → Prop} (hit : LIt s.heap I (.ref l) i) (hQ : Q () s) : wpAny (model prog w) A (letOwnedTupleGo (.Tuple elts x1 pos) (.ref I) (.ref T)) Q E s :=
  wpAny_letOwnedTupleGo_listiter (I := I) (l := l) (i := i) ⟨_, hit, rfl, rfl⟩ hQ
/-- a comprehension over a list of tuples, each unpacked -/
theorem comp_tups {l : Nat} {as : List Nat} {c0 : Nat} {elt iter : PySem.Expr} {elts : List PySem.Expr} {kk : Nat} {tp : Pos} {scope : Scope} {cl : List (Str × Addr)} {pos : Pos} {RR : Value → Addr → Result → Shared → Prop}
    (out : Nat → Value) (hh : A.handled = none) (hl : s.heap.get? l = some (listOf (refs as).toArray c0)) (hlen : as.length < 64) (hcell : ∀ y ∈ scope.names, y.2 ≠ .cell) (hkind : scope.kind = .function)
    (helt : ∀ k a h tk m, as[k]? = some a → h.Ns (s.heap.objs.size + 2) m → Stays s.heap h → ∀ (Q' : Value → Shared → Prop) (E' : Value → Shared → Prop),
      (∀ h' tk' m', h'.Ns (s.heap.objs.size + 2) m' → (∀ c o, c ≠ s.heap.objs.size + 2 → h.get? c = some o → h'.get? c = some o) → Q' (out k) { s with heap := h', toks := tk' }) →
      wpAny (model prog w) A (assign (.Tuple elts kk tp) (compEnvC scope cl (s.heap.objs.size + 2) env) (.ref a)) (fun _ s₅ => wpAny (model prog w) A (eval elt (compEnvC scope cl (s.heap.objs.size + 2) env)) Q' E' s₅) E' { s with heap := h, toks := tk })
    (hpost : ∀ h' tk mC c, h'.Ns (s.heap.objs.size + 2) mC → h'.get? (s.heap.objs.size + 1) = some (listOf ((List.range as.length).map out).toArray c) → Stays s.heap h' → RR (.ref (s.heap.objs.size + 1)) (s.heap.objs.size + 2) (.ok .next) { s with heap := h', toks := tk }) :
    wpAny (model prog w) A (pyIter (.ref l)) (fun it s₂ => wpAny (model prog w) A (newList []) (fun acc s₃ => wpAny (model prog w) A (newFunctionEnv scope env.globals cl [] env.qual none .none (some env)) (fun cenv s₄ =>
      codeAny (model prog w) A (.compStart (.ListComp elt [⟨.Tuple elts kk tp, iter, [], 0⟩] scope pos) 0 it acc { cenv with scope := relabel scope env }) (RR acc cenv.locals) s₄) E s₃) E s₂) E s := by
  refine wpAny_pyIter_list (items := (refs as).toArray) ⟨_, hl, rfl, c0, rfl⟩ ?_
  have llt := ltN (Heap.lt_size hl)
  have hrl : (refs as).length = as.length := refs_length as
  have hi0 : LIt (s.heap.push { cls := .type "list_iterator", data := .fields #[.ref l, .int 0 0] }) s.heap.objs.size (.ref l) 0 := Heap.get?_push_size _ rfl
  have st0 : Stays s.heap (s.heap.push { cls := .type "list_iterator", data := .fields #[.ref l, .int 0 0] }) := fun b o e => Heap.get?_push_of_some _ e
  have sz0 : (s.heap.push { cls := .type "list_iterator", data := .fields #[.ref l, .int 0 0] }).objs.size = s.heap.objs.size + 1 := Heap.size_push ..
  generalize hI : s.heap.objs.size = I at *
  generalize s.heap.push { cls := .type "list_iterator", data := .fields #[.ref l, .int 0 0] } = H0 at hi0 st0 sz0 ⊢
  have oldne : ∀ {b : Nat} {o : Obj}, s.heap.get? b = some o → b < I := fun e => by rw [← hI]; exact ltN (Heap.lt_size e)
  refine comp_block (s₂ := { s with heap := H0 }) (I + 1) (I + 2) sz0.symm (by show _ = H0.objs.size + 1; rw [sz0]) as.length hlen
    (fun j ys h => ys = (List.range j).map out ∧ LIt h I (.ref l) j ∧ Stays s.heap h) hcell hkind ?_ ?_ ?_ ?_ ?_ ?_
  · intro h st _
    exact ⟨rfl, st _ _ hi0, st0.trans st⟩
  · rintro j ys h ⟨rfl, -⟩; simp
  · rintro j ys h h' ⟨h1, h2, h3⟩ k _
    exact ⟨h1, k _ _ (neN (by (first | lia | omega))) h2, fun b o e => k b o (neN (by have := oldne e; (first | lia | omega))) (h3 b o e)⟩
  · rintro h tk ⟨-, h2, -⟩ Q' E' hq
    exact lit_pyIter (s := { s with heap := h, toks := tk }) h2 hq
  · rintro j ys h tk m c hj ⟨rfl, h2, h3⟩ hns hacc Q' E' hQ'
    have hja : as[j]? = some as[j] := by simp [hj]
    have hil : h.IsList l (refs as).toArray := ⟨_, h3 _ _ hl, rfl, c0, rfl⟩
    refine lit_pyNext (s := { s with heap := h, toks := tk }) h2 hil (x := .ref as[j]) (by simp [refs, hj]) fun h₁ hi₁ hs₁ => ?_
    refine ⟨_, rfl, letGo_lit (s := { s with heap := h₁, toks := tk }) hi₁ ?_⟩
    have st1 : Stays s.heap h₁ := fun b o e => hs₁.extBut b o (neN (by have := oldne e; (first | lia | omega))) (h3 b o e)
    refine helt j as[j] h₁ tk m hja (hns.sameBut hs₁ (neN (by (first | lia | omega)))) st1 Q' E' fun h₂ tk₂ m₂ hn₂ hk₂ => ?_
    refine hQ' (out j) h₂ tk₂ m₂ c ⟨by rw [List.range_succ, List.map_append]; rfl, hk₂ _ _ (neN (by (first | lia | omega))) hi₁, fun b o e => hk₂ b o (neN (by have := oldne e; (first | lia | omega))) (st1 b o e)⟩ hn₂ (hk₂ _ _ (neN (by (first | lia | omega))) (hs₁.extBut _ _ (neN (by (first | lia | omega))) hacc))
  · rintro ys h tk m c ⟨rfl, h2, h3⟩ hns hacc E'
    have hil : h.IsList l (refs as).toArray := ⟨_, h3 _ _ hl, rfl, c0, rfl⟩
    refine lit_pyNext_end (s := { s with heap := h, toks := tk }) hh h2 hil (by simp [refs]) fun h₁ _ he₁ _ => ?_
    exact ⟨rfl, hpost h₁ tk m c (hns.at' fun o e => he₁ _ o (neN (by (first | lia | omega))) e) (he₁ _ _ (neN (by (first | lia | omega))) hacc) fun b o e => he₁ b o (neN (by have := oldne e; (first | lia | omega))) (h3 b o e)⟩
end
end Mine
end
theorem Mine.start_H4 : True := by
  w_top off
  trivial
section
open PySem PySem.W PySem.Calls PyProof.Rows
set_option maxRecDepth 100000
set_option maxHeartbeats 2000000
namespace Mine
/-- the same tuples, as part of a ledger -/
noncomputable def TupIn (S : Nat → Str) (TO : Nat → List Value → Prop) (ix : Nat → Nat) (od : Nat → Int) (bs : List Nat) (tps : List (Addr × Obj)) : Prop :=
  ∀ b ∈ bs, ∃ t u tl, TO (ix b) (.str (S (ix b)) t :: .int (od b) u :: tl) ∧ (b, tupObj (.str (S (ix b)) t :: .int (od b) u :: tl)) ∈ tps
theorem tps_of {S : Nat → Str} {TO : Nat → List Value → Prop} {ix : Nat → Nat} {od : Nat → Int} {g h : Heap} {L' : Addr} {as : List Nat} (hT : Tups S TO ix od as h) (hn : ∀ b ∈ as, b ≠ L' ∧ g.get? b = none) :
    ∃ tps : List (Addr × Obj), News g L' h tps ∧ TupIn S TO ix od as tps ∧ ∀ p ∈ tps, p.1 ∈ as := by
  refine ⟨as.filterMap fun b => (h.get? b).map fun o => (b, o), fun p hp => ?_, fun b hb => ?_, fun p hp => ?_⟩
  · obtain ⟨b, hb, e⟩ := List.mem_filterMap.mp hp
    cases q : h.get? b with
    | none => rw [q] at e; cases e
    | some o =>
      rw [q] at e
      cases e
      exact ⟨q, hn b hb⟩
  · obtain ⟨t, u, tl, h1, h2⟩ := hT b hb
    exact ⟨t, u, tl, h1, List.mem_filterMap.mpr ⟨b, hb, by rw [h2]; rfl⟩⟩
  · obtain ⟨b, hb, e⟩ := List.mem_filterMap.mp hp
    cases q : h.get? b with
    | none => rw [q] at e; cases e
    | some o =>
      rw [q] at e
      cases e
      exact hb
theorem TupIn.tups {S : Nat → Str} {TO : Nat → List Value → Prop} {ix : Nat → Nat} {od : Nat → Int} {g h : Heap} {L' D : Addr} {bs : List Nat} {tps : List (Addr × Obj)} (H : TupIn S TO ix od bs tps) (N : News g L' h tps) (hD : ∀ p ∈ tps, p.1 ≠ D) :
    Tups S TO ix od bs (hideAll h [D]) := fun b hb => by
  obtain ⟨t, u, tl, h1, h2⟩ := H b hb
  exact ⟨t, u, tl, h1, hideAll_get _ (N _ h2).1 fun q => hD _ h2 (List.mem_singleton.mp q)⟩
theorem TupIn.sub {S : Nat → Str} {TO : Nat → List Value → Prop} {ix : Nat → Nat} {od : Nat → Int} {bs cs : List Nat} {tps : List (Addr × Obj)} (H : TupIn S TO ix od bs tps) (h : ∀ c ∈ cs, c ∈ bs) : TupIn S TO ix od cs tps := fun c hc => H c (h c hc)
theorem TupIn.more {S : Nat → Str} {TO : Nat → List Value → Prop} {ix : Nat → Nat} {od : Nat → Int} {bs cs : List Nat} {tps : List (Addr × Obj)} {P j : Nat} {o : Int} {t u : Tok} {tl : List Value} (H : TupIn S TO ix od bs tps) (hP : P ∉ bs)
    (hTO : TO j (.str (S j) t :: .int o u :: tl)) (hc : ∀ c ∈ cs, c = P ∨ c ∈ bs) :
    TupIn S TO (fun x => if x = P then j else ix x) (fun x => if x = P then o else od x) cs ((P, tupObj (.str (S j) t :: .int o u :: tl)) :: tps) := fun c hcc => by
  rcases hc c hcc with rfl | hb
  · refine ⟨t, u, tl, ?_, ?_⟩
    · simp only [if_true]; exact hTO
    · simp only [if_true]; exact .head _
  · have hne : ¬ c = P := fun q => hP (q ▸ hb)
    obtain ⟨t, u, tl, h1, h2⟩ := H c hb
    refine ⟨t, u, tl, ?_, ?_⟩
    · simp only [if_neg hne]; exact h1
    · simp only [if_neg hne]; exact .tail _ h2
end Mine
end
theorem Mine.start_H5 : True := by
  w_top off
  trivial
section
open PySem PySem.W PySem.Calls PyProof.Rows
set_option maxHeartbeats 2000000
namespace Mine
section
variable {S : Nat → Str} {ix : Nat → Nat} {od : Nat → Int} {bs : List Nat} {r : Nat → Int} {N : Nat}
theorem tupLt_up (hN : N ≤ 64) (hix : ∀ b ∈ bs, ix b < N) (hinj : ∀ a ∈ bs, ∀ b ∈ bs, ix a = ix b → a = b) (hod : ∀ a ∈ bs, ∀ b ∈ bs, ix a < ix b → od a < od b)
    (hr : ∀ i j, i < N → j < N → strLt (S i) (S j) = decide (r i < r j)) (hre : ∀ i j, i < N → j < N → (S i = S j ↔ r i = r j)) {a b : Nat} (ha : a ∈ bs) (hb : b ∈ bs) :
    tupLt (S (ix a)) (od a) (S (ix b)) (od b) = decide (fk r ix a < fk r ix b) := by
  have i1 := hix a ha
  have i2 := hix b hb
  have o1 := hod a ha b hb
  have o2 := hod b hb a ha
  unfold tupLt fk
  by_cases q : S (ix a) = S (ix b)
  · rw [if_pos q, decide_eq_decide]
    have := (hre _ _ i1 i2).mp q
    by_cases e : ix a = ix b
    · have e' := hinj a ha b hb e
      subst e'
      (first | lia | omega)
    · (first | lia | omega)
  · rw [if_neg q, hr _ _ i1 i2, decide_eq_decide]
    have : r (ix a) ≠ r (ix b) := fun x => q ((hre _ _ i1 i2).mpr x)
    (first | lia | omega)
theorem tupLt_dn (hN : N ≤ 64) (hix : ∀ b ∈ bs, ix b < N) (hinj : ∀ a ∈ bs, ∀ b ∈ bs, ix a = ix b → a = b) (hod : ∀ a ∈ bs, ∀ b ∈ bs, ix a < ix b → od b < od a)
    (hr : ∀ i j, i < N → j < N → strLt (S i) (S j) = decide (r j < r i)) (hre : ∀ i j, i < N → j < N → (S i = S j ↔ r i = r j)) {a b : Nat} (ha : a ∈ bs) (hb : b ∈ bs) :
    tupLt (S (ix a)) (od a) (S (ix b)) (od b) = decide (- fk r ix a < - fk r ix b) := by
  have i1 := hix a ha
  have i2 := hix b hb
  have o1 := hod a ha b hb
  have o2 := hod b hb a ha
  unfold tupLt fk
  by_cases q : S (ix a) = S (ix b)
  · rw [if_pos q, decide_eq_decide]
    have := (hre _ _ i1 i2).mp q
    by_cases e : ix a = ix b
    · have e' := hinj a ha b hb e
      subst e'
      (first | lia | omega)
    · (first | lia | omega)
  · rw [if_neg q, hr _ _ i1 i2, decide_eq_decide]
    have : r (ix a) ≠ r (ix b) := fun x => q ((hre _ _ i1 i2).mpr x)
    (first | lia | omega)
theorem od_ne (hinj : ∀ a ∈ bs, ∀ b ∈ bs, ix a = ix b → a = b) (hod : ∀ a ∈ bs, ∀ b ∈ bs, ix a < ix b → od a ≠ od b) : ∀ a ∈ bs, ∀ b ∈ bs, a = b ∨ od a ≠ od b := fun a ha b hb => by
  by_cases e : a = b
  · exact .inl e
  · have : ix a ≠ ix b := fun q => e (hinj a ha b hb q)
    rcases Nat.lt_or_gt_of_ne this with q | q
    · exact .inr (hod a ha b hb q)
    · exact .inr (Ne.symm (hod b hb a ha q))
theorem fk_ne (hN : N ≤ 64) (hix : ∀ b ∈ bs, ix b < N) (hinj : ∀ a ∈ bs, ∀ b ∈ bs, ix a = ix b → a = b) : ∀ a ∈ bs, ∀ b ∈ bs, a ≠ b → fk r ix a ≠ fk r ix b := fun a ha b hb hne q => by
  have i1 := hix a ha
  have i2 := hix b hb
  have : ix a ≠ ix b := fun q => hne (hinj a ha b hb q)
  unfold fk at q
  (first | lia | omega)
theorem nodup_of_map {ix : Nat → Nat} : ∀ {bs : List Nat}, (bs.map ix).Nodup → bs.Nodup
  | [], _ => .nil
  | x :: bs, h => by
    rw [List.map_cons, List.nodup_cons] at h
    exact List.nodup_cons.mpr ⟨fun q => h.1 (List.mem_map.mpr ⟨x, q, rfl⟩), nodup_of_map h.2⟩
end
end Mine
end
theorem Mine.start_P2 : True := by
  w_top off
  trivial
section
open PySem PySem.W PySem.Calls PyProof.Rows
set_option maxRecDepth 100000
set_option maxHeartbeats 2000000
namespace Mine
section
variable {prog : Program} {w : World} {A : Around} {E : Value → Shared → Prop} {s : Shared}
theorem item_tup0 {value slice : PySem.Expr} {a : Addr} {x : Value} {tl : List Value} {u : Tok} {Q : Value → Shared → Prop} (ht : s.heap.get? a = some (tupObj (x :: tl))) (h : Q x s)
    (hs : subscripted slice false (.ref a) (.int 0 u) = operate [.ref a, .int 0 u] (getItem (.ref a) (.int 0 u)) := by with_unfolding_all rfl) :
    wpAny (model prog w) A (subscriptTail value slice (.ref a) (.int 0 u)) Q E s := by
  have hT : IsTup s.heap a (x :: tl).toArray := ⟨_, ht, rfl, 0, rfl⟩
  have hsz : (0 : Int) < (((x :: tl).toArray.size : Nat) : Int) := by simp only [List.size_toArray, List.length_cons]; omega
  exact tail_any hT.typeIs slot_tuple_getitem.lookup (getItem_tuple hT (by omega) (by decide) (seqIndex_of (Int.le_refl 0) hsz) (x := x) (by simp) h) hs
end
end Mine
end
theorem Mine.start_P3 : True := by
  w_top off
  trivial
section
open PySem PySem.W PySem.Calls PyProof.Rows
set_option maxRecDepth 100000
set_option maxHeartbeats 2000000
namespace Mine
theorem fr_but {g h h' : Heap} {L D : Addr} {m : Str → Option Value} (F : Fr g L h m) (hk : ∀ a o, a ≠ D → h.get? a = some o → h'.get? a = some o) (hD : D ≠ L) (hg : g.get? D = none) : Fr g L h' m := by
  obtain ⟨oo, es, ep, ho, rr⟩ := F.ns
  exact ⟨⟨oo, es, ep, hk _ _ (Ne.symm hD) ho, rr⟩, fun b x e => hk b x (fun q => by rw [q, hg] at e; cases e) (F.keep b x e), F.above⟩
section
variable {prog : Program} {w : World} {A : Around} {E : Value → Shared → Prop} {s : Shared}
theorem lit_fin {I l : Addr} {fv : Value} {jj N : Nat} {P : Prop} {vs : List Value} {Q : Option Value → Shared → Prop} (hh : A.handled = none) (hN : vs.length = N) (hit : (fv = .ref l ∧ jj = N) ∨ (fv = .none ∧ P)) (zI : LIt s.heap I fv jj) (hil : s.heap.IsList l vs.toArray)
    (k : ∀ h1 jj', LIt h1 I .none jj' → (∀ b o, b ≠ I → s.heap.get? b = some o → h1.get? b = some o) → s.heap.objs.size ≤ h1.objs.size → Q none { s with heap := h1 }) : wpAny (model prog w) A (pyNext (.ref I)) Q E s := by
  rcases hit with ⟨rfl, rfl⟩ | ⟨rfl, _⟩
  · exact lit_pyNext_end hh zI hil (by simp [hN]) fun h1 hi1 he1 hsz => k h1 _ hi1 he1 hsz
  · exact lit_pyNext_ended hh zI fun h1 st1 hsz => k h1 _ (st1 _ _ zI) (fun b o _ e => st1 b o e) hsz
end
end Mine
end
theorem Mine.start_S4 : True := by
  w_top off
  trivial
section
open PySem PySem.W PySem.Calls PyProof.Rows
set_option maxRecDepth 100000
set_option maxHeartbeats 8000000
namespace Mine

section
variable {w : World}
theorem item_refs0 {A : Around} {E : Value → Shared → Prop} {s : Shared} {g : Heap} {value slice : PySem.Expr} {L l : Addr} {news : List (Addr × Obj)} {as : List Nat} {n : Nat} {u : Tok} {Q : Value → Shared → Prop}
    (N : News g L s.heap news) (hm : (l, listOf (refs as).toArray n) ∈ news) (hlen : as.length < 64) (hk : 0 < as.length) (h : Q (.ref (as.getD 0 0)) s)
    (hs : subscripted slice false (.ref l) (.int 0 u) = operate [.ref l, .int 0 u] (getItem (.ref l) (.int 0 u)) := by with_unfolding_all rfl) (hgo : ∀ r, letTemporaryGo value (.ref l) r = pure () := by intro _; with_unfolding_all rfl) :
    wpAny (model PySem.Challenge.rw_mq0307_01.row.prog w) A (subscriptTail value slice (.ref l) (.int 0 u)) Q E s :=
  item_refs (k := 0) N hm hlen hk h hs hgo
theorem set_refs0 {A : Around} {E : Value → Shared → Prop} {s : Shared} {g : Heap} {L l : Addr} {m : Str → Option Value} {as : List Nat} {n x : Nat} {u : Tok} {Q : Unit → Shared → Prop}
    (F : Fr g L s.heap m) (N : News g L s.heap [(l, listOf (refs as).toArray n)]) (hlen : as.length < 64) (hk : 0 < as.length)
    (h : ∀ h', Fr g L h' m → News g L h' [(l, listOf (refs (as.set 0 x)).toArray n)] → Q () { s with heap := h' }) :
    wpAny (model PySem.Challenge.rw_mq0307_01.row.prog w) A (setItem (.ref l) (.int 0 u) (.ref x)) Q E s :=
  set_refs (k := 0) F N hlen hk h
local macro_rules | `(tactic| walk_at "subscriptTail Name Constant ref int") => `(tactic| k_extra "q subscriptTail Name Constant ref int")
local macro_rules | `(tactic| walk_at "setItem ref int") => `(tactic| k_extra "q setItem ref int")

theorem heapreplace_max_spec {l x : Addr} {as : List Nat} {n : Nat} {lt : Nat → Nat → Bool} (hlen : as.length < 64) (h0 : 0 < as.length) :
    MutSpec 3 w 35 [.ref l, .ref x] l (listOf (refs as).toArray n) (listOf (refs (sup lt 0 (as.set 0 x))).toArray n) (CmpOk w lt (x :: as)) (.ref (as.getD 0 0)) := by
  intro A g s Q E G hg hgs hgl hl hc ret
  obtain ⟨dp, un, gd, outer, A₀, base, mean, mg, mb, rfl, hdp, hun, B, X, T⟩ := G.ex
  w_strict (
  revert X
  k_fill
  intro X
  refine' enter (binds := [(Str.ofString "heap", .ref l), (Str.ofString "item", .ref x)]) ?_ ?_ X hg hgs ?k1 ?k2 ?k3 ?k4 ?_ ?_ ?_ ?_ ?k5
  case k1 => k_is
  case k2 => k_is
  case k3 => exact BindsTo.of_eq rfl
  case k4 => exact locs rfl
  case k5 => decide
  all_goals try exact rfl
  · exact Nat.lt_of_le_of_lt (Nat.le_add_right _ _) hdp
  · exact T.nolimit
  intro h₁ F hk₁
  have N : News g s.heap.objs.size h₁ [(l, listOf (refs as).toArray n)] := fun q hq => by
    cases List.mem_singleton.mp hq
    exact ⟨hk₁ _ _ hl, Nat.ne_of_lt (Heap.lt_size hl), hgl⟩
  generalize hL : s.heap.objs.size = L' at *
  (try dsimp only)
  (try k_fold)
  k_with_none
  k_with "q subscriptTail Name Constant ref int" => (k_here; (with_reducible show wpAny _ _ (subscriptTail _ _ (Value.ref _) (Value.int _ _)) _ _ _); k_dflt (refine' item_refs0 ?k1 ?k2 ?k3 ?k4 ?_ ?k6 ?k7; (case k1 => k_asm); (case k2 => k_mem); (case k3 => (first | lia | omega)); (case k4 => (first | lia | omega)); (case k6 => with_unfolding_all rfl); (case k7 => (intro _; with_unfolding_all rfl)); k_whole))
  k_with "q setItem ref int" => (k_here; (with_reducible show wpAny _ _ (setItem (Value.ref _) (Value.int _ _) (Value.ref _)) _ _ _); k_dflt (refine' set_refs0 ?k1 ?k2 ?k3 ?k4 ?_; (case k1 => k_asm); (case k2 => k_asm); (case k3 => (first | lia | omega)); (case k4 => (first | lia | omega)); k_whole); intro _ _ _)
  repeat' ((fail_if_success (with_reducible show wpAny _ _ (call (Value.ref _) _ _) _ _ _)); (first | (k_unfold; (try dsimp only)) | walk1 | (dsimp only; walk1)))
  ((rename Fr _ _ _ _ => eF); (rename News _ _ _ _ => eN)))
  refine mut_walk (siftup_max_spec (lt := lt) (p := 0) (by rw [List.length_set]; exact h0) (by rw [List.length_set]; (first | lia | omega))) (hc.sub fun y hy => ?_) (fun g' st h => h.up st) B X T eF eN (by (first | lia | omega)) (by (first | lia | omega)) fun h9 tk9 F9 N9 => ?_
  · rcases List.mem_or_eq_of_mem_set hy with h1 | h1
    · exact .tail _ h1
    · rw [h1]; exact .head _
  clear eF eN hl
  w_strict (repeat' (first | (k_unfold; (try dsimp only)) | walk1 | (dsimp only; walk1)))
  exact ret _ _ F9.keep (Nat.le_of_lt F9.ns.lt) (N9 _ (.head _)).1

theorem heapreplace_spec {l x : Addr} {as : List Nat} {n : Nat} {lt : Nat → Nat → Bool} (hlen : as.length < 64) (h0 : 0 < as.length) :
    MutSpec 3 w 21 [.ref l, .ref x] l (listOf (refs as).toArray n) (listOf (refs (sup lt 0 (as.set 0 x))).toArray n) (CmpOk w (fun a b => lt b a) (x :: as)) (.ref (as.getD 0 0)) := by
  intro A g s Q E G hg hgs hgl hl hc ret
  obtain ⟨dp, un, gd, outer, A₀, base, mean, mg, mb, rfl, hdp, hun, B, X, T⟩ := G.ex
  w_strict (
  revert X
  k_fill
  intro X
  refine' enter (binds := [(Str.ofString "heap", .ref l), (Str.ofString "item", .ref x)]) ?_ ?_ X hg hgs ?k1 ?k2 ?k3 ?k4 ?_ ?_ ?_ ?_ ?k5
  case k1 => k_is
  case k2 => k_is
  case k3 => exact BindsTo.of_eq rfl
  case k4 => exact locs rfl
  case k5 => decide
  all_goals try exact rfl
  · exact Nat.lt_of_le_of_lt (Nat.le_add_right _ _) hdp
  · exact T.nolimit
  intro h₁ F hk₁
  have N : News g s.heap.objs.size h₁ [(l, listOf (refs as).toArray n)] := fun q hq => by
    cases List.mem_singleton.mp hq
    exact ⟨hk₁ _ _ hl, Nat.ne_of_lt (Heap.lt_size hl), hgl⟩
  generalize hL : s.heap.objs.size = L' at *
  (try dsimp only)
  (try k_fold)
  k_with_none
  k_with "q subscriptTail Name Constant ref int" => (k_here; (with_reducible show wpAny _ _ (subscriptTail _ _ (Value.ref _) (Value.int _ _)) _ _ _); k_dflt (refine' item_refs0 ?k1 ?k2 ?k3 ?k4 ?_ ?k6 ?k7; (case k1 => k_asm); (case k2 => k_mem); (case k3 => (first | lia | omega)); (case k4 => (first | lia | omega)); (case k6 => with_unfolding_all rfl); (case k7 => (intro _; with_unfolding_all rfl)); k_whole))
  k_with "q setItem ref int" => (k_here; (with_reducible show wpAny _ _ (setItem (Value.ref _) (Value.int _ _) (Value.ref _)) _ _ _); k_dflt (refine' set_refs0 ?k1 ?k2 ?k3 ?k4 ?_; (case k1 => k_asm); (case k2 => k_asm); (case k3 => (first | lia | omega)); (case k4 => (first | lia | omega)); k_whole); intro _ _ _)
  repeat' ((fail_if_success (with_reducible show wpAny _ _ (call (Value.ref _) _ _) _ _ _)); (first | (k_unfold; (try dsimp only)) | walk1 | (dsimp only; walk1)))
  ((rename Fr _ _ _ _ => eF); (rename News _ _ _ _ => eN)))
  refine mut_walk (siftup_spec (lt := lt) (p := 0) (by rw [List.length_set]; exact h0) (by rw [List.length_set]; (first | lia | omega))) (hc.sub fun y hy => ?_) (fun g' st h => h.up st) B X T eF eN (by (first | lia | omega)) (by (first | lia | omega)) fun h9 tk9 F9 N9 => ?_
  · rcases List.mem_or_eq_of_mem_set hy with h1 | h1
    · exact .tail _ h1
    · rw [h1]; exact .head _
  clear eF eN hl
  w_strict (repeat' (first | (k_unfold; (try dsimp only)) | walk1 | (dsimp only; walk1)))
  exact ret _ _ F9.keep (Nat.le_of_lt F9.ns.lt) (N9 _ (.head _)).1
end
end Mine
end
theorem Mine.start_X0 : True := by
  w_top off
  trivial
section
open PySem PySem.W PySem.Calls PyProof.Rows
set_option maxRecDepth 100000
set_option maxHeartbeats 8000000
namespace Mine
theorem idx_range {as : List Nat} (h : as.Pairwise (· < ·)) : as.map (fun b => as.idxOf b) = List.range as.length := by
  apply List.ext_getElem
  · simp
  · intro i h1 h2
    simp only [List.getElem_map, List.getElem_range]
    exact List.Nodup.idxOf_getElem (h.imp fun {a b} q => Nat.ne_of_lt q) i (by simpa using h1)
theorem allLt_mem {d : Nat} : ∀ {l : List (Addr × Obj)}, AllLt d l → ∀ p ∈ l, p.1 < d
  | [], _, _, h => nomatch h
  | _ :: _, x, p, h => by
    rcases List.mem_cons.mp h with rfl | h
    · exact x.1
    · exact allLt_mem x.2 p h
noncomputable def LoopJ (g : Heap) (L' D I l L : Nat) (oL cell : Obj) (hr35 : Nat) (dn : Bool) (N : Nat) (S : Nat → Str) (TO : Nat → List Value → Prop) (r : Nat → Int) (k : Nat) (j : Nat) (s s' : Shared) : Prop :=
  ∃ (h : Heap) (tk : Nat) (bs : List Nat) (ix : Nat → Nat) (od : Nat → Int) (tps : List (Addr × Obj)) (mm : Str → Option Value) (fv : Value) (jj c : Nat) (t : Tok) (o : Int) (u : Tok), s' = { s with heap := h, toks := tk } ∧
    Fr g L' h (fun y => if y = Str.ofString "top" then some (.str (S (ix (bs.getD 0 0))) t) else if y = Str.ofString "order" then some (.int o u) else if y = Str.ofString "_heapreplace" then some (.ref hr35) else if y = Str.ofString "result" then some (.ref D) else if y = Str.ofString "it" then some (.ref I) else mm y) ∧
    News g L' h ((D, listOf (refs bs).toArray c) :: (I, litObj fv jj) :: (L, oL) :: (L' + 1, cell) :: tps) ∧
    ((fv = .ref l ∧ jj = j) ∨ (fv = .none ∧ j = N)) ∧ bs.length = k ∧ LS N r j bs ix ∧ TupIn S TO ix od bs tps ∧ (∀ p ∈ tps, p.1 ≠ D) ∧ (∀ p ∈ tps, p.1 ≠ I) ∧
    (∀ a ∈ bs, ∀ b ∈ bs, ix a < ix b → if dn = true then od b < od a else od a < od b) ∧ (∀ b ∈ bs, if dn = true then o < od b else od b < o)
/-- a fact that the arithmetic shall not see -/
noncomputable def Hid (p : Prop) : Prop := p
theorem Hid.mk {p : Prop} (h : p) : Hid p := h
theorem Hid.get {p : Prop} (h : Hid p) : p := h
theorem fr_as {g h : Heap} {L : Addr} {m m' : Str → Option Value} (F : Fr g L h m) (e : ∀ y, m' y = m y) : Fr g L h m' := by
  have : m' = m := funext e
  rw [this]; exact F
end Mine
end
theorem Mine.start_L0 : True := by
  w_top off
  trivial
section
open PySem PySem.W PySem.Calls PyProof.Rows
set_option maxRecDepth 100000
set_option maxHeartbeats 4000000
namespace Mine
section
variable {prog : Program} {w : World} {A : Around} {E : Value → Shared → Prop} {env : Env} {s : Shared}
/-- a comprehension over a list, its target a name -/
theorem comp_list {l : Nat} {vs : List Value} {c0 : Nat} {elt iter : PySem.Expr} {x : Str} {px : Pos} {scope : Scope} {cl : List (Str × Addr)} {pos : Pos} {RR : Value → Addr → Result → Shared → Prop}
    (R : Nat → Value → Prop) (hh : A.handled = none) (hl : s.heap.get? l = some (listOf vs.toArray c0)) (hlen : vs.length < 64) (hcell : ∀ y ∈ scope.names, y.2 ≠ .cell) (hkind : scope.kind = .function)
    (helt : ∀ k a h tk m, vs[k]? = some a → h.Ns (s.heap.objs.size + 2) m → Stays s.heap h → ∀ (Q' : Value → Shared → Prop) (E' : Value → Shared → Prop),
      (∀ y h' tk' m', R k y → h'.Ns (s.heap.objs.size + 2) m' → (∀ c o, c ≠ s.heap.objs.size + 2 → h.get? c = some o → h'.get? c = some o) → Q' y { s with heap := h', toks := tk' }) →
      wpAny (model prog w) A (assign (.Name x px) (compEnvC scope cl (s.heap.objs.size + 2) env) a) (fun _ s₅ => wpAny (model prog w) A (eval elt (compEnvC scope cl (s.heap.objs.size + 2) env)) Q' E' s₅) E' { s with heap := h, toks := tk })
    (hpost : ∀ h' tk mC c (ys : List Value), ys.length = vs.length → (∀ k y, ys[k]? = some y → R k y) → h'.Ns (s.heap.objs.size + 2) mC → h'.get? (s.heap.objs.size + 1) = some (listOf ys.toArray c) → Stays s.heap h' → RR (.ref (s.heap.objs.size + 1)) (s.heap.objs.size + 2) (.ok .next) { s with heap := h', toks := tk }) :
    wpAny (model prog w) A (pyIter (.ref l)) (fun it s₂ => wpAny (model prog w) A (newList []) (fun acc s₃ => wpAny (model prog w) A (newFunctionEnv scope env.globals cl [] env.qual none .none (some env)) (fun cenv s₄ =>
      codeAny (model prog w) A (.compStart (.ListComp elt [⟨.Name x px, iter, [], 0⟩] scope pos) 0 it acc { cenv with scope := relabel scope env }) (RR acc cenv.locals) s₄) E s₃) E s₂) E s := by
  refine wpAny_pyIter_list (items := vs.toArray) ⟨_, hl, rfl, c0, rfl⟩ ?_
  have llt := ltN (Heap.lt_size hl)
  have hi0 : LIt (s.heap.push { cls := .type "list_iterator", data := .fields #[.ref l, .int 0 0] }) s.heap.objs.size (.ref l) 0 := Heap.get?_push_size _ rfl
  have st0 : Stays s.heap (s.heap.push { cls := .type "list_iterator", data := .fields #[.ref l, .int 0 0] }) := fun b o e => Heap.get?_push_of_some _ e
  have sz0 : (s.heap.push { cls := .type "list_iterator", data := .fields #[.ref l, .int 0 0] }).objs.size = s.heap.objs.size + 1 := Heap.size_push ..
  generalize hI : s.heap.objs.size = I at *
  generalize s.heap.push { cls := .type "list_iterator", data := .fields #[.ref l, .int 0 0] } = H0 at hi0 st0 sz0 ⊢
  have oldne : ∀ {b : Nat} {o : Obj}, s.heap.get? b = some o → b < I := fun e => by rw [← hI]; exact ltN (Heap.lt_size e)
  refine comp_block (s₂ := { s with heap := H0 }) (I + 1) (I + 2) sz0.symm (by show _ = H0.objs.size + 1; rw [sz0]) vs.length hlen
    (fun j ys h => (ys.length = j ∧ ∀ k y, ys[k]? = some y → R k y) ∧ LIt h I (.ref l) j ∧ Stays s.heap h) hcell hkind ?_ ?_ ?_ ?_ ?_ ?_
  · intro h st _
    exact ⟨⟨rfl, fun k y e => by simp at e⟩, st _ _ hi0, st0.trans st⟩
  · rintro j ys h ⟨⟨e, -⟩, -⟩; exact e
  · rintro j ys h h' ⟨h1, h2, h3⟩ k _
    exact ⟨h1, k _ _ (neN (by (first | lia | omega))) h2, fun b o e => k b o (neN (by have := oldne e; (first | lia | omega))) (h3 b o e)⟩
  · rintro h tk ⟨-, h2, -⟩ Q' E' hq
    exact lit_pyIter (s := { s with heap := h, toks := tk }) h2 hq
  · rintro j ys h tk m c hj ⟨⟨hyl, hyr⟩, h2, h3⟩ hns hacc Q' E' hQ'
    have hja : vs[j]? = some vs[j] := by simp [hj]
    have hil : h.IsList l vs.toArray := ⟨_, h3 _ _ hl, rfl, c0, rfl⟩
    refine lit_pyNext (s := { s with heap := h, toks := tk }) h2 hil (x := vs[j]) (by simp [hj]) fun h₁ hi₁ hs₁ => ?_
    refine ⟨_, rfl, wpAny_pure ?_⟩
    have st1 : Stays s.heap h₁ := fun b o e => hs₁.extBut b o (neN (by have := oldne e; (first | lia | omega))) (h3 b o e)
    refine helt j vs[j] h₁ tk m hja (hns.sameBut hs₁ (neN (by (first | lia | omega)))) st1 Q' E' fun y h₂ tk₂ m₂ hy hn₂ hk₂ => ?_
    refine hQ' y h₂ tk₂ m₂ c ⟨⟨by simp [hyl], fun k z e => ?_⟩, hk₂ _ _ (neN (by (first | lia | omega))) hi₁, fun b o e => hk₂ b o (neN (by have := oldne e; (first | lia | omega))) (st1 b o e)⟩ hn₂ (hk₂ _ _ (neN (by (first | lia | omega))) (hs₁.extBut _ _ (neN (by (first | lia | omega))) hacc))
    by_cases q : k < ys.length
    · rw [List.getElem?_append_left q] at e; exact hyr k z e
    · rw [List.getElem?_append_right (by (first | lia | omega))] at e
      by_cases q2 : k - ys.length = 0
      · rw [q2] at e
        have e' : y = z := by simpa using e
        have : k = j := by (first | lia | omega)
        rw [this, ← e']; exact hy
      · rw [List.getElem?_eq_none (by simp; (first | lia | omega))] at e; cases e
  · rintro ys h tk m c ⟨⟨hyl, hyr⟩, h2, h3⟩ hns hacc E'
    have hil : h.IsList l vs.toArray := ⟨_, h3 _ _ hl, rfl, c0, rfl⟩
    refine lit_pyNext_end (s := { s with heap := h, toks := tk }) hh h2 hil (by simp) fun h₁ _ he₁ _ => ?_
    exact ⟨rfl, hpost h₁ tk m c ys hyl hyr (hns.at' fun o e => he₁ _ o (neN (by (first | lia | omega))) e) (he₁ _ _ (neN (by (first | lia | omega))) hacc) fun b o e => he₁ b o (neN (by have := oldne e; (first | lia | omega))) (h3 b o e)⟩
end
section
variable {w : World} {E : Value → Shared → Prop} {s : Shared} {g : Heap}
/-- the ground of a call made by the law itself -/
theorem gr_law {k dp un : Nat} {gd : Option (List Code)} {env1 : Env} {L : Addr} {oL : Obj} {h : Heap} {mean : ExcName → Option Value} {mg mb : Str → Option Value}
    (X : (hd.heap_39 w.params).In g) (T : Top hd.view_39 (looseW hd.view_39 [Str.ofString "nsmallest", Str.ofString "nlargest"]) mean mg mb g)
    (st : Stays g h) (hL : h.get? L = some oL) (hoL : ∀ vs, oL.data ≠ .fields vs) (hgL : g.get? L = none) (hf1 : env1.frame = some L) (hk1 : env1.scope.kind = .function)
    (hdp : dp + k < recursionLimit) (hun : un + 60 * k < cLine) : Gr k w (AR dp un gd [env1]) h :=
  ⟨dp, un, gd, [env1], AR dp un gd [env1], g, mean, mg, mb, rfl, hdp, hun, ⟨rfl, st, ⟨by rw [hk1]; decide, ⟨L, oL, hf1, hgL, hL, hoL⟩, trivial⟩⟩, X.keeps st, T.keeps st⟩
end
/-- the keys of the numbers -/
noncomputable def RowOf (ns : List Int) (vs : List Value) : Prop := vs.length = ns.length ∧ ∀ i v, vs[i]? = some v → ∃ t, v = lkey (ns.getD i 0) t
/-- their writings -/
noncomputable def ShownOf (ns : List Int) (us : List Value) : Prop := us.length = ns.length ∧ ∀ i v, us[i]? = some v → ∃ t, v = Value.str (unc (lcode (ns.getD i 0))) t
section
variable {w : World} {A : Around} {E : Value → Shared → Prop} {env : Env} {s : Shared}
/-- f(x), f a global, x a local -/
theorem call1G {prog : Program} {K : Frag} {mg m : Str → Option Value} {f x : Str} {fA : Addr} {a : Value} {pf px pos : Pos} {Q : Value → Shared → Prop} (hkind : env.scope.kind = .function) (hf : env.kindOf f = some .globalImplicit) (hgl : env.globals = mainGlobals) (hx : env.kindOf x = some .local)
    (X : K.In s.heap) (G : s.heap.Ns mainGlobals mg) (e : nsIn K mainGlobals f = some (some (.ref fA))) (hkeep : keepIn K (.ref fA) = true) (hd1 : (f == ("__debug__" : Str)) = false) (hd2 : (x == ("__debug__" : Str)) = false)
    (hn : s.heap.Ns env.locals m) (hm : m x = some a) (h : wpAny (model prog w) A (call (.ref fA) [a]) Q E s) : wpAny (model prog w) A (eval (.Call (.Name f pf) [.Name x px] [] pos) env) Q E s :=
  Call_ (Name_function_global hkind hf (loadGlobal_global (hgl ▸ G) (mg_of X G e) (callWith_K X hkeep (args_cons (wpAny_Name (wpAny_loadName_local hkind hx hn hm (args_nil ⟨X, h⟩)) hd2)))) hd1)
/-- [f(x) for x in l], f a global def that changes nothing -/
theorem comp_fn {K : Frag} {mg : Str → Option Value} {l j : Nat} {vs : List Value} {c0 : Nat} {iter : PySem.Expr} {f x : Str} {fA : Addr} {pf px py pc : Pos} {scope : Scope} {cl : List (Str × Addr)} {pos : Pos} {RR : Value → Addr → Result → Shared → Prop}
    (out : Nat → Tok → Value) (hh : A.handled = none) (hl : s.heap.get? l = some (listOf vs.toArray c0)) (hlen : vs.length < 64) (hcell : ∀ y ∈ scope.names, y.2 ≠ .cell) (hkind : scope.kind = .function)
    (hk2 : ∀ C, (compEnvC scope cl C env).scope.kind = .function) (hf : ∀ C, (compEnvC scope cl C env).kindOf f = some .globalImplicit) (hgl : env.globals = mainGlobals) (hx : ∀ C, (compEnvC scope cl C env).kindOf x = some .local)
    (hp : ∀ C, ((compEnvC scope cl C env).scope.kind == .class || ((compEnvC scope cl C env).scope.kind == .module && (compEnvC scope cl C env).locals != (compEnvC scope cl C env).globals)) = false)
    (X : K.In s.heap) (G : s.heap.Ns mainGlobals mg) (e : nsIn K mainGlobals f = some (some (.ref fA))) (hkeep : keepIn K (.ref fA) = true) (hd1 : (f == ("__debug__" : Str)) = false) (hd2 : (x == ("__debug__" : Str)) = false)
    (hG : ∀ h, Stays s.heap h → Gr j w A h) (S : ∀ k a, vs[k]? = some a → PureSpec j w fA [a] (out k))
    (hpost : ∀ h' tk mC c (ys : List Value), ys.length = vs.length → (∀ k y, ys[k]? = some y → ∃ t, y = out k t) → h'.Ns (s.heap.objs.size + 2) mC → h'.get? (s.heap.objs.size + 1) = some (listOf ys.toArray c) → Stays s.heap h' → RR (.ref (s.heap.objs.size + 1)) (s.heap.objs.size + 2) (.ok .next) { s with heap := h', toks := tk }) :
    wpAny (model PySem.Challenge.rw_mq0307_01.row.prog w) A (pyIter (.ref l)) (fun it s₂ => wpAny (model PySem.Challenge.rw_mq0307_01.row.prog w) A (newList []) (fun acc s₃ => wpAny (model PySem.Challenge.rw_mq0307_01.row.prog w) A (newFunctionEnv scope env.globals cl [] env.qual none .none (some env)) (fun cenv s₄ =>
      codeAny (model PySem.Challenge.rw_mq0307_01.row.prog w) A (.compStart (.ListComp (.Call (.Name f pf) [.Name x px] [] pc) [⟨.Name x py, iter, [], 0⟩] scope pos) 0 it acc { cenv with scope := relabel scope env }) (RR acc cenv.locals) s₄) E s₃) E s₂) E s := by
  refine comp_list (R := fun k y => ∃ t, y = out k t) hh hl hlen hcell hkind (fun k a h tk m hka hns st Q' E' hQ' => ?_) hpost
  have hC : ∀ b o, s.heap.get? b = some o → b ≠ s.heap.objs.size + 2 := fun b o e => neN (by have := ltN (Heap.lt_size e); (first | lia | omega))
  refine wpAny_assign_Name (wpAny_storeName_local (hx _) hns (fun h₁ hn₁ hs₁ => ?_) (hp _))
  have st1 : Stays s.heap h₁ := fun b o e => hs₁.extBut b o (hC b o e) (st b o e)
  refine call1G (hk2 _) (hf _) hgl (hx _) (X.keeps st1) (G.keeps st1) e hkeep hd1 hd2 hn₁ (if_pos rfl) ?_
  refine S k a hka _ _ _ _ (hG h₁ st1) fun h₂ tk₂ t st2 hsz2 => ?_
  exact hQ' _ h₂ tk₂ _ ⟨t, rfl⟩ (hn₁.keeps st2) fun c o hc e => st2 c o (hs₁.extBut c o hc e)
end
end Mine
end
theorem Mine.start_D0 : True := by
  w_top off
  trivial
section
open PySem PySem.W PySem.Calls PyProof.Rows
set_option maxRecDepth 100000
set_option maxHeartbeats 4000000
namespace Mine
section
variable {w : World} {g : Heap}
/-- the ground of a call made by the frame of a pure call -/
theorem gr_in {k dp un : Nat} {gd : Option (List Code)} {outer : List Env} {A₀ : Around} {base : Heap} {env : Env} {L' : Addr} {h : Heap} {m : Str → Option Value} {mean : ExcName → Option Value} {mg mb : Str → Option Value}
    (B : Below A₀ base outer g) (X : (hd.heap_39 w.params).In g) (T : Top hd.view_39 (looseW hd.view_39 [Str.ofString "nsmallest", Str.ofString "nlargest"]) mean mg mb g)
    (F : Fr g L' h m) (hf : env.frame = some L') (hk : env.scope.kind = .function)
    (hdp : dp + (k + 1) < recursionLimit) (hun : un + 60 * (k + 1) < cLine) : Gr k w ((AR dp un gd outer).deeper env) h := by
  obtain ⟨o, es, ep, ho, hd, _⟩ := F.ns
  refine ⟨dp + 1, un + 3, gd, env :: outer, { A₀ with frames := some (env :: outer) }, base, mean, mg, mb, rfl, by omega, by omega, ⟨rfl, fun b o e => F.keep b o (B.stays b o e), ?_⟩, X.keeps F.keep, T.keeps F.keep⟩
  refine ⟨by rw [hk]; decide, ⟨L', o, hf, ?_, ho, isDict_nf hd⟩, funFrames_up F.keep B.frames⟩
  cases q : base.get? L' with
  | none => rfl
  | some o => exact absurd (Nat.lt_of_lt_of_le (Heap.lt_size (B.stays _ _ q)) F.above) (Nat.lt_irrefl _)
theorem fr_stays {L : Addr} {h h' : Heap} {m : Str → Option Value} (F : Fr g L h m) (st : Stays h h') : Fr g L h' m := by
  obtain ⟨o, es, ep, ho, r⟩ := F.ns
  exact ⟨⟨o, es, ep, st _ _ ho, r⟩, fun b o e => st b o (F.keep b o e), F.above⟩
theorem news_stays {L : Addr} {h h' : Heap} {news : List (Addr × Obj)} (N : News g L h news) (st : Stays h h') : News g L h' news := fun p hp => ⟨st _ _ (N p hp).1, (N p hp).2⟩
theorem Gr.less' {k j : Nat} {A : Around} {g : Heap} (G : Gr k w A g) (h : j ≤ k := by decide) : Gr j w A g := G.less h
end
section
variable {prog : Program} {w : World} {A : Around} {E : Value → Shared → Prop} {s : Shared} {g : Heap}
/-- a made list gets its name -/
theorem list_named {env : Env} {L' tk5 c5 : Nat} {h1 h5 : Heap} {mC m : Str → Option Value} {ys : List Value} {news : List (Addr × Obj)} {y : Str} {py : Pos} {QN : Shared → Prop} (hloc : env.locals = L')
    (F : Fr g L' h1 m) (N : News g L' h1 news) (hC : h5.Ns (h1.objs.size + 2) mC) (hD : h5.get? (h1.objs.size + 1) = some (listOf ys.toArray c5)) (st : Stays h1 h5)
    (hy : env.kindOf y = some .local) (hp : (env.scope.kind == .class || (env.scope.kind == .module && env.locals != env.globals)) = false)
    (hQ : ∀ (h6 : Heap) (tk6 R : Nat), Fr g L' h6 (fun z => if z = y then some (.ref R) else m z) → News g L' h6 ((R, listOf ys.toArray c5) :: news) → (∀ p ∈ news, p.1 ≠ R) → (∀ b o, b ≠ L' → h1.get? b = some o → h6.get? b = some o) → QN { s with heap := h6, toks := tk6 }) :
    compPost (model prog w) A E (some (assign (.Name y py) env)) (fun _ s' => QN s') (.ref (h1.objs.size + 1)) (h1.objs.size + 2) (.ok .next) { s with heap := h5, toks := tk5 } := by
  have hL1 := ltN F.ns.lt
  have lt1 : ∀ (b : Nat) o, h1.get? b = some o → b < h1.objs.size := fun b o e => ltN (Heap.lt_size e)
  have gne : ∀ (b : Nat) o, h1.get? b = some o → b ≠ h1.objs.size + 2 := fun b o e => neN (by have := lt1 b o e; omega)
  refine post_assign (s := s) (m := m) (Q := fun _ s' => QN s') hC (by rw [hloc]; exact neN (by omega)) (by rw [hloc]; exact (fr_stays F st).ns) hy hp fun h6 tk6 ns6 kp6 sz6 => ?_
  rw [hloc] at ns6 kp6
  have kp : ∀ b o, b ≠ L' → h1.get? b = some o → h6.get? b = some o := fun b o q e => kp6 b o q (gne _ _ e) (st _ _ e)
  have hRL : h1.objs.size + 1 ≠ L' := neN (by omega)
  refine hQ h6 tk6 _ ⟨ns6, fun b o e => kp b o (fun q => by have := no_self F; rw [← q, e] at this; cases this) (F.keep _ _ e), F.above⟩ (fun p hp => ?_) (fun p hp q => ?_) kp
  · rcases List.mem_cons.mp hp with rfl | hp
    · refine ⟨kp6 _ _ hRL (neN (by omega)) hD, hRL, ?_⟩
      cases q : g.get? (h1.objs.size + 1) with
      | none => rfl
      | some o => have := lt1 _ _ (F.keep _ _ q); omega
    · exact ⟨kp _ _ (N p hp).2.1 (N p hp).1, (N p hp).2⟩
  · have := lt1 _ _ (N p hp).1
    rw [q] at this; omega
end
theorem ints_at : ∀ {vs : List Value} {ns : List Int}, IntsAre vs ns → ∀ {k : Nat} {a : Value}, vs[k]? = some a → ∃ t, a = .int (ns.getD k 0) t
  | _, _, .nil, _, _, h => by simp at h
  | _, _, .cons i t _, 0, _, h => ⟨t, by simpa using h.symm⟩
  | _, _, .cons i t r, k + 1, a, h => by
    obtain ⟨u, e⟩ := ints_at r (k := k) (a := a) (by simpa using h)
    exact ⟨u, by simpa using e⟩
theorem ints_of : ∀ {vs : List Value} {ns : List Int}, vs.length = ns.length → (∀ k y, vs[k]? = some y → ∃ t, y = Value.int (ns.getD k 0) t) → IntsAre vs ns
  | [], [], _, _ => .nil
  | v :: vs, n :: ns, h, q => by
    obtain ⟨t, rfl⟩ := q 0 v rfl
    exact .cons n t (ints_of (by simpa using h) fun k y e => by simpa using q (k + 1) y (by simpa using e))
theorem map_getD_range (ns : List Int) (f : Int → Int) : ns.map f = (List.range ns.length).map fun i => f (ns.getD i 0) := by
  apply List.ext_getElem
  · simp
  · intro i h1 h2
    have h3 : i < ns.length := by simpa using h1
    simp [h3]
theorem fr_two {g h h' : Heap} {L D D' : Addr} {m : Str → Option Value} (F : Fr g L h m) (hk : ∀ a o, a ≠ D → a ≠ D' → h.get? a = some o → h'.get? a = some o) (hD : D ≠ L) (hD' : D' ≠ L) (hg : g.get? D = none) (hg' : g.get? D' = none) : Fr g L h' m := by
  obtain ⟨oo, es, ep, ho, rr⟩ := F.ns
  exact ⟨⟨oo, es, ep, hk _ _ (Ne.symm hD) (Ne.symm hD') ho, rr⟩, fun b x e => hk b x (fun q => by rw [q, hg] at e; cases e) (fun q => by rw [q, hg'] at e; cases e) (F.keep b x e), F.above⟩
theorem fr_ex {g h : Heap} {L : Addr} {m : Str → Option Value} (F : Fr g L h m) : ∃ m', Fr g L h m' ∧ ∀ y, m' y = m y := ⟨m, F, fun _ => rfl⟩
end Mine
end
theorem Mine.start_D3 : True := by
  w_top off
  trivial
section
set_option maxHeartbeats 1000000
namespace Mine
/-- how many stand ahead of the j-th -/
noncomputable def ahead (rks : List Int) (j : Nat) : Nat := (rks.filter fun x => decide (x < rks.getD j 0)).length + (rks.take j).count (rks.getD j 0)
theorem cnt_or {α : Type} {p q : α → Bool} : ∀ {l : List α}, (∀ a ∈ l, ¬ (p a = true ∧ q a = true)) → l.countP (fun a => p a || q a) = l.countP p + l.countP q
  | [], _ => rfl
  | a :: l, h => by
    have ih := cnt_or (p := p) (q := q) (l := l) fun a ha => h a (.tail _ ha)
    have h0 := h a (.head _)
    simp only [List.countP_cons, ih]
    cases hp : p a <;> cases hq : q a <;> simp_all <;> (first | lia | omega)
theorem ahead_ord {r : Nat → Int} {N : Nat} {rks : List Int} (h : rks = (List.range N).map r) {j : Nat} (hj : j < N) : (ord r N)[ahead rks j]? = some j := by
  obtain ⟨p, q, e⟩ := List.append_of_mem ((ord_mem (r := r) (N := N)).mpr hj)
  have hs := ord_sorted r N
  rw [e] at hs
  obtain ⟨-, h2, h3⟩ := List.pairwise_append.mp hs
  have h4 := (List.pairwise_cons.mp h2).1
  have hrj : rks.getD j 0 = r j := by rw [h, List.getD_eq_getElem?_getD, List.getElem?_map, List.getElem?_range hj]; rfl
  let f : Nat → Bool := fun k => decide (r k < r j) || decide (r k = r j ∧ k < j)
  have c1 : (ord r N).countP f = p.length := by
    rw [e, List.countP_append, List.countP_cons]
    have a1 : p.countP f = p.length := List.countP_eq_length.mpr fun k hk => by
      have := h3 k hk j (.head _)
      unfold SL at this
      simp only [f, Bool.or_eq_true, decide_eq_true_eq]; (first | lia | omega)
    have a2 : q.countP f = 0 := List.countP_eq_zero.mpr fun k hk => by
      have := h4 k hk
      unfold SL at this
      simp only [f, Bool.or_eq_true, decide_eq_true_eq]; (first | lia | omega)
    have a3 : f j = false := by simp [f]
    rw [a1, a2, a3]; simp
  have c2 : (List.range N).countP f = ahead rks j := by
    unfold ahead
    rw [cnt_or (fun a _ q => by simp only [decide_eq_true_eq] at q; (first | lia | omega)), hrj]
    congr 1
    · rw [h, ← List.countP_eq_length_filter, List.countP_map]; rfl
    · have eN : N = j + (N - j) := by (first | lia | omega)
      rw [h, ← List.map_take, List.take_range, Nat.min_eq_left (Nat.le_of_lt hj), List.count_eq_countP, List.countP_map]
      rw [eN, List.range_add, List.countP_append]
      have z : (List.map (fun x => j + x) (List.range (N - j))).countP (fun a => decide (r a = r j ∧ a < j)) = 0 := List.countP_eq_zero.mpr fun k hk => by
        obtain ⟨x, -, rfl⟩ := List.mem_map.mp hk
        simp only [decide_eq_true_eq]; (first | lia | omega)
      rw [z, Nat.add_zero]
      apply List.countP_congr
      intro k hk
      have := List.mem_range.mp hk
      simp only [Function.comp, decide_eq_true_eq, beq_iff_eq]
      exact ⟨fun q => q.1, fun q => ⟨q, this⟩⟩
  rw [← c2, ← (ord_perm r N).countP_eq, c1, e]
  simp
theorem ahead_lt {r : Nat → Int} {N : Nat} {rks : List Int} (h : rks = (List.range N).map r) {j : Nat} (hj : j < N) : ahead rks j < N := by
  have := (List.getElem?_eq_some_iff.mp (ahead_ord h hj)).1
  rwa [ord_len] at this
theorem ahead_inj {r : Nat → Int} {N : Nat} {rks : List Int} (h : rks = (List.range N).map r) {i j : Nat} (hi : i < N) (hj : j < N) (e : ahead rks i = ahead rks j) : i = j := by
  have h1 := ahead_ord h hi
  have h2 := ahead_ord h hj
  rw [e, h2] at h1
  exact (Option.some.inj h1).symm
theorem ahead_at {r : Nat → Int} {N : Nat} {rks : List Int} (h : rks = (List.range N).map r) {k : Nat} (hk : k < N) : (ord r N).getD k 0 < N ∧ ahead rks ((ord r N).getD k 0) = k := by
  have hk' : k < (ord r N).length := by rw [ord_len]; exact hk
  have e : (ord r N).getD k 0 = (ord r N)[k] := by simp [hk']
  have hm : (ord r N)[k] < N := ord_mem.mp (List.getElem_mem hk')
  refine ⟨by rw [e]; exact hm, ?_⟩
  rw [e]
  have h1 := ahead_ord h hm
  have hn : (ord r N).Nodup := (ord_perm r N).nodup_iff.mpr List.nodup_range
  obtain ⟨hl, h2⟩ := List.getElem?_eq_some_iff.mp h1
  have a1 := List.Nodup.idxOf_getElem hn k hk'
  have a2 := List.Nodup.idxOf_getElem hn _ hl
  rw [h2] at a2
  exact a2.symm.trans a1
end Mine
end
theorem Mine.start_D2 : True := by
  w_top off
  trivial
section
open PySem PySem.W PySem.Calls PyProof.Rows
set_option maxRecDepth 100000
set_option maxHeartbeats 4000000
namespace Mine
section
variable {prog : Program} {w : World} {A : Around} {E : Value → Shared → Prop} {s : Shared} {g : Heap} {env : Env}
theorem loop_en {e : Nat} (N : Nat) {target : PySem.Expr} {body : List Stmt} {QN : Shared → Prop} {Q : Flow → Shared → Prop} (hQ : ∀ s', QN s' → Q .next s') (J : Nat → Shared → Prop)
    (turn : ∀ j s', j < N → J j s' → ∀ E' : Value → Shared → Prop, wpAny (model prog w) A (pyNext (.ref e)) (fun r s₁ => ∃ v, r = some v ∧ wpAny (model prog w) A (letOwnedTupleGo target (.ref e) v) (fun _ s₁' =>
      wpAny (model prog w) A (assign target env v) (fun _ s₂ => wpAny (model prog w) A (execs body env) (fun f s₃ => f = .next ∧ J (j + 1) s₃) E' s₂) E' s₁') E' s₁) E' s')
    (fin : ∀ s', J N s' → ∀ E' : Value → Shared → Prop, wpAny (model prog w) A (pyNext (.ref e)) (fun r s₁ => r = none ∧ QN s₁) E' s')
    (h0 : J 0 s) : codeAny (model prog w) A (.forLoop target (.ref e) body [] env) (fun r s' => match r with | .ok f => Q f s' | .error x => cameBackBy (model prog w) A env E x s') s := by
  refine codeAny_forLoop_any (fun k s' => ∃ j, j ≤ N ∧ k = N + 1 - j ∧ J j s') (fun k s' hk => ?_) (N + 1) ⟨0, Nat.zero_le _, rfl, h0⟩
  obtain ⟨j, hj, rfl, hJ'⟩ := hk
  by_cases hlt : j < N
  · refine wpAny_mono (turn j s' hlt hJ' _) (fun r s₁ h₁ => ?_) fun _ _ q => q
    obtain ⟨v, rfl, h2⟩ := h₁
    refine wpAny_mono h2 (fun _ s₂ h₂ => wpAny_mono h₂ (fun _ s₃ h₃ => wpAny_mono h₃ (fun f s₄ h₄ => ?_) fun _ _ q => q) fun _ _ q => q) fun _ _ q => q
    obtain ⟨rfl, hJ3⟩ := h₄
    exact ⟨N + 1 - (j + 1), by omega, j + 1, by omega, rfl, hJ3⟩
  · have e : j = N := by omega
    subst e
    refine wpAny_mono (fin s' hJ' _) (fun r s₁ h₁ => ?_) fun _ _ q => q
    obtain ⟨rfl, h2⟩ := h₁
    exact wpAny_execs_nil (hQ _ h2)
theorem assign_lc {a b : Str} {pa pb tp : Pos} {kk : Nat} {T c : Addr} {x y : Value} {v₀ : Option Value} {m : Str → Option Value} {Q : Unit → Shared → Prop} (hh : A.handled = none) (ht : s.heap.IsTuple T #[x, y])
    (ha : env.kindOf a = some .local) (hb : env.kindOf b = some .cell) (hk : env.scope.kind = .function) (hcl : env.cells.lookup b = some c) (hp : (env.scope.kind == .class || (env.scope.kind == .module && env.locals != env.globals)) = false)
    (hn : s.heap.Ns env.locals m) (hc : s.heap.IsCell c v₀) (hne : c ≠ env.locals)
    (h : ∀ (h' : Heap) (tk : Nat), h'.Ns env.locals (fun q => if q = a then some x else m q) → h'.IsCell c (some y) → (∀ d o, d ≠ env.locals → d ≠ c → s.heap.get? d = some o → h'.get? d = some o) → Q () { s with heap := h', toks := tk }) :
    wpAny (model prog w) A (assign (.Tuple [.Name a pa, .Name b pb] kk tp) env (.ref T)) Q E s := by
  refine wpAny_assign_Tuple hh ht rfl rfl fun h₁ he₁ => ?_
  have hL : env.locals ≠ s.heap.objs.size := Nat.ne_of_lt hn.lt
  have hn₁ : h₁.Ns env.locals m := hn.at' fun o e => he₁ _ o hL e
  have up₁ : ∀ c o, s.heap.get? c = some o → h₁.get? c = some o := fun c o e => he₁ c o (Nat.ne_of_lt (Heap.lt_size e)) e
  obtain ⟨oc, hoc, hdc⟩ := hc
  show wpAny _ _ (assignInOrder [assign (.Name a pa) env, assign (.Name b pb) env] [x, y]) _ _ _
  refine assignInOrder_cons ?_
  refine wpAny_assign_Name (wpAny_storeName_local ha hn₁ (fun h₂ hn₂ hs₂ => ?_) hp)
  refine assignInOrder_cons ?_
  refine wpAny_assign_Name (wpAny_storeName_cell hk hb hcl ⟨oc, hs₂.extBut _ _ hne (up₁ _ _ hoc), hdc⟩ fun h₃ hc₃ hs₃ => ?_)
  refine assignInOrder_nil ?_
  exact h h₃ _ (hn₂.sameBut hs₃ (Ne.symm hne)) hc₃ (fun d o hd hdc e => hs₃.extBut d o hdc (hs₂.extBut d o hd (up₁ d o e)))
end
noncomputable def enObj (it : Nat) (j : Nat) (old : Value) : Obj := { cls := .type "enumerate", dict := none, data := .fields #[.none, .bool false, .ref it, rawInt j, .none, old], slots := #[] }
noncomputable def itObj (o : Obj) (l j : Nat) : Prop := o.cls = .type "list_iterator" ∧ o.data = .fields #[.ref l, .int j 0]
/-- behind j turns of the loop -/
noncomputable def DueJ (g : Heap) (L' R D l e it c5 : Nat) (cT : Obj) (rs : List Value) (ns rks : List Int) (n : Int) (tn : Tok) (j : Nat) (s s' : Shared) : Prop :=
  ∃ (h : Heap) (tk : Nat) (ds : List Value) (cd : Nat) (mm : Str → Option Value) (cR : Obj) (ov : Option Value) (old : Value) (oi : Obj), s' = { s with heap := h, toks := tk } ∧
    Fr g L' h (fun y => if y = Str.ofString "due" then some (.ref D) else if y = Str.ofString "ranks" then some (.ref R) else if y = Str.ofString "wish" then some (.int n tn) else if y = Str.ofString "drawn" then some (.ref l) else mm y) ∧
    News g L' h [(D, listOf ds.toArray cd), (R, listOf rs.toArray c5), (L' + 1 + 1, cR), (L' + 1, cT), (e, enObj it j old), (it, oi)] ∧
    cR.data = .cell ov ∧ itObj oi R j ∧ ds.length = ns.length ∧ ∀ i, i < j → ∃ t, ds[ahead rks i]? = some (lkey (ns.getD i 0) t)
/-- behind the loop -/
noncomputable def DueE (g : Heap) (L' R D l : Nat) (ns rks : List Int) (n : Int) (tn : Tok) (s s' : Shared) : Prop :=
  ∃ (h : Heap) (tk : Nat) (ds : List Value) (cd : Nat) (mm : Str → Option Value), s' = { s with heap := h, toks := tk } ∧
    Fr g L' h (fun y => if y = Str.ofString "due" then some (.ref D) else if y = Str.ofString "ranks" then some (.ref R) else if y = Str.ofString "wish" then some (.int n tn) else if y = Str.ofString "drawn" then some (.ref l) else mm y) ∧
    News g L' h [(D, listOf ds.toArray cd)] ∧ ds.length = ns.length ∧ ∀ i, i < ns.length → ∃ t, ds[ahead rks i]? = some (lkey (ns.getD i 0) t)
/-- the keys in their order, as many as are wished -/
noncomputable def KeysAt (ns : List Int) (r : Nat → Int) (n : Int) (ys : List Value) : Prop :=
  ys.length = min n.toNat ns.length ∧ ∀ k v, ys[k]? = some v → ∃ t, v = lkey (ns.getD ((ord r ns.length).getD k 0) 0) t
theorem keysAt_take {ns rks : List Int} {r : Nat → Int} {n : Int} {ds : List Value} (hr : rks = (List.range ns.length).map r) (hl : ds.length = ns.length)
    (hd : ∀ i, i < ns.length → ∃ t, ds[ahead rks i]? = some (lkey (ns.getD i 0) t)) : KeysAt ns r n (ds.take n.toNat) := by
  refine ⟨by rw [List.length_take, hl], fun k v e => ?_⟩
  have hk : k < ns.length ∧ ds[k]? = some v := by
    rw [List.getElem?_take] at e
    split at e
    · exact ⟨by have := (List.getElem?_eq_some_iff.mp e).1; omega, e⟩
    · cases e
  obtain ⟨h1, h2⟩ := ahead_at hr hk.1
  obtain ⟨t, h3⟩ := hd _ h1
  rw [h2, hk.2] at h3
  exact ⟨t, Option.some.inj h3⟩
end Mine
end
theorem Mine.start_D4 : True := by
  w_top off
  trivial
section
open PySem PySem.W PySem.Calls PyProof.Rows
set_option maxRecDepth 100000
set_option maxHeartbeats 4000000
namespace Mine
noncomputable def ltKey (k : Int) : Value → Bool
  | .int a _ => decide (a < k)
  | _ => false
theorem ltKey_len {k : Int} : ∀ {vs : List Value} {ns : List Int}, IntsAre vs ns → (vs.filter (ltKey k)).length = (ns.filter fun a => decide (a < k)).length
  | _, _, .nil => rfl
  | _, _, .cons i t r => by
    have ih := ltKey_len (k := k) r
    by_cases q : i < k
    · simp [List.filter_cons, ltKey, q, ih]
    · simp [List.filter_cons, ltKey, q, ih]
section
variable {prog : Program} {w : World} {A : Around} {E : Value → Shared → Prop} {s : Shared} {env : Env}
/-- [x for x in l if x < y], y of an outer frame -/
theorem comp_lt {R c5 : Nat} {rs : List Value} {rks : List Int} {iter : PySem.Expr} {x y : Str} {p1 p2 p3 p4 px pos : Pos} {scope : Scope} {cl : List (Str × Addr)} {c : Addr} {oc : Obj} {k : Int} {t : Tok} {Q : Value → Shared → Prop}
    (hh : A.handled = none) (hclos : closureFor scope env = pure cl) (hcell : ∀ y ∈ scope.names, y.2 ≠ .cell) (hkind : scope.kind = .function)
    (hnames : ∀ y ∈ scope.names, y.2 = .local → scope.names.lookup y.1 = some .local) (hx : scope.names.lookup x = some .local)
    (hiter : ∀ (Q : Value → Shared → Prop), Q (.ref R) s → wpAny (model prog w) A (eval iter env) Q E s)
    (hxk : ∀ C, (compEnvC scope cl C env).kindOf x = some .local) (hyk : ∀ C, (compEnvC scope cl C env).kindOf y = some .cell) (hyc : cl.lookup y = some c) (hek : ∀ C, (compEnvC scope cl C env).scope.kind = .function)
    (hdx : (x == ("__debug__" : Str)) = false) (hdy : (y == ("__debug__" : Str)) = false)
    (hl : s.heap.get? R = some (listOf rs.toArray c5)) (hi : IntsAre rs rks) (hlen : rs.length < 64) (hc : s.heap.get? c = some oc) (hd : oc.data = .cell (some (.int k t)))
    (hQ : ∀ (D : Addr) h' tk' ys n, s.heap.get? D = none → h'.get? D = some (listOf ys n) → ys.size = (rks.filter fun a => decide (a < k)).length → Stays s.heap h' → Q (.ref D) { s with heap := h', toks := tk' })
    (hs : ∀ x, foldedSetIterable iter env x = pure x := by intro _; rfl)
    (hm : behindInMarks .Lt (.Name y p3) = false := by with_unfolding_all rfl) :
    wpAny (model prog w) A (eval (.ListComp (.Name x p1) [⟨.Name x px, iter, [.Compare (.Name x p2) [.Lt] [.Name y p3] p4], 0⟩] scope pos) env) Q E s := by
  refine wpAny_ListComp_free (cl := cl) (ltKey k) (fun _ _ => True) hclos hcell hkind hnames hx (hiter _ ?_) hs
  refine wpAny_pyIter_list (items := rs.toArray) ⟨_, hl, rfl, c5, rfl⟩ ?_
  have llt := ltN (Heap.lt_size hl)
  have hi0 : (s.heap.push { cls := .type "list_iterator", data := .fields #[.ref R, .int 0 0] }).IsListIter s.heap.objs.size R 0 := ⟨_, Heap.get?_push_size _ rfl, rfl, rfl⟩
  have st0 : Stays s.heap (s.heap.push { cls := .type "list_iterator", data := .fields #[.ref R, .int 0 0] }) := fun b o e => Heap.get?_push_of_some _ e
  have sz0 : (s.heap.push { cls := .type "list_iterator", data := .fields #[.ref R, .int 0 0] }).objs.size = s.heap.objs.size + 1 := Heap.size_push ..
  generalize hI : s.heap.objs.size = I at *
  generalize s.heap.push { cls := .type "list_iterator", data := .fields #[.ref R, .int 0 0] } = H0 at hi0 st0 sz0 ⊢
  have ltI : ∀ (b : Nat) o, s.heap.get? b = some o → b < I := fun b o e => by rw [← hI]; exact ltN (Heap.lt_size e)
  have hRI : R ≠ I := neN (by (first | lia | omega))
  have hcI : c ≠ I := neN (Nat.ne_of_lt (ltI _ _ hc))
  refine ⟨I, [I, R], [I], rs.toArray.size, _, _, rfl, Walks.list hh I R hRI rs.toArray, by rw [List.size_toArray, sizeLine_eq]; (first | lia | omega), ⟨hi0, ⟨_, st0 _ _ hl, rfl, c5, rfl⟩⟩, ?_, ⟨?_, ?_⟩, ?_⟩
  · intro b hb
    simp only [List.mem_cons, List.not_mem_nil, or_false] at hb
    dsimp only
    rw [sz0]
    rcases hb with rfl | rfl
    · exact Nat.lt_succ_self _
    · exact Nat.lt_succ_of_lt llt
  · intro C i v s₃ m₃ E' hC hv hn hmx hk htk
    have hri : rs[i]? = some v := by simpa using hv
    obtain ⟨u, rfl⟩ := ints_at hi hri
    refine wpAny_tests_one (wpAny_isTrue_Compare1 ?_ hm)
    refine wpAny_Name (wpAny_loadName_local (hek C) (hxk C) hn hmx ?_) hdx
    refine wpAny_Name (wpAny_loadName_cell (hek C) (hyk C) hyc ⟨oc, hk _ _ (by simp [hcI]) (st0 _ _ hc), hd⟩ ?_) hdy
    refine lt_int ?_
    exact wpAny_truthy_bool ⟨rfl, s₃.heap, s₃.toks, rfl, fun _ _ e => e⟩
  · intro C i v s₃ m₃ E' hC hv _ hn hmx hk htk
    exact wpAny_Name (wpAny_loadName_local (hek C) (hxk C) hn hmx ⟨trivial, s₃.heap, s₃.toks, rfl, fun _ _ e => e⟩) hdx
  · intro D h' tk ys vs hD hL hP hvl hvs hpair hk
    have e : vs = rs := by
      apply List.ext_getElem?
      intro j
      by_cases hj : j < vs.length
      · have := hvs j vs[j] (by simp [hj])
        rw [List.getElem?_eq_getElem hj]
        simpa using this.symm
      · rw [List.getElem?_eq_none (by (first | lia | omega)), List.getElem?_eq_none (by rw [List.size_toArray] at hvl; (first | lia | omega))]
    obtain ⟨n, hn⟩ := hP
    refine hQ D h' tk ys n ?_ hn ?_ fun b o e => hk b o (by simp; exact neN (by have := ltI b o e; (first | lia | omega))) (st0 b o e)
    · cases q : s.heap.get? D with
      | none => rfl
      | some o => have := st0 _ _ q; rw [hD] at this; cases this
    · have := hpair.length
      rw [e, ltKey_len hi] at this
      simpa using this.symm
theorem set_at {D n : Nat} {vs : List Value} {k : Int} {u : Tok} {v : Value} {Q : Unit → Shared → Prop} (hD : s.heap.get? D = some (listOf vs.toArray n)) (h0 : 0 ≤ k) (hk : k < vs.length) (hlen : vs.length < 64)
    (h : ∀ h', h'.get? D = some (listOf (vs.set k.toNat v).toArray n) → (∀ b o, b ≠ D → s.heap.get? b = some o → h'.get? b = some o) → Q () { s with heap := h' }) :
    wpAny (model prog w) A (setItem (.ref D) (.int k u) v) Q E s := by
  refine ki_setAt hD h0 (by (first | lia | omega)) (by rw [List.size_toArray]; exact hk) (h _ ?_ fun b o hb e => (Heap.get?_update_ne _ _ _ _ hb).trans e)
  have q := PySem.IsL.update hD (·.setIfInBounds k.toNat v)
  have e1 : vs.toArray.setIfInBounds k.toNat v = (vs.set k.toNat v).toArray := by apply Array.toList_inj.mp; simp
  rw [e1] at q
  simpa using q
end
end Mine
end
theorem Mine.start_D5 : True := by
  w_top off
  trivial
section
open PySem PySem.W PySem.Calls PyProof.Rows
set_option maxRecDepth 100000
set_option maxHeartbeats 4000000
namespace Mine
variable {w : World}
theorem law_due {A : Around} {s : Shared} {Q E : Value → Shared → Prop} {l c0 : Nat} {vs : List Value} {ns : List Int} {n turn : Int} {tn tt : Tok}
   (G : Gr 5 w A s.heap) (hl : s.heap.get? l = some (listOf vs.toArray c0)) (hi : IntsAre vs ns) (hN : ns.length < 64) (hn0 : -1 ≤ n) (hn : n < 64) (ht : turn = 1 ∨ turn = -1)
   (ret : ∀ h' tk' (R : Nat) ys, Stays s.heap h' → h'.get? R = some (listOf ys.toArray 0) → s.heap.get? R = none → KeysAt ns (fun i => turn * lrank (lcode (ns.getD i 0))) n ys → Q (.ref R) { s with heap := h', toks := tk' }) :
   wpAny (model PySem.Challenge.rw_mq0307_01.row.prog w) A (call (.ref 129) [.ref l, .int n tn, .int turn tt]) Q E s := by
  obtain ⟨dp, un, gd, outer, A₀, base, mean, mg, mb, rfl, hdp, hun, B, X, T⟩ := G.ex
  w_strict (
  revert X
  k_fill
  intro X
  refine' enterC (g := s.heap) (binds := [(Str.ofString "drawn", .ref l), (Str.ofString "wish", .int n tn), (Str.ofString "turn", .int turn tt)]) ?k0 ?k1 X (Stays.refl _) (Nat.le_refl _) ?k2 ?k3 ?k4 ?k5 ?k6 ?_ ?k7 ?k8 ?k9
  case k0 => exact Nat.lt_of_le_of_lt (Nat.le_add_right _ _) hdp
  case k1 => exact T.nolimit
  case k2 => k_is
  case k3 => k_is
  case k4 => exact BindsTo.of_eq rfl
  case k5 => rfl
  case k6 => decide +kernel
  case k7 => rfl
  case k8 => rfl
  case k9 => rfl
  intro h1 tk1 cells F N hC st1
  obtain ⟨cR, cT, rfl, hcR, hcT⟩ := (show CellsAre _ [(Str.ofString "rank", s.heap.objs.size + 1 + 1), (Str.ofString "turn", s.heap.objs.size + 1)] cells from hC).two
  replace hcT : cT.data = .cell (some (.int turn tt)) := hcT
  replace hcR : cR.data = .cell none := hcR
  clear hC
  generalize hL' : s.heap.objs.size = L' at *
  replace F : Fr s.heap L' h1 (fun y => if y = Str.ofString "wish" then some (.int n tn) else if y = Str.ofString "drawn" then some (.ref l) else none) := fr_as F fun y => rfl
  (try dsimp only)
  (try k_fold)
  k_with_none
  walk1
  refine' exec_assign_comp (cl := [(Str.ofString "turn", L' + 1)]) ?sw ?cl rfl ?nm ?_ ?hs
  case sw => with_unfolding_all rfl
  case cl => with_unfolding_all rfl
  case nm => decide +kernel
  case hs => (intro _; rfl)
  walk1
  have hlen := hi.length
  refine' comp_list (l := l) (vs := vs) (c0 := c0) (fun k y => ∃ t, y = Value.int (turn * lrank (lcode (ns.getD k 0))) t) ?c1 ?c2 ?c3 ?c4 ?c5 ?c6 ?c7
  case c1 => rfl
  case c2 => exact F.keep _ _ hl
  case c3 => (first | lia | omega)
  case c4 => decide +kernel
  case c5 => rfl
  case c6 =>
    intro k a h5 tk5 m5 hka hns5 st5 Q5 E5 hQ5
    have hC : ∀ b o, h1.get? b = some o → b ≠ h1.objs.size + 2 := fun b o e => neN (by have := ltN (Heap.lt_size e); (first | lia | omega))
    refine wpAny_assign_Name (wpAny_storeName_local rfl hns5 (fun h6 ns6 sb6 => ?_) rfl)
    have st6 : Stays h1 h6 := fun b o e => sb6.extBut b o (hC b o e) (st5 b o e)
    have F6 := fr_stays F st6
    have N6 := news_stays N st6
    clear F N
    dsimp only
    walk1
    walk1
    refine wpAny_Name (wpAny_loadName_cell rfl rfl rfl ⟨cT, (N6 _ (.tail _ (.head _))).1, hcT⟩ ?_) (by decide)
    walk1
    walk1
    walk1
    walk1
    walk1
    walk1
    walk1
    walk1
    refine wpAny_Name (wpAny_loadName_local rfl rfl ns6 (if_pos rfl) ?_) (by decide)
    walk1
    (try dsimp only)
    refine ⟨X.keeps F6.keep, ?_⟩
    obtain ⟨ta, rfl⟩ : ∃ ta, a = .int (ns.getD k 0) ta := ints_at hi hka
    refine law_code_spec _ _ _ _ (gr_in (k := 4) B X T F6 rfl rfl (by (first | lia | omega)) (by (first | lia | omega))).less' fun h7 tk7 t7 st7 sz7 => ?_
    have F7 := fr_stays F6 st7
    walk1
    (try dsimp only)
    refine ⟨X.keeps F7.keep, ?_⟩
    refine law_rank_spec _ _ _ _ (gr_in (k := 4) B X T F7 rfl rfl (by (first | lia | omega)) (by (first | lia | omega))).less' fun h8 tk8 t8 st8 sz8 => ?_
    have F8 := fr_stays F7 st8
    (try dsimp only)
    walk1
    exact hQ5 _ h8 _ _ ⟨_, rfl⟩ (ns6.keeps (st7.trans st8)) (fun c o hc e => st8 _ _ (st7 _ _ (sb6.extBut c o hc e)))
  case c7 =>
    intro h5 tk5 mC c5 rs hrl hrr hnC hR st5
    refine' list_named (s := { s with heap := h1, toks := tk1 }) ?e1 F N hnC hR st5 ?e2 ?e3 ?e4
    case e1 => rfl
    case e2 => rfl
    case e3 => rfl
    intro h6 tk6 R F6 N6 hRne kp6
    clear F N hnC hR st5
    have hrs : IntsAre rs (ns.map fun x => turn * lrank (lcode x)) := ints_of (by rw [hrl, hlen, List.length_map]) fun k y e => by
      obtain ⟨t, rfl⟩ := hrr k y e
      have hk : k < ns.length := by have := (List.getElem?_eq_some_iff.mp e).1; (first | lia | omega)
      refine ⟨t, ?_⟩
      rw [List.getD_eq_getElem?_getD, List.getD_eq_getElem?_getD, List.getElem?_map, List.getElem?_eq_getElem hk]; rfl
    clear hrr
    have hlist : s.heap.IsList l vs.toArray := ⟨_, hl, rfl, c0, rfl⟩
    dsimp only
    repeat' ((fail_if_success (with_reducible show wpAny _ _ (exec (Stmt.For _ _ _ _ _) _) _ _ _)); (first | (k_unfold; (try dsimp only)) | walk1 | (dsimp only; walk1)))
    rename Fr _ _ _ _ => F7
    rename News _ _ _ _ => N7
    rename Heap => h7
    rename_i LL hh2 ll1 D hh1 ii1 n1 s1 e1 e2 e3 l2
    refine wpAny_For ?_ (by intro _; rfl)
    repeat' ((fail_if_success (with_reducible show wpAny _ _ (call (Value.type _) _ _) _ _ _)); (first | (k_unfold; (try dsimp only)) | walk1 | (dsimp only; walk1)))
    have hRs : h7.IsList R rs.toArray := ⟨_, (N7 _ (.tail _ (.tail _ (.head _)))).1, rfl, c5, rfl⟩
    refine call_enumerate_list hRs fun h8 he8 hit8 sz8 kp8 => ?_
    dsimp only at he8 hit8 sz8 kp8 ⊢
    refine wpAny_pyIter_enum he8 ?_
    have lt7 : ∀ (b : Nat) o, h7.get? b = some o → b < h7.objs.size := fun b o e => ltN (Heap.lt_size e)
    have hRL : R ≠ L' := (N7 _ (.tail _ (.tail _ (.head _)))).2.1
    have hDL : D ≠ L' := (N7 _ (.head _)).2.1
    have hR7 := lt7 _ _ (N7 _ (.tail _ (.tail _ (.head _)))).1
    have hD7 := lt7 _ _ (N7 _ (.head _)).1
    have hL7 := ltN F7.ns.lt
    have hC7 := lt7 _ _ (N7 _ (.tail _ (.tail _ (.tail _ (.head _))))).1
    have hg7 : ∀ x : Nat, h7.objs.size ≤ x → s.heap.get? x = none := fun x hx => by
      cases q : s.heap.get? x with
      | none => rfl
      | some o => have := lt7 _ _ (F7.keep _ _ q); (first | lia | omega)
    have hRC : L' + 1 + 1 ≠ R := hRne _ (.head _)
    have hRT : L' + 1 ≠ R := hRne _ (.tail _ (.head _))
    obtain ⟨lD1, lD2, lD3, lD4⟩ := l2
    have xD2 : R < D := lD2
    have xD3 : L' + 1 + 1 < D := lD3
    dsimp only at hR7 hD7 hL7 hC7
    generalize hE : h7.objs.size + 1 = e at *
    generalize hI : h7.objs.size = it at *
    have hns : ns.length = n1 := by rw [← e1]; simp
    generalize hds : (List.replicate (ns.length : Int).toNat [Value.int 0 tk6]).flatten = ds0 at *
    have hdl : ds0.length = ns.length := by rw [hns, ← s1]; simp
    generalize hrk : (ns.map fun x => turn * lrank (lcode x)) = rks at hrs
    have hrkl : rks.length = ns.length := by rw [← hrk, List.length_map]
    clear e1 e2 e3 s1 ii1 hds ll1 lD1 lD2 lD3 lD4 ht hns hrl hRne kp6 hRs hn0
    have hrl : rs.length = ns.length := by rw [hrs.length, hrkl]
    obtain ⟨oi, hoi, hoc, hod⟩ := hit8
    refine' loop_en ns.length (QN := fun s' => DueE s.heap L' R D l ns rks n tn s s') ?hQ (fun j s' => DueJ s.heap L' R D l e it c5 cT rs ns rks n tn j s s') ?turn ?fin ?h0
    case h0 =>
      refine ⟨h8, tk, ds0, 0, fun _ => none, cR, none, .none, oi, rfl, fr_as (fr_stays F7 kp8) fun y => ?_, ?_, hcR, ⟨hoc, hod⟩, hdl, fun i hi0 => absurd hi0 (Nat.not_lt_zero _)⟩
      · rfl
      · intro p hp
        simp only [List.mem_cons, List.not_mem_nil, or_false] at hp
        have N8 := news_stays N7 kp8
        rcases hp with rfl | rfl | rfl | rfl | rfl | rfl
        · exact N8 _ (by simp)
        · exact N8 _ (by simp)
        · exact N8 _ (by simp)
        · exact N8 _ (by simp)
        · exact ⟨he8, neN (by (first | lia | omega)), hg7 _ (by (first | lia | omega))⟩
        · exact ⟨hoi, neN (by (first | lia | omega)), hg7 _ (by (first | lia | omega))⟩
    case turn =>
      rintro j s' hj ⟨h9, tk9, ds, cd, mm, cR9, ov, old, oi9, rfl, F9, N9, hcR9, ⟨ho1, ho2⟩, hdl9, hdv⟩ E9
      have ze := N9 (e, enObj it j old) (by simp)
      have zi := N9 (it, oi9) (by simp)
      have zR := N9 (R, listOf rs.toArray c5) (by simp)
      have zC := N9 (L' + 1 + 1, cR9) (by simp)
      have hrj : rs[j]? = some rs[j] := by simp [hrl, hj]
      obtain ⟨trk, hrkj⟩ := ints_at hrs hrj
      clear F7 N7
      refine wpAny_pyNext_enum_item (s := { s with heap := h9, toks := tk9 }) ze.1 ⟨oi9, zi.1, ho1, ho2⟩ ⟨_, zR.1, rfl, c5, rfl⟩ (x := .int (rks.getD j 0) trk) (by rw [List.getElem?_toArray, hrj, hrkj]) (neN (by (first | lia | omega))) fun h10 hen hit ht10 sz10 kp10 => ⟨_, rfl, ?_⟩
      dsimp only at hen ht10 sz10 kp10 ⊢
      have lt9 : ∀ (b : Nat) o, h9.get? b = some o → b < h9.objs.size := fun b o e => ltN (Heap.lt_size e)
      have e9 := lt9 _ _ ze.1
      have i9 := lt9 _ _ zi.1
      have L9 := ltN F9.ns.lt
      dsimp only at e9 i9 L9
      refine wpAny_letOwnedTupleGo_enum hen fun h11 hen11 sb11 => ?_
      dsimp only at sb11 ⊢
      have kp11 : ∀ b o, b ≠ e → b ≠ it → h9.get? b = some o → h11.get? b = some o := fun b o x y q => sb11.extBut b o x (kp10 b o x y q)
      have F11 : Fr s.heap L' h11 _ := fr_two F9 kp11 ze.2.1 zi.2.1 ze.2.2 zi.2.2
      have ht11 : h11.IsTuple h9.objs.size #[.int j tk9, .int (rks.getD j 0) trk] := ⟨_, sb11.extBut _ _ (neN (by (first | lia | omega))) ht10, rfl, 0, rfl⟩
      have hcc11 : h11.IsCell (L' + 1 + 1) ov := ⟨cR9, kp11 _ _ (neN (by (first | lia | omega))) (neN (by (first | lia | omega))) zC.1, hcR9⟩
      refine' assign_lc (s := { s with heap := h11, toks := tk9 + 1 }) (c := L' + 1 + 1) ?a1 ht11 ?a2 ?a3 ?a4 ?a5 ?a6 F11.ns hcc11 ?a7 ?a8
      case a1 => rfl
      case a2 => rfl
      case a3 => rfl
      case a4 => rfl
      case a5 => rfl
      case a6 => rfl
      case a7 => exact neN (by show L' + 1 + 1 ≠ L'; (first | lia | omega))
      intro h12 tk12 ns12 ⟨cR12, hcR12, hdR12⟩ kp12
      replace kp12 : ∀ d o, d ≠ L' → d ≠ L' + 1 + 1 → h11.get? d = some o → h12.get? d = some o := kp12
      have kp : ∀ b o, b ≠ e → b ≠ it → b ≠ L' → b ≠ L' + 1 + 1 → h9.get? b = some o → h12.get? b = some o := fun b o x y z u q => kp12 b o z u (kp11 b o x y q)
      have gC : ∀ b o, s.heap.get? b = some o → b ≠ L' ∧ b ≠ L' + 1 + 1 := fun b o q => ⟨fun x => (by have := no_self F9; rw [← x, q] at this; cases this), fun x => by have := zC.2.2; dsimp only at this; rw [← x, q] at this; cases this⟩
      have F12 : Fr s.heap L' h12 (fun y => if y = Str.ofString "due" then some (.ref D) else if y = Str.ofString "ranks" then some (.ref R) else if y = Str.ofString "wish" then some (.int n tn) else if y = Str.ofString "drawn" then some (.ref l) else if y = Str.ofString "spot" then some (.int j tk9) else mm y) := by
        refine fr_as ⟨ns12, fun b o q => kp12 b o (gC b o q).1 (gC b o q).2 (F11.keep b o q), F11.above⟩ fun y => ?_
        by_cases h1 : y = Str.ofString "spot"
        · subst h1; rfl
        simp only [if_neg h1]
      have He12 : h12.get? e = some (enObj it (j + 1) (.int (rks.getD j 0) trk)) := kp12 e _ (neN (by (first | lia | omega))) (neN (by (first | lia | omega))) hen11
      obtain ⟨oi12, Hi12, Hc12, Hd12⟩ : h12.IsListIter it R (j + 1) := by
        obtain ⟨oo, q1, q2, q3⟩ := hit
        exact ⟨oo, kp12 it _ (neN (by (first | lia | omega))) (neN (by (first | lia | omega))) (sb11.extBut _ _ (neN (by (first | lia | omega))) q1), q2, q3⟩
      have N12 : News s.heap L' h12 [(D, listOf ds.toArray cd), (R, listOf rs.toArray c5), (L' + 1 + 1, cR12), (L' + 1, cT), (e, enObj it (j + 1) (.int (rks.getD j 0) trk)), (it, oi12)] := fun p hp => by
        simp only [List.mem_cons, List.not_mem_nil, or_false] at hp
        rcases hp with rfl | rfl | rfl | rfl | rfl | rfl
        · exact ⟨kp _ _ (neN (by (first | lia | omega))) (neN (by (first | lia | omega))) hDL (neN (by (first | lia | omega))) (N9 _ (by simp)).1, (N9 _ (by simp)).2⟩
        · exact ⟨kp _ _ (neN (by (first | lia | omega))) (neN (by (first | lia | omega))) hRL (Ne.symm hRC) zR.1, zR.2⟩
        · exact ⟨hcR12, zC.2⟩
        · exact ⟨kp _ _ (neN (by (first | lia | omega))) (neN (by (first | lia | omega))) (neN (by (first | lia | omega))) (neN (by (first | lia | omega))) (N9 (L' + 1, cT) (by simp)).1, (N9 (L' + 1, cT) (by simp)).2⟩
        · exact ⟨He12, ze.2⟩
        · exact ⟨Hi12, zi.2⟩
      clear F9 N9 ze zi zR zC F11 hcc11 ht11 kp11 hen11 hen hit ht10 kp10 kp gC kp12 sb11 He12 Hi12 hcR12 ns12
      dsimp only
      repeat' ((fail_if_success (with_reducible show wpAny _ _ (eval (PySem.Expr.ListComp _ _ _ _) _) _ _ _)); (first | (k_unfold; (try dsimp only)) | walk1 | (dsimp only; walk1)))
      rename Fr _ _ _ _ => F13
      rename News _ _ _ _ => N13
      refine' comp_lt (s := { s with heap := h12, toks := tk12 }) (cl := [(Str.ofString "rank", L' + 1 + 1)]) (R := R) (c5 := c5) (rs := rs) (rks := rks) (c := L' + 1 + 1) (oc := cR12) (k := rks.getD j 0) (t := trk) ?b1 ?b2 ?b3 ?b4 ?b5 ?b6 ?b7 ?b8 ?b9 ?b10 ?b11 ?b12 ?b13 ?b14 hrs ?b15 ?b16 hdR12 ?b17 ?b18 ?b19
      case b1 => rfl
      case b2 => with_unfolding_all rfl
      case b3 => decide +kernel
      case b4 => rfl
      case b5 => decide +kernel
      case b6 => rfl
      case b7 =>
        intro Q' hQ'
        walk1
        exact hQ'
      case b8 => exact fun _ => rfl
      case b9 => exact fun _ => rfl
      case b10 => rfl
      case b11 => exact fun _ => rfl
      case b12 => decide
      case b13 => decide
      case b14 => exact (N13 _ (.tail _ (.head _))).1
      case b15 => (first | lia | omega)
      case b16 => exact (N13 _ (.tail _ (.tail _ (.head _)))).1
      case b18 => intro _; rfl
      case b19 => with_unfolding_all rfl
      intro D14 h14 tk14 ya14 n14 hD14 hl14 hsz14 st14
      obtain ⟨ys14, rfl⟩ : ∃ yl : List Value, ya14 = yl.toArray := ⟨ya14.toList, by simp⟩
      rw [List.size_toArray] at hsz14
      dsimp only at hD14 st14
      have F14 := fr_stays F13 st14
      have N14 := news_stays N13 st14
      have zD14 : News s.heap L' h14 [(D14, listOf ys14.toArray n14)] := fun p hp => by
        rw [List.mem_singleton.mp hp]
        exact ⟨hl14, fun q => (by obtain ⟨o, _, _, ho, _⟩ := F13.ns; dsimp only at q; rw [q, ho] at hD14; cases hD14), by
          cases q : s.heap.get? D14 with
          | none => rfl
          | some o => rw [F13.keep _ _ q] at hD14; cases hD14⟩
      clear F13 N13
      have N15 : News s.heap L' h14 [(D14, listOf ys14.toArray n14), (D, listOf ds.toArray cd), (R, listOf rs.toArray c5), (L' + 1 + 1, cR12), (L' + 1, cT), (e, enObj it (j + 1) (.int (rks.getD j 0) trk)), (it, oi12)] := fun p hp => by
        rcases List.mem_cons.mp hp with rfl | hp
        · exact zD14 _ (.head _)
        · exact N14 p hp
      clear N14 zD14
      have hcell15 : h14.IsCell (L' + 1 + 1) (some (.int (rks.getD j 0) trk)) := ⟨cR12, (N15 (L' + 1 + 1, cR12) (by simp)).1, hdR12⟩
      have hfl : (ys14.length : Int) < 64 := by
        have := List.length_filter_le (fun a => decide (a < rks.getD j 0)) rks
        (first | lia | omega)
      walk1
      refine call_len_list (items := ys14.toArray) ⟨_, hl14, rfl, n14, rfl⟩ (by rw [List.size_toArray]; (first | lia | omega)) ?_
      rw [List.size_toArray]
      repeat' ((fail_if_success (with_reducible show wpAny _ _ (call (Value.ref _) _ _) _ _ _)); (first | (k_unfold; (try dsimp only)) | walk1 | (dsimp only; walk1)))
      rename Fr _ _ _ _ => F16
      rename News _ _ _ _ => N16
      refine law_key_spec _ _ _ _ (gr_in (k := 4) B X T F16 rfl rfl (by (first | lia | omega)) (by (first | lia | omega))).less' fun h17 tk17 t17 st17 sz17 => ?_
      have F17 := fr_stays F16 st17
      have N17 := news_stays N16 st17
      dsimp only at F17 N17
      clear F16 N16
      repeat' ((fail_if_success (with_reducible show wpAny _ _ (setItem _ _ _) _ _ _)); (first | (k_unfold; (try dsimp only)) | walk1 | (dsimp only; walk1)))
      have hrr : rks = (List.range ns.length).map (fun i => turn * lrank (lcode (ns.getD i 0))) := by rw [← hrk]; exact map_getD_range ns _
      have halt := ahead_lt hrr hj
      have eA : (ys14.length : Int) + (((List.take (j : Int).toNat rks).count (rks.getD j 0) : Nat) : Int) = ((ahead rks j : Nat) : Int) := by
        unfold ahead
        rw [Int.toNat_natCast, hsz14]; push_cast; rfl
      rw [eA]
      have z17 := N17 (D, listOf ds.toArray cd) (by simp)
      refine set_at (vs := ds) z17.1 (by (first | lia | omega)) (by (first | lia | omega)) (by (first | lia | omega)) fun h18 hD18 kp18 => ?_
      dsimp only at kp18
      rw [Int.toNat_natCast, Int.toNat_natCast] at hD18
      obtain ⟨m17, F17', hm17⟩ := fr_ex F17
      refine wpAny_execs_nil ⟨rfl, h18, _, ds.set (ahead rks j) (lkey (ns.getD j 0) t17), cd, m17, cR12, some (.int (rks.getD j 0) trk), .int (rks.getD j 0) trk, oi12, rfl, ?_, ?_, hdR12, ⟨Hc12, Hd12⟩, by rw [List.length_set, hdl9], fun i hi0 => ?_⟩
      · refine fr_as (fr_but F17' (fun a o ha e => kp18 a o ha e) z17.2.1 z17.2.2) fun y => ?_
        by_cases h1 : y = Str.ofString "due"
        · subst h1; rw [hm17]; rfl
        by_cases h2 : y = Str.ofString "ranks"
        · subst h2; rw [hm17]; rfl
        by_cases h3 : y = Str.ofString "wish"
        · subst h3; rw [hm17]; rfl
        by_cases h4 : y = Str.ofString "drawn"
        · subst h4; rw [hm17]; rfl
        simp only [if_neg h1, if_neg h2, if_neg h3, if_neg h4]
      · intro p hp
        have hDp : ∀ q, q ∈ [(R, listOf rs.toArray c5), (L' + 1 + 1, cR12), (L' + 1, cT), (e, enObj it (j + 1) (.int (rks.getD j 0) trk)), (it, oi12)] → q.1 ≠ D := by
          intro q hq
          simp only [List.mem_cons, List.not_mem_nil, or_false] at hq
          rcases hq with rfl | rfl | rfl | rfl | rfl
          · exact neN (by dsimp only; (first | lia | omega))
          · exact neN (by dsimp only; (first | lia | omega))
          · exact neN (by dsimp only; (first | lia | omega))
          · exact neN (by dsimp only; (first | lia | omega))
          · exact neN (by dsimp only; (first | lia | omega))
        rcases List.mem_cons.mp hp with rfl | hp
        · exact ⟨hD18, z17.2⟩
        · have z := N17 p (by simp only [List.mem_cons] at hp ⊢; exact .inr (.inr (.inr hp)))
          exact ⟨kp18 _ _ (hDp p hp) z.1, z.2⟩
      · rw [List.getElem?_set]
        by_cases hij : i = j
        · subst hij
          exact ⟨t17, by rw [if_pos rfl, if_pos (by (first | lia | omega))]⟩
        · obtain ⟨t0, h0⟩ := hdv i (by (first | lia | omega))
          exact ⟨t0, by rw [if_neg (fun q => hij (ahead_inj hrr hj (by (first | lia | omega)) q).symm)]; exact h0⟩
    case fin =>
      rintro s' ⟨h9, tk9, ds, cd, mm, cR9, ov, old, oi9, rfl, F9, N9, hcR9, ⟨ho1, ho2⟩, hdl9, hdv⟩ E9
      have ze := N9 (e, enObj it ns.length old) (by simp)
      have zi := N9 (it, oi9) (by simp)
      have zR := N9 (R, listOf rs.toArray c5) (by simp)
      refine wpAny_pyNext_enum_end (s := { s with heap := h9, toks := tk9 }) rfl ze.1 ⟨oi9, zi.1, ho1, ho2⟩ ⟨_, zR.1, rfl, c5, rfl⟩ (by simp; (first | lia | omega)) fun h10 kp10 => ⟨rfl, ?_⟩
      dsimp only at kp10
      refine ⟨h10, tk9, ds, cd, mm, rfl, fr_but F9 (fun a o ha e => kp10 a o ha e) zi.2.1 zi.2.2, fun p hp => ?_, hdl9, hdv⟩
      rw [List.mem_singleton.mp hp]
      exact ⟨kp10 _ _ (neN (by (first | lia | omega))) (N9 _ (.head _)).1, (N9 _ (.head _)).2⟩
    case hQ =>
      rintro s' ⟨h9, tk9, ds, cd, mm, rfl, F9, N9, hdl9, hdv⟩
      clear F7 N7
      have hDs : h9.IsList D ds.toArray := ⟨_, (N9 _ (.head _)).1, rfl, cd, rfl⟩
      dsimp only
      repeat' (first | (k_unfold; (try dsimp only)) | walk1 | (dsimp only; walk1))
      rename Fr _ _ _ _ => FZ
      rename News _ _ _ _ => NZ
      have eX : (if (0 : Int) > n then (0 : Int) else n) = ((n.toNat : Nat) : Int) := by split <;> (first | lia | omega)
      rw [eX, slicePick_upto'] at NZ
      exact ret _ _ _ _ FZ.keep (NZ _ (.head _)).1 (NZ _ (.head _)).2.2 (keysAt_take (by rw [← hrk]; exact map_getD_range ns _) hdl9 hdv)
  )
end Mine
end
theorem Mine.start_W1 : True := by
  w_top off
  trivial
section
open PySem PySem.W PySem.Calls PyProof.Rows
set_option maxRecDepth 100000
set_option maxHeartbeats 4000000
namespace Mine
section
variable {M : Model} {A : Around} {E : Value → Shared → Prop} {env : Env} {s : Shared}
/-- a builtin called with one keyword and no other argument -/
theorem callWith_kw0 {pos kp : Pos} {id : String} {first : List Value} {name : Str} {value : PySem.Expr} {Q : Value → Shared → Prop}
    (h : wpAny M A (eval value env) (fun v s₁ => wpAny M A (call (.builtin id) (first ++ []) [(name, v)]) Q E s₁) E s) :
    wpAny M A (callWith pos (.builtin id) first (backTo pos (starEach [] env)) (backToKw pos (keywordEach [⟨some name, value, kp⟩] env))) Q E s := by
  refine callWith_builtin_kwB rfl rfl ?_
  exact evalArgs_kw_nil rfl (kws_cons (wpAny_mono h (fun v s₁ h₁ => kws_nil h₁) fun _ _ x => x))
theorem assign2 {prog : Program} {w : World} {env : Env} {a b : Str} {pa pb tp : Pos} {kk : Nat} {T : Addr} {x y : Value} {m : Str → Option Value} {Q : Unit → Shared → Prop} (hh : A.handled = none) (ht : s.heap.IsTuple T #[x, y])
    (ha : env.kindOf a = some .local) (hb : env.kindOf b = some .local) (hp : (env.scope.kind == .class || (env.scope.kind == .module && env.locals != env.globals)) = false) (hn : s.heap.Ns env.locals m)
    (h : ∀ (h' : Heap) (tk : Nat), h'.Ns env.locals (fun q => if q = b then some y else if q = a then some x else m q) → (∀ c o, c ≠ env.locals → s.heap.get? c = some o → h'.get? c = some o) → Q () { s with heap := h', toks := tk }) :
    wpAny (model prog w) A (assign (.Tuple [.Name a pa, .Name b pb] kk tp) env (.ref T)) Q E s := by
  refine wpAny_assign_Tuple hh ht rfl rfl fun h₁ he₁ => ?_
  have hL : env.locals ≠ s.heap.objs.size := Nat.ne_of_lt hn.lt
  have hn₁ : h₁.Ns env.locals m := hn.at' fun o e => he₁ _ o hL e
  have up₁ : ∀ c o, s.heap.get? c = some o → h₁.get? c = some o := fun c o e => he₁ c o (Nat.ne_of_lt (Heap.lt_size e)) e
  show wpAny _ _ (assignInOrder [assign (.Name a pa) env, assign (.Name b pb) env] [x, y]) _ _ _
  refine assignInOrder_cons ?_
  refine wpAny_assign_Name (wpAny_storeName_local ha hn₁ (fun h₂ hn₂ hs₂ => ?_) hp)
  refine assignInOrder_cons ?_
  refine wpAny_assign_Name (wpAny_storeName_local hb hn₂ (fun h₃ hn₃ hs₃ => ?_) hp)
  refine assignInOrder_nil ?_
  exact h h₃ _ hn₃ (fun c o hc e => hs₃.extBut c o hc (hs₂.extBut c o hc (up₁ c o e)))
end
/-- what stands within the first If -/
noncomputable def inIf : List Stmt → List Stmt
  | .If _ b _ _ :: _ => b
  | _ => []
end Mine
end
theorem Mine.start_X2KS : True := by
  w_top off
  trivial
section
open PySem PySem.W PySem.Calls PyProof.Rows
set_option maxRecDepth 100000
set_option maxHeartbeats 8000000
namespace Mine
variable {w : World}
theorem ns_heap2_k {g : Heap} {s : Shared} {Q : Flow → Shared → Prop} {dp un : Nat} {gd : Option (List Code)} {env1 : Env} {mean : ExcName → Option Value} {mg mb : Str → Option Value}
   {oc : Value} {od : Option Addr} {osl : Array (Option Value)} {name qual : Str} {params : Arguments} {body tail : List Stmt} {scope : Scope} {dV kV doc pm cdv ct : Value} {an : Option Addr}
   {L L' c D I l c0 c3 j3 : Nat} {oL cell : Obj} {n : Int} {tn : Tok} {vs : List Value} {S : Nat → Str} {r : Nat → Int} {m : Str → Option Value} {as : List Nat} {f3 : Value}
   (hK : (hd.heap_39 w.params).lookup 76 = some ⟨oc, od, .func (fnOf name qual params body scope dV kV doc pm an cdv ct), osl⟩) (ht : body.drop 5 = tail)
   (X : (hd.heap_39 w.params).In g) (T : Top hd.view_39 (looseW hd.view_39 [Str.ofString "nsmallest", Str.ofString "nlargest"]) mean mg mb g)
   (F : Fr g L' s.heap (fun z => if z = Str.ofString "result" then some (.ref D) else if z = Str.ofString "it" then some (.ref I) else if z = Str.ofString "n" then some (.int n tn) else m z))
   (N : News g L' s.heap [(D, listOf (refs as).toArray c3), (I, litObj f3 j3), (L, oL), (c, cell)]) 
   (hc : c = L' + 1) (hcell : cell.data = .cell (some (.ref 103)))
   (hDI : D ≠ I) (hDL : D ≠ L) (hDc : D ≠ c) (hIL : I ≠ L) (hIc : I ≠ c)
   (hal : as.length = min n.toNat vs.length) (hap : as.Pairwise (· < ·)) (haq : ∀ q ∈ as, q ≠ D ∧ q ≠ I ∧ q ≠ L' ∧ g.get? q = none)
   (hao : ∀ k q, as[k]? = some q → ∃ v t u, vs[k]? = some v ∧ s.heap.get? q = some (tupObj [.str (S k) t, .int k u, v]))
   (hj1 : n.toNat ≤ vs.length → f3 = .ref l ∧ j3 = as.length) (hj2 : vs.length < n.toNat → f3 = .none)
   (hf1 : env1.frame = some L) (hk1 : env1.scope.kind = .function) (hoL : ∀ vs, oL.data ≠ .fields vs) (hcL : c ≠ L) 
   (hdp : dp + 6 < recursionLimit) (hun : un + 360 < cLine)
   (hl : g.get? l = some (listOf vs.toArray c0)) (hN : vs.length < 64) (hN2 : vs.length = 0 ∨ 2 ≤ vs.length) (hn1 : n ≠ 1) (hn0 : -1 ≤ n) (hn : n < 64)
   (hkey : ∀ i v, vs[i]? = some v → PureSpec 3 w 103 [v] (fun t => .str (S i) t))
   (hr : ∀ i j, i < vs.length → j < vs.length → strLt (S i) (S j) = decide (r i < r j)) (hre : ∀ i j, i < vs.length → j < vs.length → (S i = S j ↔ r i = r j))
   (ret : ∀ h' tk' (R : Nat) cc, Stays g h' → h'.get? L = some oL → h'.get? R = some (listOf (((ord r vs.length).take n.toNat).map fun i => vs.getD i Value.none).toArray cc) → g.get? R = none → R ≠ L → Q (.ret (.ref R)) { s with heap := h', toks := tk' }) :
   wpAny (model PySem.Challenge.rw_mq0307_01.row.prog w) ((AR dp un gd [env1]).deeper (envOfC qual scope L' 76 cdv)) (execs tail (envOfC qual scope L' 76 cdv)) Q (fun _ _ => False) s := by
  subst hc
  w_strict (
  revert X
  k_fill
  intro X
  have e := lk_inj hK (by k_is : (hd.heap_39 w.params).lookup 76 = some ⟨_, _, .func (fnOf _ _ _ _ _ _ _ _ _ _ _ _), _⟩)
  injection e with e1 e2 e3 e4
  injection e3 with e3
  injection e3 with e5 e6 e7 e8 e9 e10 e11 e12 e13 e14 e15 e16 e17 e18
  injection e8 with e8
  subst_vars
  clear hK e10 e11
  simp only [List.drop_succ_cons, List.drop_zero]
  (try dsimp only) 
  (try k_fold)
  k_with_none
  have hlD : s.heap.IsList D (refs as).toArray := ⟨_, (N _ (.head _)).1, rfl, c3, rfl⟩
  have hszl : (refs as).toArray.size = as.length := by simp [refs]
  repeat' ((fail_if_success (with_reducible show wpAny _ _ (truthy _) _ _ _)); (first | (k_unfold; (try dsimp only)) | walk1 | (dsimp only; walk1)))
  refine wpAny_truthy_list hlD (by (first | lia | omega)) ?_
  by_cases has : as = []
  · subst has
    rw [if_pos (by rfl)]
    walk1
    walk1
    walk1
    walk1
    (try dsimp only)
    refine ret _ _ D c3 F.keep (N _ (.tail _ (.tail _ (.head _)))).1 ?_ (N _ (.head _)).2.2 hDL
    have e0 : ((ord r vs.length).take n.toNat).map (fun i => vs.getD i Value.none) = [] := by
      have : (ord r vs.length).take n.toNat = [] := by
        rw [List.take_eq_nil_iff]
        have h0 : n.toNat = 0 ∨ vs.length = 0 := by simp at hal; (first | lia | omega)
        rcases h0 with q | q
        · exact .inl q
        · exact .inr (List.eq_nil_of_length_eq_zero (by rw [ord_len, q]))
      rw [this]; rfl
    rw [e0]; exact (N _ (.head _)).1
  have hpos : 0 < as.length := List.length_pos_iff.mpr has
  have hA1 : as.length ≤ vs.length := by rw [hal]; exact Nat.min_le_right _ _
  have hA3 : as.length ≤ n.toNat := by rw [hal]; exact Nat.min_le_left _ _
  have zA4 : Hid (vs.length < n.toNat → as.length = vs.length) := fun q => by rw [hal]; exact Nat.min_eq_right (Nat.le_of_lt q)
  have hA5 : 2 ≤ as.length := by clear hj1 hj2 hDI hDL hDc hIL hIc hcL; (first | lia | omega)
  have hA6 : (as.length : Int) ≤ n := by clear hal hN2 hn1 hj1 hj2 hDI hDL hDc hIL hIc hcL; (first | lia | omega)
  have zal : Hid (as.length = min n.toNat vs.length) := hal
  have zj1 := Hid.mk hj1
  have zj2 := Hid.mk hj2
  clear hal hN2 hn1 hj1 hj2 hA3
  rw [if_neg (by simp [refs, has])]
  (try clear hlD)
  repeat' ((fail_if_success (with_reducible show wpAny _ _ (call (Value.ref _) _ _) _ _ _)); (first | (k_unfold; (try dsimp only)) | walk1 | (dsimp only; walk1)))
  have hT0 : Tups S (fun i tl => ∃ x y v, tl = [x, y, v] ∧ vs[i]? = some v) (fun b => as.idxOf b) (fun b => ((as.idxOf b : Nat) : Int)) as s.heap := by
    intro b hb
    obtain ⟨v, t, u, hv, ho⟩ := hao (as.idxOf b) b (by rw [List.getElem?_eq_getElem (List.idxOf_lt_length_of_mem hb), List.getElem_idxOf])
    exact ⟨t, u, [v], ⟨_, _, v, rfl, hv⟩, ho⟩
  have hix0 : ∀ b ∈ as, as.idxOf b < vs.length := fun b hb => by have := List.idxOf_lt_length_of_mem hb; (first | lia | omega)
  have hinj0 : ∀ a ∈ as, ∀ b ∈ as, as.idxOf a = as.idxOf b → a = b := fun a ha b hb q => by
    have e1 := List.getElem_idxOf (List.idxOf_lt_length_of_mem ha)
    have e2 := List.getElem_idxOf (List.idxOf_lt_length_of_mem hb)
    rw [← e1, ← e2]; simp only [q]
  obtain ⟨tps, Ntp, hTI, hTo⟩ := tps_of hT0 (g := g) (L' := L') fun b hb => (haq b hb).2.2
  have hTD : ∀ p ∈ tps, p.1 ≠ D := fun p hp => (haq _ (hTo p hp)).1
  have hTI2 : ∀ p ∈ tps, p.1 ≠ I := fun p hp => (haq _ (hTo p hp)).2.1
  have N0 : News g L' s.heap ((D, listOf (refs as).toArray c3) :: (I, litObj f3 j3) :: (L, oL) :: (L' + 1, cell) :: tps) := fun p hp => by
    rcases List.mem_append.mp (show p ∈ [(D, listOf (refs as).toArray c3), (I, litObj f3 j3), (L, oL), (L' + 1, cell)] ++ tps from hp) with q | q
    · exact N p q
    · exact Ntp p q
  refine' mutC (L := L) (oL := oL) (heapify_max_spec (as := as) (n := c3) (lt := fun a b => decide (fk r (fun b => as.idxOf b) a < fk r (fun b => as.idxOf b) b)) (by (first | lia | omega))) X T ?u1 ?u2 ?u3 hoL ?u4 ?u5 rfl rfl hf1 hk1 (by (first | lia | omega)) (by (first | lia | omega)) ?u6
  case u1 => exact F
  case u2 => exact N0
  case u3 => exact .tail _ (.head _)
  case u4 =>
    intro p hp
    rcases List.mem_append.mp (show p ∈ [(I, litObj f3 j3), (L, oL), (L' + 1, cell)] ++ tps from hp) with q | q
    · simp only [List.mem_cons, List.not_mem_nil, or_false] at q
      rcases q with rfl | rfl | rfl
      · exact Ne.symm hDI
      · exact Ne.symm hDL
      · exact Ne.symm hDc
    · exact hTD p q
  case u5 => exact cmp_up (N := vs.length) (by (first | lia | omega)) (hTI.tups Ntp hTD) hix0 hinj0 (fun a ha b hb q => by (first | lia | omega)) hr hre
  intro h4 tk4 F4 N4 st4 hsz4
  clear F N N0 Ntp
  have hST := LS.start (N := vs.length) (r := r) (as := as) (ix := fun b => as.idxOf b) (by (first | lia | omega)) (idx_range hap)
  generalize hbs : hfy (fun a b => decide (fk r (fun b => as.idxOf b) a < fk r (fun b => as.idxOf b) b)) (as.length / 2) (as.length / 2) as = bs at *
  have hbp : bs.Perm as := by rw [← hbs]; exact hfy_perm _ (Nat.le_refl _) (by (first | lia | omega))
  have hbl : bs.length = as.length := hbp.length_eq
  have hb0 : 0 < bs.length := by (first | lia | omega)
  have hTb := hTI.sub (cs := bs) fun b hb => hbp.mem_iff.mp hb
  have hod4 : ∀ a ∈ bs, ∀ b ∈ bs, as.idxOf a < as.idxOf b → ((as.idxOf a : Nat) : Int) < ((as.idxOf b : Nat) : Int) := fun a _ b _ q => by (first | lia | omega)
  have hodn : ∀ b ∈ bs, ((as.idxOf b : Nat) : Int) < n := fun b hb => by have := List.idxOf_lt_length_of_mem (hbp.mem_iff.mp hb); (first | lia | omega)
  repeat' ((fail_if_success (with_reducible show wpAny _ _ (call (Value.ref _) _ _) _ _ _)); (fail_if_success (with_reducible show wpAny _ _ (subscriptTail _ _ _ _) _ _ _)); (first | (k_unfold; (try dsimp only)) | walk1 | (dsimp only; walk1)))
  refine item_refs0 (as := bs) N4 (.head _) (by (first | lia | omega)) hb0 ?_
  walk1
  (try dsimp only)
  obtain ⟨tt, tu, ttl, -, htop⟩ := hTb _ (getD0_mem hb0)
  refine item_tup0 (N4 _ (.tail _ (.tail _ (.tail _ (.tail _ htop))))).1 ?_
  clear hT0 hao htop hinj0 hix0
  generalize hIX : (fun b => as.idxOf b) = ix at *
  generalize hOD : (fun b => ((as.idxOf b : Nat) : Int)) = od at *
  replace hod4 : ∀ a ∈ bs, ∀ b ∈ bs, ix a < ix b → od a < od b := by rw [← hIX, ← hOD]; exact hod4
  replace hodn : ∀ b ∈ bs, od b < n := by rw [← hOD]; exact hodn
  clear hIX hOD hbs
  repeat' ((fail_if_success (with_reducible show wpAny _ _ (exec (Stmt.For _ _ _ _ _) _) _ _ _)); (first | (k_unfold; (try dsimp only)) | walk1 | (dsimp only; walk1)))
  rename Fr _ _ _ _ => F5
  rename News _ _ _ _ => N5
  refine' for_lit (it := I) (vs := vs) (fun s' hq => hq) as.length (by (first | lia | omega)) (fun j s' => LoopJ g L' D I l L oL cell 35 false vs.length S (fun i tl => ∃ x y v, tl = [x, y, v] ∧ vs[i]? = some v) r as.length j s s') ?ev ?turn ?fin ?hs
  case hs => (intro _; rfl)
  case ev =>
    walk1
    refine lit_pyIter (N5 _ (.tail _ (.head _))).1 ?_
    refine ⟨rfl, ?_⟩
    unfold LoopJ
    refine ⟨_, _, bs, ix, od, tps, (fun y => if y = Str.ofString "n" then some (.int n tn) else m y), f3, j3, c3, tt, n, tn, rfl, fr_as F5 ?e1, N5, ?e2, hbl, hST, hTb, hTD, hTI2, ?e3, ?e4⟩
    case e1 =>
      intro y
      by_cases h1 : y = Str.ofString "top"
      · subst h1; rfl
      by_cases h2 : y = Str.ofString "order"
      · subst h2; rfl
      by_cases h3 : y = Str.ofString "_heapreplace"
      · subst h3; rfl
      simp only [if_neg h1, if_neg h2, if_neg h3]
    case e2 =>
      rcases Nat.lt_or_ge vs.length n.toNat with q | q
      · exact .inr ⟨zj2.get q, zA4.get q⟩
      · exact .inl (zj1.get q)
    case e3 => intro a ha b hb q; rw [if_neg (by decide)]; exact hod4 a ha b hb q
    case e4 => intro b hb; rw [if_neg (by decide)]; exact hodn b hb
  case turn =>
    rintro j v s' hv ⟨h, tk, bs, ix, od, tps, mm, fv, jj, c, t, o, u, rfl, F, N, hit, hbk, hLS, hTI, hTD, hTI', hmo, hlo⟩ E'
    have hjl : j < vs.length := (List.getElem?_eq_some_iff.mp hv).1
    obtain ⟨rfl, rfl⟩ : fv = .ref l ∧ jj = j := by
      rcases hit with q | q
      · exact q
      · (first | lia | omega)
    clear hit
    have zI := N _ (.tail _ (.head _))
    have hil : h.IsList l vs.toArray := ⟨_, F.keep _ _ hl, rfl, c0, rfl⟩
    refine lit_pyNext (s := { s with heap := h, toks := tk }) zI.1 hil (x := v) (by simpa using hv) fun h1 hi1 hs1 => ⟨rfl, ?_⟩
    have F1 := F.change hs1 zI.2.1 zI.2.2
    have N1 : News g L' h1 ((D, listOf (refs bs).toArray c) :: (I, litObj (.ref l) (jj + 1)) :: (L, oL) :: (L' + 1, cell) :: tps) := fun p hp => by
      have keep : ∀ p : Addr × Obj, p.1 ≠ I → (h.get? p.1 = some p.2 ∧ p.1 ≠ L' ∧ g.get? p.1 = none) → (h1.get? p.1 = some p.2 ∧ p.1 ≠ L' ∧ g.get? p.1 = none) := fun p hp q => ⟨(hs1.2 _ hp).trans q.1, q.2⟩
      rcases List.mem_cons.mp hp with rfl | hp
      · exact keep _ hDI (N _ (.head _))
      rcases List.mem_cons.mp hp with rfl | hp
      · exact ⟨hi1, zI.2⟩
      rcases List.mem_cons.mp hp with rfl | hp
      · exact keep _ (Ne.symm hIL) (N _ (.tail _ (.tail _ (.head _))))
      rcases List.mem_cons.mp hp with rfl | hp
      · exact keep _ (Ne.symm hIc) (N _ (.tail _ (.tail _ (.tail _ (.head _)))))
      · exact keep _ (hTI' p hp) (N p (.tail _ (.tail _ (.tail _ (.tail _ hp)))))
    clear F N F5 N5 zI hil hi1
    repeat' ((fail_if_success (with_reducible show wpAny _ _ (call (Value.ref _) _ _) _ _ _)); (first | (k_unfold; (try dsimp only)) | walk1 | (dsimp only; walk1)))
    rename Fr _ _ _ _ => F2
    rename News _ _ _ _ => N2
    refine' pureC (L := L) (oL := oL) (hkey jj v hv) X T ?t1 ?t2 ?t3 hoL rfl rfl hf1 hk1 (by (first | lia | omega)) (by (first | lia | omega)) ?t4
    case t1 => exact F2
    case t2 => exact N2
    case t3 => exact .tail _ (.tail _ (.head _))
    intro h3 tk3 tk' F3 N3 st3 hsz3
    clear F2 N2
    repeat' ((fail_if_success (with_reducible show wpAny _ _ (compareOp _ _ _) _ _ _)); (first | (k_unfold; (try dsimp only)) | walk1 | (dsimp only; walk1)))
    have hb0' : 0 < bs.length := by (first | lia | omega)
    have hi0 := hLS.ix_lt (getD0_mem hb0')
    show wpAny _ _ (richCompare .Lt _ _) _ _ _
    refine rc_lt_str ?_
    rw [hr jj (ix (bs.getD 0 0)) hjl hi0]
    by_cases hlt : r jj < r (ix (bs.getD 0 0))
    · rw [decide_eq_true hlt]
      repeat' ((fail_if_success (with_reducible show wpAny _ _ (call (Value.ref _) _ _) _ _ _)); (first | (k_unfold; (try dsimp only)) | walk1 | (dsimp only; walk1)))
      rename Fr _ _ _ _ => F6
      rename News _ _ _ _ => N6
      rename_i P _ l1
      have hPt : ∀ p ∈ tps, p.1 < P := fun p hp => allLt_mem l1.2.2.2.2 p hp
      have hPb : P ∉ bs := fun q => by
        obtain ⟨_, _, _, _, hm⟩ := hTI P q
        exact Nat.lt_irrefl _ (hPt _ hm)
      have hmin : ∀ b ∈ bs, b < P := fun b hb => by
        obtain ⟨_, _, _, _, hm⟩ := hTI b hb
        exact hPt _ hm
      have hsw := hLS.swap (by (first | lia | omega)) hb0' hjl hPb hlt
      have hTI6 := hTI.more (cs := P :: bs) (P := P) (j := jj) (o := o) (t := tk') (u := u) (tl := [v]) hPb ⟨_, _, v, rfl, hv⟩ (fun c hc => by
        rcases List.mem_cons.mp hc with q | q
        · exact .inl q
        · exact .inr q)
      generalize hix' : (fun x => if x = P then jj else ix x) = ix' at hsw hTI6
      generalize hod' : (fun x => if x = P then o else od x) = od' at hTI6
      dsimp only at hsw
      have iP : ix' P = jj := by rw [← hix']; exact if_pos rfl
      have ib : ∀ b ∈ bs, ix' b = ix b := fun b hb => by rw [← hix']; exact if_neg (fun (q : b = P) => hPb (q ▸ hb))
      have oP : od' P = o := by rw [← hod']; exact if_pos rfl
      have ob : ∀ b ∈ bs, od' b = od b := fun b hb => by rw [← hod']; exact if_neg (fun (q : b = P) => hPb (q ▸ hb))
      clear hix' hod'
      have hbj : ∀ b ∈ bs, ix b < jj := fun b hb => hLS.best.lt _ (List.mem_map.mpr ⟨b, hb, rfl⟩)
      have hmo6 : ∀ a ∈ P :: bs, ∀ b ∈ P :: bs, ix' a < ix' b → od' a < od' b := fun a ha b hb q => by
        rcases List.mem_cons.mp ha with q1 | h1 <;> rcases List.mem_cons.mp hb with q2 | h2
        · rw [q1, q2] at q; (first | lia | omega)
        · rw [q1, iP, ib b h2] at q; have := hbj b h2; (first | lia | omega)
        · rw [q2, oP, ob a h1]; have := hlo a h1; rw [if_neg (by decide)] at this; exact this
        · rw [ib a h1, ib b h2] at q; rw [ob a h1, ob b h2]; have := hmo a h1 b h2 q; rw [if_neg (by decide)] at this; exact this
      have hinj6 : ∀ a ∈ P :: bs, ∀ b ∈ P :: bs, ix' a = ix' b → a = b := fun a ha b hb q => by
        rcases List.mem_cons.mp ha with q1 | h1 <;> rcases List.mem_cons.mp hb with q2 | h2
        · rw [q1, q2]
        · rw [q1, iP, ib b h2] at q; have := hbj b h2; (first | lia | omega)
        · rw [q2, iP, ib a h1] at q; have := hbj a h1; (first | lia | omega)
        · rw [ib a h1, ib b h2] at q; exact hLS.inj a h1 b h2 q
      have hix6 : ∀ b ∈ P :: bs, ix' b < vs.length := fun b hb => by
        rcases List.mem_cons.mp hb with rfl | hb
        · rw [iP]; exact hjl
        · rw [ib b hb]; have := hbj b hb; (first | lia | omega)
      have N7 : News g L' _ ((D, listOf (refs bs).toArray c) :: (I, litObj (.ref l) (jj + 1)) :: (L, oL) :: (L' + 1, cell) :: (P, tupObj [.str (S jj) tk', .int o u, v]) :: tps) := fun p hp => N6 p (by
        simp only [List.mem_cons] at hp ⊢
        rcases hp with q | q | q | q | q | q
        · exact .inr (.inl q)
        · exact .inr (.inr (.inl q))
        · exact .inr (.inr (.inr (.inl q)))
        · exact .inr (.inr (.inr (.inr (.inl q))))
        · exact .inl q
        · exact .inr (.inr (.inr (.inr (.inr q)))))
      have hD6 : ∀ p ∈ (P, tupObj [.str (S jj) tk', .int o u, v]) :: tps, p.1 ≠ D := fun p hp => by
        rcases List.mem_cons.mp hp with rfl | hp
        · exact Nat.ne_of_gt l1.1
        · exact hTD p hp
      have hI6 : ∀ p ∈ (P, tupObj [.str (S jj) tk', .int o u, v]) :: tps, p.1 ≠ I := fun p hp => by
        rcases List.mem_cons.mp hp with rfl | hp
        · exact Nat.ne_of_gt l1.2.1
        · exact hTI' p hp
      clear N6
      refine' mutC (L := L) (oL := oL) (heapreplace_max_spec (x := P) (as := bs) (n := c) (lt := fun a b => decide (fk r ix' a < fk r ix' b)) (by (first | lia | omega)) hb0') X T ?v1 ?v2 ?v3 hoL ?v4 ?v5 rfl rfl hf1 hk1 (by (first | lia | omega)) (by (first | lia | omega)) ?v6
      case v1 => exact F6
      case v2 => exact N7
      case v3 => exact .tail _ (.head _)
      case v4 =>
        intro p hp
        rcases List.mem_append.mp (show p ∈ [(I, litObj (.ref l) (jj + 1)), (L, oL), (L' + 1, cell)] ++ ((P, tupObj [.str (S jj) tk', .int o u, v]) :: tps) from hp) with q | q
        · simp only [List.mem_cons, List.not_mem_nil, or_false] at q
          rcases q with rfl | rfl | rfl
          · exact Ne.symm hDI
          · exact Ne.symm hDL
          · exact Ne.symm hDc
        · exact hD6 p q
      case v5 =>
        have N7t : News g L' _ ((P, tupObj [.str (S jj) tk', .int o u, v]) :: tps) := fun p hp => N7 p (.tail _ (.tail _ (.tail _ (.tail _ hp))))
        exact cmp_up (N := vs.length) (by (first | lia | omega)) (hTI6.tups N7t hD6) hix6 hinj6 hmo6 hr hre
      intro h8 tk8 F8 N8 st8 hsz8
      clear F6 N7
      obtain ⟨hLS8, hmem8⟩ := hsw
      have hl8 : (sup (fun a b => decide (fk r ix' a < fk r ix' b)) 0 (bs.set 0 P)).length = bs.length := by rw [sup_len (by rw [List.length_set]; exact hb0'), List.length_set]
      generalize sup (fun a b => decide (fk r ix' a < fk r ix' b)) 0 (bs.set 0 P) = cs at *
      have hmem8' : ∀ b ∈ cs, b ∈ P :: bs := fun b hb => by
        rcases hmem8 b hb with rfl | q
        · exact .head _
        · exact .tail _ q
      have hTI8 := hTI6.sub hmem8'
      have hc0' : 0 < cs.length := by (first | lia | omega)
      repeat' ((fail_if_success (with_reducible show wpAny _ _ (subscriptTail _ _ _ _) _ _ _)); (first | (k_unfold; (try dsimp only)) | walk1 | (dsimp only; walk1)))
      refine item_refs0 (as := cs) N8 (.head _) (by (first | lia | omega)) hc0' ?_
      (try dsimp only)
      obtain ⟨t9, u9, tl9, ⟨x9, y9, v9, e9, hv9⟩, hm9⟩ := hTI8 _ (getD0_mem hc0')
      injection e9 with _ e9
      injection e9 with _ e9
      subst e9
      have z9 := (N8 _ (.tail _ (.tail _ (.tail _ (.tail _ hm9))))).1
      refine assign3 rfl ⟨_, z9, rfl, 0, rfl⟩ rfl rfl rfl rfl F8.ns fun h9 tk9 ns9 kp9 => ?_
      have F9 : Fr g L' h9 _ := ⟨ns9, fun b o e => kp9 b o (fun (q : b = L') => by rw [q, no_self F8] at e; cases e) (F8.keep b o e), F8.above⟩
      have N9 : News g L' h9 _ := fun p hp => ⟨kp9 _ _ (N8 p hp).2.1 (N8 p hp).1, (N8 p hp).2⟩
      clear F8 N8 ns9
      repeat' ((fail_if_success (with_reducible show _ ∧ _)); (first | (k_unfold; (try dsimp only)) | walk1 | (dsimp only; walk1)))
      rename Fr _ _ _ _ => F10
      rename News _ _ _ _ => N10
      refine ⟨rfl, ?_⟩
      unfold LoopJ
      refine ⟨_, _, cs, ix', od', (P, tupObj [.str (S jj) tk', .int o u, v]) :: tps, (fun y => if y = Str.ofString "_elem" then some v9 else if y = Str.ofString "_order" then some (.int (od' (cs.getD 0 0)) u9) else if y = Str.ofString "k" then some (.str (S jj) tk') else if y = Str.ofString "elem" then some v else mm y), .ref l, jj + 1, c, t9, o + 1, ?ut, rfl, fr_as F10 ?g1, N10, .inl ⟨rfl, rfl⟩, by (first | lia | omega), hLS8, hTI8, hD6, hI6, ?g2, ?g3⟩
      case g1 =>
        intro y
        by_cases h2 : y = Str.ofString "order"
        · subst h2; exact rfl
        by_cases h1 : y = Str.ofString "top"
        · subst h1; rfl
        by_cases h3 : y = Str.ofString "_elem"
        · subst h3; rfl
        by_cases h4 : y = Str.ofString "_order"
        · subst h4; rfl
        by_cases h5 : y = Str.ofString "k"
        · subst h5; rfl
        by_cases h6 : y = Str.ofString "elem"
        · subst h6; rfl
        simp only [if_neg h1, if_neg h2, if_neg h3, if_neg h4, if_neg h5, if_neg h6]
      case g2 =>
        intro a ha b hb q
        rw [if_neg (by decide)]
        exact hmo6 a (hmem8' a ha) b (hmem8' b hb) q
      case g3 =>
        intro b hb
        rw [if_neg (by decide)]
        rcases List.mem_cons.mp (hmem8' b hb) with q | q
        · rw [q, oP]; (first | lia | omega)
        · rw [ob b q]
          have := hlo b q
          rw [if_neg (by decide)] at this
          (first | lia | omega)
    · rw [decide_eq_false hlt]
      repeat' ((fail_if_success (with_reducible show wpAny _ _ (call (Value.ref _) _ _) _ _ _)); (fail_if_success (with_reducible show _ ∧ _)); (first | (k_unfold; (try dsimp only)) | walk1 | (dsimp only; walk1)))
      rename Fr _ _ _ _ => F6
      rename News _ _ _ _ => N6
      refine ⟨rfl, ?_⟩
      unfold LoopJ
      refine ⟨_, _, bs, ix, od, tps, (fun y => if y = Str.ofString "k" then some (.str (S jj) tk') else if y = Str.ofString "elem" then some v else mm y), .ref l, jj + 1, c, t, o, u, rfl, fr_as F6 ?_, N6, .inl ⟨rfl, rfl⟩, hbk, hLS.keep (by (first | lia | omega)) hb0' hjl hlt, hTI, hTD, hTI', hmo, hlo⟩
      intro y
      by_cases h1 : y = Str.ofString "k"
      · subst h1; rfl
      by_cases h2 : y = Str.ofString "elem"
      · subst h2; rfl
      simp only [if_neg h1, if_neg h2]
  case fin =>
    rintro s' ⟨h, tk, bs, ix, od, tps, mm, fv, jj, c, t, o, u, rfl, F, N, hit, hbk, hLS, hTI, hTD, hTI', hmo, hlo⟩ E'
    have zI := N _ (.tail _ (.head _))
    have go : ∀ h1 jj', LIt h1 I .none jj' → (∀ b o, b ≠ I → h.get? b = some o → h1.get? b = some o) → Fr g L' h1 _ ∧ News g L' h1 ((D, listOf (refs bs).toArray c) :: (I, litObj .none jj') :: (L, oL) :: (L' + 1, cell) :: tps) := fun h1 jj' hi1 hk1' => by
      obtain ⟨oo, es, ep, ho, rr⟩ := F.ns
      refine ⟨⟨⟨oo, es, ep, hk1' _ _ (fun (q : L' = I) => zI.2.1 q.symm) ho, rr⟩, fun b x e => hk1' b x (fun q => by rw [q, zI.2.2] at e; cases e) (F.keep b x e), F.above⟩, fun p hp => ?_⟩
      have keep : ∀ p : Addr × Obj, p.1 ≠ I → (h.get? p.1 = some p.2 ∧ p.1 ≠ L' ∧ g.get? p.1 = none) → (h1.get? p.1 = some p.2 ∧ p.1 ≠ L' ∧ g.get? p.1 = none) := fun p hp q => ⟨hk1' _ _ hp q.1, q.2⟩
      rcases List.mem_cons.mp hp with rfl | hp
      · exact keep _ hDI (N _ (.head _))
      rcases List.mem_cons.mp hp with rfl | hp
      · exact ⟨hi1, zI.2⟩
      rcases List.mem_cons.mp hp with rfl | hp
      · exact keep _ (Ne.symm hIL) (N _ (.tail _ (.tail _ (.head _))))
      rcases List.mem_cons.mp hp with rfl | hp
      · exact keep _ (Ne.symm hIc) (N _ (.tail _ (.tail _ (.tail _ (.head _)))))
      · exact keep _ (hTI' p hp) (N p (.tail _ (.tail _ (.tail _ (.tail _ hp)))))
    have hil : h.IsList l vs.toArray := ⟨_, F.keep _ _ hl, rfl, c0, rfl⟩
    refine lit_fin (s := { s with heap := h, toks := tk }) rfl rfl hit zI.1 hil fun h1 jj' hi1 hk1' hsz1 => ⟨rfl, ?_⟩
    obtain ⟨F1, N1⟩ := go h1 jj' hi1 hk1'
    clear F N zI go hil F5 N5 hit
    repeat' ((fail_if_success (with_reducible show wpAny _ _ (call (Value.builtin _) _ _) _ _ _)); (fail_if_success (with_reducible show wpAny _ _ (call (Value.ref _) _ _) _ _ _)); (first | (k_unfold; (try dsimp only)) | walk1 | (dsimp only; walk1)))
    have hmo' : ∀ a ∈ bs, ∀ b ∈ bs, ix a < ix b → od a < od b := fun a ha b hb q => by have := hmo a ha b hb q; rw [if_neg (by decide)] at this; exact this
    have Nt : News g L' h1 tps := fun p hp => N1 p (.tail _ (.tail _ (.tail _ (.tail _ hp))))
    have hb2 : 2 ≤ bs.length := by (first | lia | omega)
    refine sort_tups (D := D) (bs := bs) (rs := fk r ix) (b := false) (kw := []) (N1 _ (.head _)).1 hb2 (by (first | lia | omega)) (hTI.tups Nt hTD) (nodup_of_map hLS.best.nodup) (od_ne hLS.inj fun a ha b hb q => by have := hmo' a ha b hb q; (first | lia | omega)) (fun a ha b hb => tupLt_up (N := vs.length) (by (first | lia | omega)) (fun b hb => hLS.ix_lt hb) hLS.inj hmo' hr hre ha hb) (fk_ne (N := vs.length) (by (first | lia | omega)) (fun b hb => hLS.ix_lt hb) hLS.inj) ?so1 (nk_1 D) fun h2 tk2 cs c2 hcp hcs hl2 hk2 hsz2 => ?_
    case so1 => (unfold argsOk; kernel_rfl)
    have F2 := fr_but F1 hk2 (N1 _ (.head _)).2.1 (N1 _ (.head _)).2.2
    have N2 : News g L' h2 ((D, listOf (refs cs).toArray c2) :: (L, oL) :: (L' + 1, cell) :: tps) := fun p hp => by
      rcases List.mem_cons.mp hp with rfl | hp
      · exact ⟨hl2, (N1 _ (.head _)).2⟩
      rcases List.mem_cons.mp hp with rfl | hp
      · have z := N1 _ (.tail _ (.tail _ (.head _)))
        exact ⟨hk2 _ _ (Ne.symm hDL) z.1, z.2⟩
      rcases List.mem_cons.mp hp with rfl | hp
      · have z := N1 _ (.tail _ (.tail _ (.tail _ (.head _))))
        exact ⟨hk2 _ _ (Ne.symm hDc) z.1, z.2⟩
      · exact ⟨hk2 _ _ (hTD p hp) (Nt p hp).1, (Nt p hp).2⟩
    have hcl : cs.length = bs.length := hcp.length_eq
    have hfin := hLS.fin (by (first | lia | omega)) hcp (hcs.imp fun {a b} q => by rw [if_neg (by decide)] at q; exact q)
    have hTc := hTI.sub (cs := cs) fun b hb => hcp.mem_iff.mp hb
    clear F1 N1 Nt
    dsimp only
    walk1
    walk1
    refine' eval_comp (cl := []) ?cl2 rfl ?nm2 ?_ ?hs2
    case cl2 => with_unfolding_all rfl
    case nm2 => decide +kernel
    case hs2 => (intro _; rfl)
    walk1
    have hout : (List.range cs.length).map (fun k => vs.getD (ix (cs.getD k 0)) Value.none) = ((ord r vs.length).take n.toNat).map (fun i => vs.getD i Value.none) := by
      have e1 : (List.range cs.length).map (fun k => vs.getD (ix (cs.getD k 0)) Value.none) = ((List.range cs.length).map (fun k => cs.getD k 0)).map (fun b => vs.getD (ix b) Value.none) := by rw [List.map_map]; rfl
      have e2 : cs.map (fun b => vs.getD (ix b) Value.none) = (cs.map ix).map (fun i => vs.getD i Value.none) := by rw [List.map_map]; rfl
      rw [e1, range_map_getD, e2, hfin]
      congr 1
      rw [hbk, zal.get]
      rw [List.take_eq_take_iff, ord_len]
      (first | lia | omega)
    have hDs := (N2 _ (.head _)).1
    refine' comp_tups (s := { s with heap := h2, toks := tk2 }) (l := D) (as := cs) (c0 := c2) (fun k => vs.getD (ix (cs.getD k 0)) Value.none) ?c1 ?c2 ?c3 ?c4 ?c5 ?c6 ?c7
    case c1 => rfl
    case c2 => exact hDs
    case c3 => (first | lia | omega)
    case c4 => decide +kernel
    case c5 => rfl
    case c6 =>
      intro k a h5 tk5 m5 hka hns5 st5 Q5 E5 hQ5
      obtain ⟨t9, u9, tl9, ⟨x9, y9, v9, e9, hv9⟩, hm9⟩ := hTc a (List.mem_of_getElem? hka)
      injection e9 with _ e9
      injection e9 with _ e9
      subst e9
      have z9 := st5 _ _ (N2 _ (.tail _ (.tail _ (.tail _ hm9)))).1
      refine assign3 (s := { s with heap := h5, toks := tk5 }) rfl ⟨_, z9, rfl, 0, rfl⟩ rfl rfl rfl rfl hns5 fun h6 tk6 ns6 kp6 => ?_
      refine wpAny_Name (wpAny_loadName_local rfl rfl ns6 (v := v9) rfl ?_) (by decide)
      have ek : cs.getD k 0 = a := by rw [List.getD_eq_getElem?_getD, hka]; rfl
      have ev : vs.getD (ix (cs.getD k 0)) Value.none = v9 := by rw [ek, List.getD_eq_getElem?_getD, hv9]; rfl
      have := hQ5 h6 tk6 _ ns6 kp6
      rw [ev] at this
      exact this
    case c7 =>
      intro h7 tk7 mC c7 hnC hl7 st7
      refine post_eval (s := { s with heap := h2, toks := tk2 }) hnC fun h8 hk8 hsz8 => ?_
      rw [hout] at hl7
      have hsz : ∀ b o, h2.get? b = some o → b ≠ h2.objs.size + 2 := fun b o e => neN (by have := ltN (Heap.lt_size e); (first | lia | omega))
      refine ret h8 _ _ c7 (fun b o e => hk8 _ _ (hsz _ _ (F2.keep _ _ e)) (st7 _ _ (F2.keep _ _ e))) (hk8 _ _ (hsz _ _ (N2 _ (.tail _ (.head _))).1) (st7 _ _ (N2 _ (.tail _ (.head _))).1)) (hk8 _ _ (neN (by (first | lia | omega))) hl7) ?_ ?_
      · cases q : g.get? (h2.objs.size + 1) with
        | none => rfl
        | some o => have := ltN (Heap.lt_size (F2.keep _ _ q)); (first | lia | omega)
      · have h0 : L < h2.objs.size := Heap.lt_size (N2 (L, oL) (.tail _ (.head _))).1
        refine neN ?_
        dsimp only
        (first | lia | omega)
  )
end Mine
end
theorem Mine.start_X1KS : True := by
  w_top off
  trivial
section
open PySem PySem.W PySem.Calls PyProof.Rows
set_option maxRecDepth 100000
set_option maxHeartbeats 8000000
namespace Mine
variable {w : World}
theorem ns_heap_k {g : Heap} {s : Shared} {Q : Flow → Shared → Prop} {dp un : Nat} {gd : Option (List Code)} {env1 : Env} {mean : ExcName → Option Value} {mg mb : Str → Option Value}
   {oc : Value} {od : Option Addr} {osl : Array (Option Value)} {name qual : Str} {params : Arguments} {body tail : List Stmt} {scope : Scope} {dV kV doc pm cdv ct : Value} {an : Option Addr}
   {L L' c src l c0 : Nat} {oL cell : Obj} {n : Int} {tn : Tok} {vs : List Value} {S : Nat → Str} {r : Nat → Int} {rest : List (Addr × Obj)} {m : Str → Option Value}
   (hK : (hd.heap_39 w.params).lookup 76 = some ⟨oc, od, .func (fnOf name qual params body scope dV kV doc pm an cdv ct), osl⟩) (ht : body.drop 2 = tail)
   (X : (hd.heap_39 w.params).In g) (T : Top hd.view_39 (looseW hd.view_39 [Str.ofString "nsmallest", Str.ofString "nlargest"]) mean mg mb g)
   (F : Fr g L' s.heap (fun y => if y = Str.ofString "iterable" then some (.ref src) else if y = Str.ofString "n" then some (.int n tn) else m y)) (N : News g L' s.heap ((L, oL) :: (c, cell) :: rest)) 
   (hc : c = L' + 1) (hcell : cell.data = .cell (some (.ref 103)))
   (hf1 : env1.frame = some L) (hk1 : env1.scope.kind = .function) (hoL : ∀ vs, oL.data ≠ .fields vs) (hcL : c ≠ L) 
   (hdp : dp + 6 < recursionLimit) (hun : un + 360 < cLine)
   (hl : g.get? l = some (listOf vs.toArray c0)) (hN : vs.length < 64) (hN2 : vs.length = 0 ∨ 2 ≤ vs.length) (hn1 : n ≠ 1) (hn0 : -1 ≤ n) (hn : n < 64)
   (hkey : ∀ i v, vs[i]? = some v → PureSpec 3 w 103 [v] (fun t => .str (S i) t))
   (hr : ∀ i j, i < vs.length → j < vs.length → strLt (S i) (S j) = decide (r i < r j)) (hre : ∀ i j, i < vs.length → j < vs.length → (S i = S j ↔ r i = r j))
   (hsrc : ∀ (A : Around) (Q E : Value → Shared → Prop) tk, (∀ h' (I : Nat), Fr g L' h' (fun y => if y = Str.ofString "iterable" then some (.ref src) else if y = Str.ofString "n" then some (.int n tn) else m y) → News g L' h' [(L, oL), (c, cell), (I, litObj (.ref l) 0)] → I ≠ L → I ≠ c → s.heap.objs.size ≤ h'.objs.size → Q (.ref I) { s with heap := h', toks := tk }) →
     wpAny (model PySem.Challenge.rw_mq0307_01.row.prog w) A (call (.builtin "iter") [.ref src]) Q E { s with toks := tk })
   (ret : ∀ h' tk' (R : Nat) cc, Stays g h' → h'.get? L = some oL → h'.get? R = some (listOf (((ord r vs.length).take n.toNat).map fun i => vs.getD i Value.none).toArray cc) → g.get? R = none → R ≠ L → Q (.ret (.ref R)) { s with heap := h', toks := tk' }) :
   wpAny (model PySem.Challenge.rw_mq0307_01.row.prog w) ((AR dp un gd [env1]).deeper (envOfC qual scope L' 76 cdv)) (execs tail (envOfC qual scope L' 76 cdv)) Q (fun _ _ => False) s := by
  subst hc
  w_strict (
  revert X
  k_fill
  intro X
  have e := lk_inj hK (by k_is : (hd.heap_39 w.params).lookup 76 = some ⟨_, _, .func (fnOf _ _ _ _ _ _ _ _ _ _ _ _), _⟩)
  injection e with e1 e2 e3 e4
  injection e3 with e3
  injection e3 with e5 e6 e7 e8 e9 e10 e11 e12 e13 e14 e15 e16 e17 e18
  injection e8 with e8
  subst_vars
  clear hK e10 e11
  simp only [List.drop_succ_cons, List.drop_zero]
  (try dsimp only) 
  (try k_fold)
  k_with_none
  repeat' ((fail_if_success (with_reducible show wpAny _ _ (call (Value.ref _) _ _) _ _ _)); (fail_if_success (with_reducible show wpAny _ _ (call (Value.builtin _) _ _) _ _ _));  (first | (k_unfold; (try dsimp only)) | walk1 | (dsimp only; walk1)))
  refine hsrc _ _ _ _ fun h1 I F1 N1 hIL hIc hsz1 => ?_
  clear F N
  repeat' ((fail_if_success (with_reducible show wpAny _ _ (exec (Stmt.Assign _ (PySem.Expr.ListComp _ _ _ _) _) _) _ _ _)); walk1)
  refine' exec_assign_comp (cl := [(Str.ofString "key", L' + 1)]) ?sw ?cl rfl ?nm ?_ ?hs
  case sw => with_unfolding_all rfl
  case cl => with_unfolding_all rfl
  case nm => decide +kernel
  case hs => (intro _; rfl)
  repeat' ((fail_if_success (with_reducible show wpAny _ _ (call (Value.type "zip") _ _) _ _ _));  (first | (k_unfold; (try dsimp only)) | walk1 | (dsimp only; walk1)))
  rename_i a1 F2 N2 a4
  refine' zip_comp (L := L) (oL := oL) (cA := L' + 1) (cell := cell) (l := l) (c0 := c0) (vs := vs) (g := g) (fun k o => ∃ v t u, vs[k]? = some v ∧ o = tupObj [.str (S k) t, .int k u, v]) ?q0 ?z1 ?z2 ?y1 ?y2 ?y3 hIL hIc hl ?q1 ?q2 ?q3 ?z3 ?q4 ?q5 ?q6 ?z4 ?z5
  case q0 => rfl
  case y1 => exact a1
  case y2 => exact F2
  case y3 => exact N2
  case q1 => rfl
  case q2 => rfl
  case q3 => rfl
  case q4 => rfl
  case q5 => rfl
  case q6 => rfl
  case z1 => exact small_up hn0 hn
  case z2 => (rw [rs_up]; split <;> (first | lia | omega))
  case z3 => decide +kernel
  case z4 =>
    intro C k v h tk mC u hk hv hnC hi he stg hnL hhL hhc Q' E' hQ'
    walk1
    walk1
    walk1
    refine wpAny_Name (wpAny_loadName_cell rfl rfl rfl ⟨cell, hhc, hcell⟩ ?_) (by decide)
    walk1
    walk1
    refine wpAny_Name (wpAny_loadName_local rfl rfl hnC he ?_) (by decide)
    walk1
    (try dsimp only)
    refine ⟨X.keeps stg, ?_⟩
    have hgL' : g.get? L' = none := by
      cases q : g.get? L' with
      | none => rfl
      | some o => exact absurd (Nat.lt_of_lt_of_le (Heap.lt_size q) F2.above) (Nat.lt_irrefl _)
    refine hkey k v hv _ _ _ _ (gr_of X T stg hgL' hnL hhL hoL (N2 _ (.head _)).2.2 rfl rfl hf1 hk1 (by (first | lia | omega)) (by (first | lia | omega))) fun h2 tk2 t st2 hsz2 => ?_
    walk1
    refine wpAny_Name (wpAny_loadName_local rfl rfl (hnC.keeps st2) hi ?_) (by decide)
    walk1
    refine wpAny_Name (wpAny_loadName_local rfl rfl (hnC.keeps st2) he ?_) (by decide)
    walk1
    refine wpAny_newObj_type (hQ' _ _ _ _ (fun b o e => Heap.get?_push_of_some _ (st2 b o e)) hsz2 (Heap.get?_push_size _ rfl) ⟨v, t, u, hv, ?_⟩)
    have e0 : (0 : Int) + (k : Int) * 1 = k := by (first | lia | omega)
    rw [e0]; rfl
  case z5 =>
    intro h3 tk3 as D c3 f3 j3 F3 N3 hDI hDL hDc hal hap haq hao hj1 hj2
    have hrs : (Builtin.Range.rangeSize 0 n 1).toNat = n.toNat := by rw [rs_up]; split <;> (first | lia | omega)
    have hgs : ∀ q ∈ as, q ≠ I ∧ q ≠ L' ∧ g.get? q = none := fun q hq => by
      have h0 := (haq q hq).1
      dsimp only at h0
      have i1 : I < _ := ltN (Heap.lt_size (N2 (I, litObj (.ref l) 0) (.tail _ (.tail _ (.head _)))).1)
      have i2 := ltN F2.ns.lt
      refine ⟨neN (by (first | lia | omega)), neN (by (first | lia | omega)), ?_⟩
      cases q' : g.get? q with
      | none => rfl
      | some o => have := ltN (Heap.lt_size (F2.keep _ _ q')); (first | lia | omega)
    clear F2 N2 a1 a4 
    refine' ns_heap2_k (w := w) (L := L) (L' := L') (c := L' + 1) (D := D) (I := I) (l := l) (c0 := c0) (c3 := c3) (j3 := j3) (oL := oL) (cell := cell) (n := n) (tn := tn) (vs := vs) (S := S) (r := r) (m := fun y => if y = Str.ofString "iterable" then some (.ref src) else m y) (as := as) (f3 := f3) ?w1 ?w2 X T ?w3 N3 rfl hcell hDI hDL hDc hIL hIc ?w4 hap ?w5 ?w6 ?w7 ?w8 hf1 hk1 hoL hcL hdp hun hl hN hN2 hn1 hn0 hn hkey hr hre ?w9
    case w1 => k_is
    case w2 => rfl
    case w3 =>
      refine fr_as F3 fun y => ?_
      by_cases h1 : y = Str.ofString "result"
      · subst h1; rfl
      by_cases h2 : y = Str.ofString "it"
      · subst h2; rfl
      by_cases h3 : y = Str.ofString "iterable"
      · subst h3; rfl
      simp only [if_neg h1, if_neg h2, if_neg h3]
    case w4 => rw [hal, hrs]
    case w5 => exact fun q hq => ⟨(haq q hq).2, hgs q hq⟩
    case w6 =>
      intro k q hq
      obtain ⟨o, ho, v, t, u, hv, rfl⟩ := hao k q hq
      exact ⟨v, t, u, hv, ho⟩
    case w7 => exact fun q => hj1 (by have := rs_up (n := n); split at this <;> (first | lia | omega))
    case w8 => exact fun q => hj2 (by have := rs_up (n := n); split at this <;> (first | lia | omega))
    case w9 => exact fun h' tk' R cc a b c d e => ret h' tk' R cc a b c d e
  )
end Mine
end
theorem Mine.start_X3KS : True := by
  w_top off
  trivial
section
open PySem PySem.W PySem.Calls PyProof.Rows
set_option maxRecDepth 100000
set_option maxHeartbeats 8000000
namespace Mine
variable {w : World}
theorem ns_list_k {g : Heap} {s : Shared} {Q : Flow → Shared → Prop} {dp un : Nat} {gd : Option (List Code)} {env1 : Env} {mean : ExcName → Option Value} {mg mb : Str → Option Value}
   {oc : Value} {od : Option Addr} {osl : Array (Option Value)} {name qual : Str} {params : Arguments} {body tail tail2 : List Stmt} {scope : Scope} {dV kV doc pm cdv ct : Value} {an : Option Addr}
   {L L' c l c0 : Nat} {oL cell : Obj} {n : Int} {tn : Tok} {vs : List Value} {S : Nat → Str} {r : Nat → Int} {m : Str → Option Value}
   (hK : (hd.heap_39 w.params).lookup 76 = some ⟨oc, od, .func (fnOf name qual params body scope dV kV doc pm an cdv ct), osl⟩) (ht : body.drop 1 = tail)
   (X : (hd.heap_39 w.params).In g) (T : Top hd.view_39 (looseW hd.view_39 [Str.ofString "nsmallest", Str.ofString "nlargest"]) mean mg mb g)
   (F : Fr g L' s.heap (fun y => if y = Str.ofString "iterable" then some (.ref l) else if y = Str.ofString "n" then some (.int n tn) else m y)) (N : News g L' s.heap [(L, oL), (c, cell)]) 
   (hc : c = L' + 1) (hcell : cell.data = .cell (some (.ref 103)))
   (hf1 : env1.frame = some L) (hk1 : env1.scope.kind = .function) (hoL : ∀ vs, oL.data ≠ .fields vs) (hcL : c ≠ L) 
   (hdp : dp + 8 < recursionLimit) (hun : un + 480 < cLine)
   (hl : g.get? l = some (listOf vs.toArray c0)) (hN : vs.length < 64) (hN2 : 2 ≤ vs.length) (hn0 : -1 ≤ n) (hn : n < 64)
   (hkey : ∀ i v, vs[i]? = some v → PureSpec 3 w 103 [v] (fun t => .str (S i) t))
   (hr : ∀ i j, i < vs.length → j < vs.length → strLt (S i) (S j) = decide (r i < r j))
   (ht2 : body.drop 2 = tail2)
   (k : n < vs.length → ∀ h' tk' ts, Fr g L' h' (fun y => if y = Str.ofString "iterable" then some (.ref l) else if y = Str.ofString "n" then some (.int n tn) else if y = Str.ofString "size" then some (.int vs.length ts) else m y) → News g L' h' [(L, oL), (c, cell)] →
     wpAny (model PySem.Challenge.rw_mq0307_01.row.prog w) ((AR dp un gd [env1]).deeper (envOfC qual scope L' 76 cdv)) (execs tail2 (envOfC qual scope L' 76 cdv)) Q (fun _ _ => False) { s with heap := h', toks := tk' })
   (ret : ∀ h' tk' (R : Nat) cc, Stays g h' → h'.get? L = some oL → h'.get? R = some (listOf (((ord r vs.length).take n.toNat).map fun i => vs.getD i Value.none).toArray cc) → g.get? R = none → R ≠ L → Q (.ret (.ref R)) { s with heap := h', toks := tk' }) :
   wpAny (model PySem.Challenge.rw_mq0307_01.row.prog w) ((AR dp un gd [env1]).deeper (envOfC qual scope L' 76 cdv)) (execs tail (envOfC qual scope L' 76 cdv)) Q (fun _ _ => False) s := by
  subst hc
  w_strict (
  revert X
  k_fill
  intro X
  have e := lk_inj hK (by k_is : (hd.heap_39 w.params).lookup 76 = some ⟨_, _, .func (fnOf _ _ _ _ _ _ _ _ _ _ _ _), _⟩)
  injection e with e1 e2 e3 e4
  injection e3 with e3
  injection e3 with e5 e6 e7 e8 e9 e10 e11 e12 e13 e14 e15 e16 e17 e18
  injection e8 with e8
  subst_vars
  clear hK e10 e11
  simp only [List.drop_succ_cons, List.drop_zero]
  (try dsimp only) 
  (try k_fold)
  k_with_none
  walk1
  refine wpAny_Try_except ?_
  repeat' ((fail_if_success (with_reducible show wpAny _ _ (call (Value.ref _) _ _) _ _ _)); (fail_if_success (with_reducible show wpAny _ _ (call (Value.builtin _) _ _) _ _ _));  (first | (k_unfold; (try dsimp only)) | walk1 | (dsimp only; walk1)))
  have hil : s.heap.IsList l vs.toArray := ⟨_, F.keep _ _ hl, rfl, c0, rfl⟩
  refine len_list hil (by simp only [List.size_toArray]; (first | lia | omega)) ?_
  clear hil
  repeat' ((fail_if_success (with_reducible show wpAny _ _ (truthy _) _ _ _)); (fail_if_success (with_reducible show wpAny _ _ (call (Value.builtin _) _ _) _ _ _));  (first | (k_unfold; (try dsimp only)) | walk1 | (dsimp only; walk1)))
  rename Fr _ _ _ _ => F1
  rename News _ _ _ _ => N1
  rename Heap => h1
  refine wpAny_truthy_bool ?_
  by_cases hge : (vs.length : Int) ≤ n
  · rw [if_pos (by simpa using hge)]
    repeat' ((fail_if_success (with_reducible show wpAny _ _ (call (Value.builtin _) _ _) _ _ _));  (first | (k_unfold; (try dsimp only)) | walk1 | (dsimp only; walk1)))
    show wpAny _ _ (call (Value.builtin "sorted") [Value.ref l] [(Str.ofString "key", .ref 103)]) _ _ _
    have szl : ∀ b o, h1.get? b = some o → b < h1.objs.size := fun b o e => Heap.lt_size e
    refine sorted_call (vs := vs) (tree := fun x => ksk_tree x (.ref 103) false) ⟨_, F1.keep _ _ hl, rfl, c0, rfl⟩ hN ?s2 ?s3 ?s4 ?_
    case s2 => (unfold argsOk; kernel_rfl)
    case s3 => (intro x; unfold argsOk; kernel_rfl)
    case s4 => exact fun x => ksk_t1 103 x
    intro D h2 hD hDl st2 hsz2
    dsimp only at hD st2 hsz2 ⊢
    have neD : ∀ b o, h1.get? b = some o → b ≠ D := fun b o e q => by have := ltN (szl b o e); rw [q, hD] at this; (first | lia | omega)
    have hDg : g.get? D = none := by
      cases q : g.get? D with
      | none => rfl
      | some o => exact absurd rfl (neD _ _ (F1.keep _ _ q))
    have hDL' : D ≠ L' := fun q => by obtain ⟨o, _, _, ho, _⟩ := F1.ns; exact neD _ _ ho q.symm
    refine kk_sort (b := false) (S := S) (r := r) hDl hN2 hN ?key hr ?fin
    case key =>
      intro i v hv h3 tk3 Q' E' hk3 hQ'
      have up : Stays h1 h3 := fun b o e => hk3 b o (neD b o e) (st2 b o e)
      exact hkey i v hv _ _ Q' E' (Gr.in1 (Gr.in1 (gr_of (k := 5) X T (fun b o e => up b o (F1.keep b o e)) (no_self F1) (F1.ns.keeps up) (up _ _ (N1 _ (.head _)).1) hoL (N1 _ (.head _)).2.2 rfl rfl hf1 hk1 (by (first | lia | omega)) (by (first | lia | omega))))) fun h' tk' t a b => hQ' h' tk' t a b
    case fin =>
      intro h3 tk3 q c3 hqp hqs hl3 hk3 hsz3
      refine ⟨rfl, ?_⟩
      have eq : q = ord r vs.length := ord_unique hqp hqs
      have up : Stays h1 h3 := fun b o e => hk3 b o (neD b o e) (st2 b o e)
      have F3 : Fr g L' h3 _ := ⟨F1.ns.keeps up, fun b o e => up b o (F1.keep b o e), F1.above⟩
      have N3 : News g L' h3 [(D, listOf (q.map fun i => vs.getD i Value.none).toArray c3), (L, oL), (L' + 1, cell)] := fun p hp => by
        rcases List.mem_cons.mp hp with rfl | hp
        · exact ⟨hl3, hDL', hDg⟩
        · exact ⟨up _ _ (N1 p hp).1, (N1 p hp).2⟩
      clear F1 N1
      repeat' ((fail_if_success (with_reducible show wpAny _ _ (subscriptTail _ _ _ _) _ _ _));  (first | (k_unfold; (try dsimp only)) | walk1 | (dsimp only; walk1)))
      refine kba_turn (value' := PySem.Expr.Name (Str.ofString "x") ⟨0, 0, 0, 0⟩) (fun _ => rfl) ?_
      refine kmk_slice (s := { s with heap := h3, toks := tk3 }) (lo := none) (hi := some n) F3 N3 ⟨_, (N3 _ (.head _)).1, rfl, c3, rfl⟩ IsPart.none (IsPart.int _ _) ?sl ?su (fun _ => rfl) ?sz
      case su => with_unfolding_all rfl
      case sz => (rw [List.size_toArray, List.length_map, hqp.length_eq, List.length_range, sizeLine_eq]; (first | lia | omega))
      intro D2 h4 F4 N4 hlt4
      have e4 : slicePick (q.map fun i => vs.getD i Value.none).toArray none (some n) none = (((ord r vs.length).take n.toNat).map fun i => vs.getD i Value.none).toArray := by
        have en : n = ((n.toNat : Nat) : Int) := by (first | lia | omega)
        rw [en, slicePick_upto', Int.toNat_natCast, eq, List.map_take]
      have z := N4 _ (.head _)
      rw [e4] at z
      exact ret h4 _ D2 _ F4.keep (N4 _ (.tail _ (.tail _ (.head _)))).1 z.1 z.2.2 (Nat.ne_of_gt (hlt4 (L, oL) (.tail _ (.head _))))
  · rw [if_neg (by simpa using hge)]
    repeat' ((fail_if_success (with_reducible show wpAny _ _ (execs (_ :: _) _) _ _ _)); (first | (k_unfold; (try dsimp only)) | walk1 | (dsimp only; walk1)))
    refine' k (by (first | lia | omega)) h1 tk ?ts (fr_as F1 ?fa) N1
    case fa =>
      intro y
      by_cases h1 : y = Str.ofString "size"
      · subst h1; exact rfl
      by_cases h2 : y = Str.ofString "iterable"
      · subst h2; rfl
      by_cases h3 : y = Str.ofString "n"
      · subst h3; rfl
      simp only [if_neg h1, if_neg h2, if_neg h3]
  )
end Mine
end
theorem Mine.start_B1 : True := by
  w_top off
  trivial
section
open PySem PySem.W PySem.Calls PyProof.Rows
set_option maxRecDepth 100000
set_option maxHeartbeats 4000000
namespace Mine
theorem mro_object : mroOf (.type "object") = pure [.type "object"] := by rw [mroOf_type]; kernel_rfl
theorem lookup_object_new : typeLookup (.type "object") "__new__" = pure (some (.builtin "object.__new__")) := by rw [typeLookup_type, builtinLookup_eq_fast]; kernel_rfl
theorem slot_object_init : Slot "object" "__init__" "object.__init__" :=
  .of (owner := "object") (n := "__init__") (by rw [typeLookup_type, builtinLookup_eq_fast]; kernel_rfl) (by decide +kernel) (by decide +kernel) (by decide +kernel)
    (by first | exact .inl (by decide +kernel) | exact .inr (by decide +kernel)) (by rw [isSubtype_type]; kernel_rfl)
theorem called_object : TypeCalled "object" "object.__new__" "object.__init__" where
  notType := by decide +kernel
  canCreate := by decide +kernel
  mro := ⟨_, _, mro_object⟩
  made := madeBy_type mro_object lookup_object_new (by decide +kernel)
  plain := by decide +kernel
  sub := by rw [isSubtype_type]; kernel_rfl
  init := slot_object_init
theorem entry_object_new : entryFor table "object.__new__" = some Builtin.«object.__new__» := entryFor_of_tree (by kernel_rfl)
theorem tree_object_new : Builtin.«object.__new__» ⟨[.type "object"], []⟩ = (do let v ← newObj (.type "object") .plain none; ret v) := by kernel_rfl
noncomputable def objObj : Obj := { cls := .type "object", data := .plain }
section
variable {prog : Program} {w : World} {A : Around} {E : Value → Shared → Prop} {s : Shared}
theorem call_object {Q : Value → Shared → Prop} (h : Q (.ref s.heap.objs.size) { s with heap := s.heap.push objObj }) : wpAny (model prog w) A (call (.type "object") []) Q E s := by
  refine callType_meets (Q₁ := fun obj s' => s'.TypeIs obj "object" ∧ Q obj s') (Bn := Builtin.«object.__new__») (Bi := Builtin.«object.__init__») (S := fun _ R s => R (.ok (.ret (.ref s.heap.objs.size))) { s with heap := s.heap.push objObj }) called_object (by kernel_rfl) (by kernel_rfl) entry_object_new F.entry_object_init ?_ ?_ ?_
  · refine Meets.of_wp fun prog w A R s hs => ?_
    rw [tree_object_new]
    exact wpAny_bind (wpAny_newObj_type (wpAny_pure ⟨_, rfl, hs⟩))
  · exact ⟨⟨_, Heap.get?_push_size _ rfl, rfl⟩, h⟩
  · rintro obj s₁ ⟨h1, h2⟩
    refine ⟨h1, by unfold argsOk; kernel_rfl, fun _ R s => R (.ok (.ret .none)) s, ?_, ⟨rfl, h2⟩⟩
    refine Meets.of_wp fun prog w A R s hs => ?_
    exact wpAny_pure ⟨_, rfl, hs⟩
end
end Mine
end
theorem Mine.start_X4KS : True := by
  w_top off
  trivial
section
open PySem PySem.W PySem.Calls PyProof.Rows
set_option maxRecDepth 100000
set_option maxHeartbeats 8000000
namespace Mine
variable {w : World}
theorem least_take {r : Nat → Int} {N b : Nat} (h : Least r N b) : (ord r N).take 1 = [b] := by
  have hb : Best r N [b] := by
    refine ⟨by simp, fun i hi => by rw [List.mem_singleton.mp hi]; exact h.1, fun i hi hn k hk => ?_⟩
    rw [List.mem_singleton.mp hk]
    have h1 := h.2 i hi
    have h2 : i ≠ b := fun q => hn (by rw [q]; exact .head _)
    unfold SL
    (first | lia | omega)
  exact (hb.take (p := [b]) (List.Perm.refl _) (List.pairwise_singleton _ _)).symm
theorem ns_one_k {g : Heap} {s : Shared} {Q : Flow → Shared → Prop} {dp un : Nat} {gd : Option (List Code)} {env1 : Env} {mean : ExcName → Option Value} {mg mb : Str → Option Value}
   {oc : Value} {od : Option Addr} {osl : Array (Option Value)} {name qual : Str} {params : Arguments} {body tail : List Stmt} {scope : Scope} {dV kV doc pm cdv ct : Value} {an : Option Addr}
   {L L' c src l c0 : Nat} {oL cell : Obj} {n : Int} {tn : Tok} {vs : List Value} {S : Nat → Str} {r : Nat → Int} {rest : List (Addr × Obj)} {m : Str → Option Value}
   (hK : (hd.heap_39 w.params).lookup 76 = some ⟨oc, od, .func (fnOf name qual params body scope dV kV doc pm an cdv ct), osl⟩) (ht : body.drop 0 = tail)
   (X : (hd.heap_39 w.params).In g) (T : Top hd.view_39 (looseW hd.view_39 [Str.ofString "nsmallest", Str.ofString "nlargest"]) mean mg mb g)
   (F : Fr g L' s.heap (fun y => if y = Str.ofString "iterable" then some (.ref src) else if y = Str.ofString "n" then some (.int n tn) else m y)) (N : News g L' s.heap ((L, oL) :: (c, cell) :: rest)) 
   (hc : c = L' + 1) (hcell : cell.data = .cell (some (.ref 103)))
   (hf1 : env1.frame = some L) (hk1 : env1.scope.kind = .function) (hoL : ∀ vs, oL.data ≠ .fields vs) (hcL : c ≠ L) 
   (hdp : dp + 8 < recursionLimit) (hun : un + 480 < cLine)
   (hl : g.get? l = some (listOf vs.toArray c0)) (hN : vs.length < 64) (hn1 : n = 1)
   (hval : ∀ v ∈ vs, (∃ i t, v = Value.int i t) ∨ (∃ x t, v = Value.str x t))
   (hkey : ∀ i v, vs[i]? = some v → PureSpec 3 w 103 [v] (fun t => .str (S i) t))
   (hr : ∀ i j, i < vs.length → j < vs.length → strLt (S i) (S j) = decide (r i < r j))
   (hsrc : ∀ (A : Around) (Q E : Value → Shared → Prop) tk, (∀ h' (I : Nat), Fr g L' h' (fun y => if y = Str.ofString "iterable" then some (.ref src) else if y = Str.ofString "n" then some (.int n tn) else m y) → News g L' h' [(L, oL), (c, cell), (I, litObj (.ref l) 0)] → I ≠ L → I ≠ c → s.heap.objs.size ≤ h'.objs.size → Q (.ref I) { s with heap := h', toks := tk }) →
     wpAny (model PySem.Challenge.rw_mq0307_01.row.prog w) A (call (.builtin "iter") [.ref src]) Q E { s with toks := tk })
   (ret : ∀ h' tk' (R : Nat) cc, Stays g h' → h'.get? L = some oL → h'.get? R = some (listOf (((ord r vs.length).take n.toNat).map fun i => vs.getD i Value.none).toArray cc) → g.get? R = none → R ≠ L → Q (.ret (.ref R)) { s with heap := h', toks := tk' }) :
   wpAny (model PySem.Challenge.rw_mq0307_01.row.prog w) ((AR dp un gd [env1]).deeper (envOfC qual scope L' 76 cdv)) (execs tail (envOfC qual scope L' 76 cdv)) Q (fun _ _ => False) s := by
  subst hc
  subst hn1
  w_strict (
  revert X
  k_fill
  intro X
  have e := lk_inj hK (by k_is : (hd.heap_39 w.params).lookup 76 = some ⟨_, _, .func (fnOf _ _ _ _ _ _ _ _ _ _ _ _), _⟩)
  injection e with e1 e2 e3 e4
  injection e3 with e3
  injection e3 with e5 e6 e7 e8 e9 e10 e11 e12 e13 e14 e15 e16 e17 e18
  injection e8 with e8
  subst_vars
  clear hK e10 e11
  simp only [List.drop_succ_cons, List.drop_zero]
  (try dsimp only) 
  (try k_fold)
  k_with_none
  repeat' ((fail_if_success (with_reducible show wpAny _ _ (call (Value.ref _) _ _) _ _ _)); (fail_if_success (with_reducible show wpAny _ _ (call (Value.builtin _) _ _) _ _ _));  (first | (k_unfold; (try dsimp only)) | walk1 | (dsimp only; walk1)))
  refine hsrc _ _ _ _ fun h1 I F1 N1 hIL hIc hsz1 => ?_
  clear F N
  repeat' ((fail_if_success (with_reducible show wpAny _ _ (call (Value.ref _) _ _) _ _ _)); (fail_if_success (with_reducible show wpAny _ _ (call (Value.builtin _) _ _) _ _ _));  (first | (k_unfold; (try dsimp only)) | walk1 | (dsimp only; walk1)))
  rename Fr _ _ _ _ => F2
  rename News _ _ _ _ => N2
  rename Heap => h2
  refine call_object ?_
  have F3 := F2.push objObj
  have N3 := News.push F2 N2 objObj
  have sz2 : ∀ b o, h2.get? b = some o → b < h2.objs.size := fun b o e => Heap.lt_size e
  have hOI : h2.objs.size ≠ I := Nat.ne_of_gt (sz2 _ _ (N2 (I, litObj (.ref l) 0) (by simp)).1)
  dsimp only
  generalize hO : h2.objs.size = O at N3 sz2 hOI ⊢
  generalize h2.push objObj = h3 at F3 N3 ⊢
  clear F2 N2 hO sz2
  repeat' ((fail_if_success (with_reducible show wpAny _ _ (call (Value.ref _) _ _) _ _ _)); (fail_if_success (with_reducible show wpAny _ _ (call (Value.builtin _) _ _) _ _ _));  (first | (k_unfold; (try dsimp only)) | walk1 | (dsimp only; walk1)))
  rename Fr _ _ _ _ => F4
  rename News _ _ _ _ => N4
  rename Heap => h4
  show wpAny _ _ (call (Value.builtin "min") [Value.ref I] [(Str.ofString "default", .ref O), (Str.ofString "key", .ref 103)]) _ _ _
  have zI := N4 (I, litObj (.ref l) 0) (by simp)
  have NI : News g L' h4 [(I, litObj (.ref l) 0)] := fun p hp => by rw [List.mem_singleton.mp hp]; exact zI
  have st := stays_ground F4 NI
  obtain ⟨o4, es4, ep4, ho4, r4⟩ := F4.ns
  have hL4 : (hideAll h4 [I]).get? L' = some o4 := hideAll_get _ ho4 fun q => zI.2.1 (List.mem_singleton.mp q).symm
  have hLL4 : (hideAll h4 [I]).get? L = some oL := hideAll_get _ (N4 (L, oL) (by simp)).1 fun q => hIL (List.mem_singleton.mp q).symm
  have hkp : ∀ h5, Stays (hideAll h4 [I]) h5 → Fr g L' h5 _ ∧ News g L' h5 [(O, objObj), (L, oL), (L' + 1, cell)] := fun h5 st5 => by
    have kp : ∀ a o, a ≠ I → h4.get? a = some o → h5.get? a = some o := fun a o ha e => st5 a o (hideAll_get _ e fun q => ha (List.mem_singleton.mp q))
    refine ⟨fr_but F4 kp zI.2.1 zI.2.2, fun p hp => ?_⟩
    have z := N4 p (by simp only [List.mem_cons, List.not_mem_nil, or_false] at hp ⊢; rcases hp with q | q | q <;> simp [q])
    refine ⟨kp _ _ ?_ z.1, z.2⟩
    simp only [List.mem_cons, List.not_mem_nil, or_false] at hp
    rcases hp with q | q | q
    · rw [q]; exact hOI
    · rw [q]; exact Ne.symm hIL
    · rw [q]; exact Ne.symm hIc
  have gL := (N4 (L, oL) (by simp)).2.2
  refine min_call_k (s := { s with heap := h4, toks := tk }) (g := hideAll h4 [I]) (l := l) (vs := vs) (c0 := c0) (gr_of (k := 4) X T st (no_self F4) ⟨o4, es4, ep4, hL4, r4⟩ hLL4 hoL gL rfl rfl hf1 hk1 (by (first | lia | omega)) (by (first | lia | omega))) (stays_hide _ _) (st _ _ hl) (hideAll_none _ (.head _)) zI.1 (Nat.le_of_eq (hideAll_size _ _)) hkey hr ?R0 ?R
  case R0 =>
    intro h0 h5 tk5 st5 hsz5
    obtain ⟨F5, N5⟩ := hkp h5 st5
    clear F4 N4 NI zI hkp ho4
    repeat' ((fail_if_success (with_reducible show wpAny _ _ (call (Value.ref _) _ _) _ _ _)); (first | (k_unfold; (try dsimp only)) | walk1 | (dsimp only; walk1)))
    rename Fr _ _ _ _ => F6
    rename News _ _ _ _ => N6
    rename_i l6 l7
    have e0 : (((ord r vs.length).take (1 : Int).toNat).map fun i => vs.getD i Value.none) = [] := by
      rw [List.eq_nil_of_length_eq_zero (l := ord r vs.length) (by rw [ord_len, h0])]; rfl
    rw [e0] at ret
    exact ret _ _ _ 0 F6.keep (N6 _ (.tail _ (.tail _ (.head _)))).1 (N6 _ (.head _)).1 (N6 _ (.head _)).2.2 (Nat.ne_of_gt l7.2.1)
  case R =>
    intro b v h5 tk5 hv hb st5 hsz5
    obtain ⟨F5, N5⟩ := hkp h5 st5
    clear F4 N4 NI zI hkp ho4
    have e1 : (((ord r vs.length).take (1 : Int).toNat).map fun i => vs.getD i Value.none) = [v] := by
      show (((ord r vs.length).take 1).map fun i => vs.getD i Value.none) = [v]
      rw [least_take hb, List.map_singleton, List.getD_eq_getElem?_getD, hv]; rfl
    rw [e1] at ret
    rcases hval v (List.mem_of_getElem? hv) with ⟨i, t, rfl⟩ | ⟨x, t, rfl⟩
    all_goals repeat' ((fail_if_success (with_reducible show wpAny _ _ (call (Value.ref _) _ _) _ _ _)); (first | (k_unfold; (try dsimp only)) | walk1 | (dsimp only; walk1)))
    all_goals refine wpAny_is_other rfl (by intro x; cases x) ?_
    all_goals repeat' ((fail_if_success (with_reducible show wpAny _ _ (call (Value.ref _) _ _) _ _ _)); (first | (k_unfold; (try dsimp only)) | walk1 | (dsimp only; walk1)))
    all_goals (
      rename Fr _ _ _ _ => F6
      rename News _ _ _ _ => N6
      rename_i l6 l7
      exact ret _ _ _ 0 F6.keep (N6 _ (.tail _ (.tail _ (.head _)))).1 (N6 _ (.head _)).1 (N6 _ (.head _)).2.2 (Nat.ne_of_gt l7.2.1))
  )
theorem ns_not1 {g : Heap} {s : Shared} {Q : Flow → Shared → Prop} {dp un : Nat} {gd : Option (List Code)} {env1 : Env} {mean : ExcName → Option Value} {mg mb : Str → Option Value}
   {oc : Value} {od : Option Addr} {osl : Array (Option Value)} {name qual : Str} {params : Arguments} {body tail tail2 : List Stmt} {scope : Scope} {dV kV doc pm cdv ct : Value} {an : Option Addr}
   {L' src : Nat} {n : Int} {tn : Tok} {news : List (Addr × Obj)} {m : Str → Option Value}
   (hK : (hd.heap_39 w.params).lookup 76 = some ⟨oc, od, .func (fnOf name qual params body scope dV kV doc pm an cdv ct), osl⟩) (ht : body.drop 0 = tail)
   (X : (hd.heap_39 w.params).In g) (T : Top hd.view_39 (looseW hd.view_39 [Str.ofString "nsmallest", Str.ofString "nlargest"]) mean mg mb g)
   (F : Fr g L' s.heap (fun y => if y = Str.ofString "iterable" then some (.ref src) else if y = Str.ofString "n" then some (.int n tn) else m y)) (N : News g L' s.heap news) 
   (hn1 : n ≠ 1) (ht2 : body.drop 1 = tail2)
   (k : ∀ tk', wpAny (model PySem.Challenge.rw_mq0307_01.row.prog w) ((AR dp un gd [env1]).deeper (envOfC qual scope L' 76 cdv)) (execs tail2 (envOfC qual scope L' 76 cdv)) Q (fun _ _ => False) { s with toks := tk' }) :
   wpAny (model PySem.Challenge.rw_mq0307_01.row.prog w) ((AR dp un gd [env1]).deeper (envOfC qual scope L' 76 cdv)) (execs tail (envOfC qual scope L' 76 cdv)) Q (fun _ _ => False) s := by
  w_strict (
  revert X
  k_fill
  intro X
  have e := lk_inj hK (by k_is : (hd.heap_39 w.params).lookup 76 = some ⟨_, _, .func (fnOf _ _ _ _ _ _ _ _ _ _ _ _), _⟩)
  injection e with e1 e2 e3 e4
  injection e3 with e3
  injection e3 with e5 e6 e7 e8 e9 e10 e11 e12 e13 e14 e15 e16 e17 e18
  injection e8 with e8
  subst_vars
  clear hK e10 e11
  simp only [List.drop_succ_cons, List.drop_zero]
  (try dsimp only) 
  (try k_fold)
  k_with_none
  repeat' ((fail_if_success (with_reducible show wpAny _ _ (truthy _) _ _ _)); (first | (k_unfold; (try dsimp only)) | walk1 | (dsimp only; walk1)))
  refine wpAny_truthy_bool ?_
  rw [if_neg (by simpa using hn1)]
  walk1
  walk1
  exact k _
  )
end Mine
end
theorem Mine.start_X5KS : True := by
  w_top off
  trivial
section
open PySem PySem.W PySem.Calls PyProof.Rows
set_option maxRecDepth 100000
set_option maxHeartbeats 8000000
namespace Mine
variable {w : World}
theorem src_list {prog : Program} {g : Heap} {s : Shared} {L L' c l c0 : Nat} {oL cell : Obj} {vs : List Value} {m : Str → Option Value} (F : Fr g L' s.heap m) (N : News g L' s.heap [(L, oL), (c, cell)]) (hl : g.get? l = some (listOf vs.toArray c0)) :
    ∀ (A : Around) (Q E : Value → Shared → Prop) tk, (∀ h' (I : Nat), Fr g L' h' m → News g L' h' [(L, oL), (c, cell), (I, litObj (.ref l) 0)] → I ≠ L → I ≠ c → s.heap.objs.size ≤ h'.objs.size → Q (.ref I) { s with heap := h', toks := tk }) →
     wpAny (model prog w) A (call (.builtin "iter") [.ref l]) Q E { s with toks := tk } := by
  intro A Q E tk hQ
  refine iter_of (wpAny_pyIter_list (items := vs.toArray) ⟨_, F.keep _ _ hl, rfl, c0, rfl⟩ ?_)
  have lt : ∀ p ∈ [(L, oL), (c, cell)], p.1 < s.heap.objs.size := fun p hp => Heap.lt_size (N p hp).1
  refine hQ _ s.heap.objs.size (F.push (litObj (.ref l) 0)) (fun p hp => ?_) (Nat.ne_of_gt (lt _ (.head _))) (Nat.ne_of_gt (lt _ (.tail _ (.head _)))) (by rw [Heap.size_push]; exact Nat.le_succ _)
  have NP := News.push F N (litObj (.ref l) 0)
  refine NP p ?_
  simp only [List.mem_cons, List.not_mem_nil, or_false] at hp ⊢
  rcases hp with q | q | q
  · exact .inr (.inl q)
  · exact .inr (.inr q)
  · exact .inl q
theorem src_it {prog : Program} {g : Heap} {s : Shared} {L L' c l it : Nat} {oL cell : Obj} {m : Str → Option Value} (F : Fr g L' s.heap m) (N : News g L' s.heap [(L, oL), (c, cell), (it, litObj (.ref l) 0)]) (h1 : it ≠ L) (h2 : it ≠ c) :
    ∀ (A : Around) (Q E : Value → Shared → Prop) tk, (∀ h' (I : Nat), Fr g L' h' m → News g L' h' [(L, oL), (c, cell), (I, litObj (.ref l) 0)] → I ≠ L → I ≠ c → s.heap.objs.size ≤ h'.objs.size → Q (.ref I) { s with heap := h', toks := tk }) →
     wpAny (model prog w) A (call (.builtin "iter") [.ref it]) Q E { s with toks := tk } := fun A Q E tk hQ =>
  iter_of (lit_pyIter (N _ (.tail _ (.tail _ (.head _)))).1 (hQ _ it F N h1 h2 (Nat.le_refl _)))
theorem ns_call_lk {g : Heap} {s : Shared} {Q E : Value → Shared → Prop} {dp un : Nat} {gd : Option (List Code)} {env1 : Env} {mean : ExcName → Option Value} {mg mb : Str → Option Value}
   {L l c0 : Nat} {oL : Obj} {n : Int} {tn : Tok} {vs : List Value} {S : Nat → Str} {r : Nat → Int}
   (X : (hd.heap_39 w.params).In g) (T : Top hd.view_39 (looseW hd.view_39 [Str.ofString "nsmallest", Str.ofString "nlargest"]) mean mg mb g)
   (hg : Stays g s.heap) (hgs : g.objs.size ≤ s.heap.objs.size) (hLg : g.get? L = none) (hL : s.heap.get? L = some oL) (hoL : ∀ vs, oL.data ≠ .fields vs)
   (hf1 : env1.frame = some L) (hk1 : env1.scope.kind = .function) 
   (hdp : dp + 9 < recursionLimit) (hun : un + 540 < cLine)
   (hl : g.get? l = some (listOf vs.toArray c0)) (hN : vs.length < 64) (hN2 : 2 ≤ vs.length) (hn0 : -1 ≤ n) (hn : n < 64)
   (hval : ∀ v ∈ vs, (∃ i t, v = Value.int i t) ∨ (∃ x t, v = Value.str x t))
   (hkey : ∀ i v, vs[i]? = some v → PureSpec 3 w 103 [v] (fun t => .str (S i) t))
   (hr : ∀ i j, i < vs.length → j < vs.length → strLt (S i) (S j) = decide (r i < r j)) (hre : ∀ i j, i < vs.length → j < vs.length → (S i = S j ↔ r i = r j))
   (ret : ∀ h' tk' (R : Nat) cc sl, Stays g h' → h'.get? L = some { oL with slots := sl } → h'.get? R = some (listOf (((ord r vs.length).take n.toNat).map fun i => vs.getD i Value.none).toArray cc) → g.get? R = none → R ≠ L → Q (.ref R) { s with heap := h', toks := tk' }) :
   wpAny (model PySem.Challenge.rw_mq0307_01.row.prog w) (AR dp un gd [env1]) (call (.ref 76) [.int n tn, .ref l] [(Str.ofString "key", .ref 103)]) Q E s := by
  w_strict (
  revert X
  k_fill
  intro X
  refine' enterC (g := g) (binds := [(Str.ofString "n", .int n tn), (Str.ofString "iterable", .ref l), (Str.ofString "key", .ref 103)]) ?k0 ?k1 X hg hgs ?k2 ?k3 ?k4 ?k5 ?k6 ?_ ?k7 ?k8 ?k9
  case k0 => exact Nat.lt_of_le_of_lt (Nat.le_add_right _ _) hdp
  case k1 => exact T.nolimit
  case k2 => k_is
  case k3 => k_is
  case k4 => exact BindsTo.of_defaults rfl (hg _ _ (X _ _ (by k_is))) rfl rfl rfl
  case k5 => rfl
  case k6 => decide +kernel
  case k7 => rfl
  case k8 => rfl
  case k9 => rfl
  intro h1 tk1 cells F N hC st1
  obtain ⟨cell, rfl, hcell⟩ := (show CellsAre _ [(Str.ofString "key", s.heap.objs.size + 1)] cells from hC).one
  replace hcell : cell.data = .cell (some (.ref 103)) := hcell
  have hLlt : L < s.heap.objs.size := Heap.lt_size hL
  generalize hL' : s.heap.objs.size = L' at *
  have hcL : L' + 1 ≠ L := by (first | lia | omega)
  have N' : News g L' h1 [(L, oL), (L' + 1, cell)] := fun p hp => by
    rcases List.mem_cons.mp hp with rfl | hp
    · exact ⟨st1 _ _ hL, neN (by (first | lia | omega)), hLg⟩
    · exact N p hp
  replace F : Fr g L' h1 (fun y => if y = Str.ofString "iterable" then some (.ref l) else if y = Str.ofString "n" then some (.int n tn) else (fun _ => none) y) := fr_as F fun y => rfl
  clear N hC
  (try dsimp only at F)
  by_cases hn1 : n = 1
  · refine' ns_one_k (w := w) (L := L) (L' := L') (src := l) (l := l) (c0 := c0) (oL := oL) (cell := cell) (n := n) (tn := tn) (vs := vs) (S := S) (r := r) (m := fun _ => none) (rest := []) ?w1 rfl X T F N' rfl hcell hf1 hk1 hoL hcL (by (first | lia | omega)) (by (first | lia | omega)) hl hN hn1 hval hkey hr ?w2 ?w3
    case w1 => k_is
    case w2 => exact src_list (s := { s with heap := h1, toks := tk1 }) F N' hl
    case w3 => exact fun h' tk' R cc a b c d e => ret h' tk' R cc oL.slots a b c d e
  refine' ns_not1 (w := w) (m := fun _ => none) ?v1 rfl X T F N' hn1 rfl fun tk2 => ?_
  case v1 => k_is
  refine' ns_list_k (w := w) (L := L) (L' := L') (l := l) (c0 := c0) (oL := oL) (cell := cell) (n := n) (tn := tn) (vs := vs) (S := S) (r := r) (m := fun _ => none) ?u1 rfl X T F N' rfl hcell hf1 hk1 hoL hcL (by (first | lia | omega)) (by (first | lia | omega)) hl hN hN2 hn0 hn hkey hr rfl ?u2 ?u3
  case u1 => k_is
  case u3 => exact fun h' tk' R cc a b c d e => ret h' tk' R cc oL.slots a b c d e
  case u2 =>
    intro hlt h2 tk3 ts F2 N2
    refine' ns_heap_k (w := w) (L := L) (L' := L') (src := l) (l := l) (c0 := c0) (oL := oL) (cell := cell) (n := n) (tn := tn) (vs := vs) (S := S) (r := r) (m := fun y => if y = Str.ofString "size" then some (.int vs.length ts) else none) (rest := []) ?t1 rfl X T F2 N2 rfl hcell hf1 hk1 hoL hcL (by (first | lia | omega)) (by (first | lia | omega)) hl hN (.inr hN2) hn1 hn0 hn hkey hr hre ?t2 ?t3
    case t1 => k_is
    case t2 => exact src_list (s := { s with heap := h2, toks := tk3 }) F2 N2 hl
    case t3 => exact fun h' tk' R cc a b c d e => ret h' tk' R cc oL.slots a b c d e
  )
theorem ns_call_ik {g : Heap} {s : Shared} {Q E : Value → Shared → Prop} {dp un : Nat} {gd : Option (List Code)} {env1 : Env} {mean : ExcName → Option Value} {mg mb : Str → Option Value}
   {L l it c0 : Nat} {oL : Obj} {n : Int} {tn : Tok} {vs : List Value} {S : Nat → Str} {r : Nat → Int}
   (X : (hd.heap_39 w.params).In g) (T : Top hd.view_39 (looseW hd.view_39 [Str.ofString "nsmallest", Str.ofString "nlargest"]) mean mg mb g)
   (hg : Stays g s.heap) (hgs : g.objs.size ≤ s.heap.objs.size) (hLg : g.get? L = none) (hL : s.heap.get? L = some oL) (hoL : ∀ vs, oL.data ≠ .fields vs) (hIg : g.get? it = none) (hI : s.heap.get? it = some (litObj (.ref l) 0)) (hIL : it ≠ L)
   (hf1 : env1.frame = some L) (hk1 : env1.scope.kind = .function) 
   (hdp : dp + 9 < recursionLimit) (hun : un + 540 < cLine)
   (hl : g.get? l = some (listOf vs.toArray c0)) (hN : vs.length < 64) (hN2 : vs.length = 0 ∨ 2 ≤ vs.length) (hn0 : -1 ≤ n) (hn : n < 64)
   (hval : ∀ v ∈ vs, (∃ i t, v = Value.int i t) ∨ (∃ x t, v = Value.str x t))
   (hkey : ∀ i v, vs[i]? = some v → PureSpec 3 w 103 [v] (fun t => .str (S i) t))
   (hr : ∀ i j, i < vs.length → j < vs.length → strLt (S i) (S j) = decide (r i < r j)) (hre : ∀ i j, i < vs.length → j < vs.length → (S i = S j ↔ r i = r j))
   (ret : ∀ h' tk' (R : Nat) cc sl, Stays g h' → h'.get? L = some { oL with slots := sl } → h'.get? R = some (listOf (((ord r vs.length).take n.toNat).map fun i => vs.getD i Value.none).toArray cc) → g.get? R = none → R ≠ L → Q (.ref R) { s with heap := h', toks := tk' }) :
   wpAny (model PySem.Challenge.rw_mq0307_01.row.prog w) (AR dp un gd [env1]) (call (.ref 76) [.int n tn, .ref it] [(Str.ofString "key", .ref 103)]) Q E s := by
  w_strict (
  revert X
  k_fill
  intro X
  refine' enterC (g := g) (binds := [(Str.ofString "n", .int n tn), (Str.ofString "iterable", .ref it), (Str.ofString "key", .ref 103)]) ?k0 ?k1 X hg hgs ?k2 ?k3 ?k4 ?k5 ?k6 ?_ ?k7 ?k8 ?k9
  case k0 => exact Nat.lt_of_le_of_lt (Nat.le_add_right _ _) hdp
  case k1 => exact T.nolimit
  case k2 => k_is
  case k3 => k_is
  case k4 => exact BindsTo.of_defaults rfl (hg _ _ (X _ _ (by k_is))) rfl rfl rfl
  case k5 => rfl
  case k6 => decide +kernel
  case k7 => rfl
  case k8 => rfl
  case k9 => rfl
  intro h1 tk1 cells F N hC st1
  obtain ⟨cell, rfl, hcell⟩ := (show CellsAre _ [(Str.ofString "key", s.heap.objs.size + 1)] cells from hC).one
  replace hcell : cell.data = .cell (some (.ref 103)) := hcell
  have hLlt : L < s.heap.objs.size := Heap.lt_size hL
  have hIlt : it < s.heap.objs.size := Heap.lt_size hI
  generalize hL' : s.heap.objs.size = L' at *
  have hcL : L' + 1 ≠ L := by (first | lia | omega)
  have hIc : it ≠ L' + 1 := by (first | lia | omega)
  have N' : News g L' h1 [(L, oL), (L' + 1, cell), (it, litObj (.ref l) 0)] := fun p hp => by
    simp only [List.mem_cons, List.not_mem_nil, or_false] at hp
    rcases hp with rfl | rfl | rfl
    · exact ⟨st1 _ _ hL, neN (by (first | lia | omega)), hLg⟩
    · exact N _ (.head _)
    · exact ⟨st1 _ _ hI, neN (by (first | lia | omega)), hIg⟩
  replace F : Fr g L' h1 (fun y => if y = Str.ofString "iterable" then some (.ref it) else if y = Str.ofString "n" then some (.int n tn) else (fun _ => none) y) := fr_as F fun y => rfl
  clear N hC
  (try dsimp only at F)
  by_cases hn1 : n = 1
  · refine' ns_one_k (w := w) (L := L) (L' := L') (src := it) (l := l) (c0 := c0) (oL := oL) (cell := cell) (n := n) (tn := tn) (vs := vs) (S := S) (r := r) (m := fun _ => none) (rest := [(it, litObj (.ref l) 0)]) ?w1 rfl X T F N' rfl hcell hf1 hk1 hoL hcL (by (first | lia | omega)) (by (first | lia | omega)) hl hN hn1 hval hkey hr ?w2 ?w3
    case w1 => k_is
    case w2 => exact src_it (s := { s with heap := h1, toks := tk1 }) F N' hIL hIc
    case w3 => exact fun h' tk' R cc a b c d e => ret h' tk' R cc oL.slots a b c d e
  refine' ns_not1 (w := w) (m := fun _ => none) ?v1 rfl X T F N' hn1 rfl fun tk2 => ?_
  case v1 => k_is
  refine' ns_try (w := w) (kv := .none) (L := L) (L' := L') (oL := oL) (cell := cell) (n := n) (tn := tn) ?u1 rfl X T F N' hf1 hk1 hoL hcL hIL rfl ?u2
  case u1 => k_is
  case u2 =>
    intro h2 tk3 sl F2 N2
    refine' ns_heap_k (w := w) (L := L) (L' := L') (src := it) (l := l) (c0 := c0) (oL := { oL with slots := sl }) (cell := cell) (n := n) (tn := tn) (vs := vs) (S := S) (r := r) (m := fun _ => none) (rest := [(it, litObj (.ref l) 0)]) ?t1 rfl X T F2 N2 rfl hcell hf1 hk1 hoL hcL (by (first | lia | omega)) (by (first | lia | omega)) hl hN hN2 hn1 hn0 hn hkey hr hre ?t2 ?t3
    case t1 => k_is
    case t2 => exact src_it (s := { s with heap := h2, toks := tk3 }) F2 N2 hIL hIc
    case t3 => exact fun h' tk' R cc a b c d e => ret h' tk' R cc sl a b c d e
  )
end Mine
end
theorem Mine.start_X2KL : True := by
  w_top off
  trivial
section
open PySem PySem.W PySem.Calls PyProof.Rows
set_option maxRecDepth 100000
set_option maxHeartbeats 8000000
namespace Mine
variable {w : World}
theorem nl_heap2_k {g : Heap} {s : Shared} {Q : Flow → Shared → Prop} {dp un : Nat} {gd : Option (List Code)} {env1 : Env} {mean : ExcName → Option Value} {mg mb : Str → Option Value}
   {oc : Value} {od : Option Addr} {osl : Array (Option Value)} {name qual : Str} {params : Arguments} {body tail : List Stmt} {scope : Scope} {dV kV doc pm cdv ct : Value} {an : Option Addr}
   {L L' c D I l c0 c3 j3 : Nat} {oL cell : Obj} {n : Int} {tn : Tok} {vs : List Value} {S : Nat → Str} {r : Nat → Int} {m : Str → Option Value} {as : List Nat} {f3 : Value}
   (hK : (hd.heap_39 w.params).lookup 82 = some ⟨oc, od, .func (fnOf name qual params body scope dV kV doc pm an cdv ct), osl⟩) (ht : body.drop 5 = tail)
   (X : (hd.heap_39 w.params).In g) (T : Top hd.view_39 (looseW hd.view_39 [Str.ofString "nsmallest", Str.ofString "nlargest"]) mean mg mb g)
   (F : Fr g L' s.heap (fun z => if z = Str.ofString "result" then some (.ref D) else if z = Str.ofString "it" then some (.ref I) else if z = Str.ofString "n" then some (.int n tn) else m z))
   (N : News g L' s.heap [(D, listOf (refs as).toArray c3), (I, litObj f3 j3), (L, oL), (c, cell)]) 
   (hc : c = L' + 1) (hcell : cell.data = .cell (some (.ref 103)))
   (hDI : D ≠ I) (hDL : D ≠ L) (hDc : D ≠ c) (hIL : I ≠ L) (hIc : I ≠ c)
   (hal : as.length = min n.toNat vs.length) (hap : as.Pairwise (· < ·)) (haq : ∀ q ∈ as, q ≠ D ∧ q ≠ I ∧ q ≠ L' ∧ g.get? q = none)
   (hao : ∀ k q, as[k]? = some q → ∃ v t u, vs[k]? = some v ∧ s.heap.get? q = some (tupObj [.str (S k) t, .int (-(k : Int)) u, v]))
   (hj1 : n.toNat ≤ vs.length → f3 = .ref l ∧ j3 = as.length) (hj2 : vs.length < n.toNat → f3 = .none)
   (hf1 : env1.frame = some L) (hk1 : env1.scope.kind = .function) (hoL : ∀ vs, oL.data ≠ .fields vs) (hcL : c ≠ L) 
   (hdp : dp + 6 < recursionLimit) (hun : un + 360 < cLine)
   (hl : g.get? l = some (listOf vs.toArray c0)) (hN : vs.length < 64) (hN2 : vs.length = 0 ∨ 2 ≤ vs.length) (hn1 : n ≠ 1) (hn0 : -1 ≤ n) (hn : n < 64)
   (hkey : ∀ i v, vs[i]? = some v → PureSpec 3 w 103 [v] (fun t => .str (S i) t))
   (hr : ∀ i j, i < vs.length → j < vs.length → strLt (S i) (S j) = decide (r j < r i)) (hre : ∀ i j, i < vs.length → j < vs.length → (S i = S j ↔ r i = r j))
   (ret : ∀ h' tk' (R : Nat) cc, Stays g h' → h'.get? L = some oL → h'.get? R = some (listOf (((ord r vs.length).take n.toNat).map fun i => vs.getD i Value.none).toArray cc) → g.get? R = none → R ≠ L → Q (.ret (.ref R)) { s with heap := h', toks := tk' }) :
   wpAny (model PySem.Challenge.rw_mq0307_01.row.prog w) ((AR dp un gd [env1]).deeper (envOfC qual scope L' 82 cdv)) (execs tail (envOfC qual scope L' 82 cdv)) Q (fun _ _ => False) s := by
  subst hc
  w_strict (
  revert X
  k_fill
  intro X
  have e := lk_inj hK (by k_is : (hd.heap_39 w.params).lookup 82 = some ⟨_, _, .func (fnOf _ _ _ _ _ _ _ _ _ _ _ _), _⟩)
  injection e with e1 e2 e3 e4
  injection e3 with e3
  injection e3 with e5 e6 e7 e8 e9 e10 e11 e12 e13 e14 e15 e16 e17 e18
  injection e8 with e8
  subst_vars
  clear hK e10 e11
  simp only [List.drop_succ_cons, List.drop_zero]
  (try dsimp only) 
  (try k_fold)
  k_with_none
  have hlD : s.heap.IsList D (refs as).toArray := ⟨_, (N _ (.head _)).1, rfl, c3, rfl⟩
  have hszl : (refs as).toArray.size = as.length := by simp [refs]
  repeat' ((fail_if_success (with_reducible show wpAny _ _ (truthy _) _ _ _)); (first | (k_unfold; (try dsimp only)) | walk1 | (dsimp only; walk1)))
  refine wpAny_truthy_list hlD (by (first | lia | omega)) ?_
  by_cases has : as = []
  · subst has
    rw [if_pos (by rfl)]
    walk1
    walk1
    walk1
    walk1
    (try dsimp only)
    refine ret _ _ D c3 F.keep (N _ (.tail _ (.tail _ (.head _)))).1 ?_ (N _ (.head _)).2.2 hDL
    have e0 : ((ord r vs.length).take n.toNat).map (fun i => vs.getD i Value.none) = [] := by
      have : (ord r vs.length).take n.toNat = [] := by
        rw [List.take_eq_nil_iff]
        have h0 : n.toNat = 0 ∨ vs.length = 0 := by simp at hal; (first | lia | omega)
        rcases h0 with q | q
        · exact .inl q
        · exact .inr (List.eq_nil_of_length_eq_zero (by rw [ord_len, q]))
      rw [this]; rfl
    rw [e0]; exact (N _ (.head _)).1
  have hpos : 0 < as.length := List.length_pos_iff.mpr has
  have hA1 : as.length ≤ vs.length := by rw [hal]; exact Nat.min_le_right _ _
  have hA3 : as.length ≤ n.toNat := by rw [hal]; exact Nat.min_le_left _ _
  have zA4 : Hid (vs.length < n.toNat → as.length = vs.length) := fun q => by rw [hal]; exact Nat.min_eq_right (Nat.le_of_lt q)
  have hA5 : 2 ≤ as.length := by clear hj1 hj2 hDI hDL hDc hIL hIc hcL; (first | lia | omega)
  have hA6 : (as.length : Int) ≤ n := by clear hal hN2 hn1 hj1 hj2 hDI hDL hDc hIL hIc hcL; (first | lia | omega)
  have zal : Hid (as.length = min n.toNat vs.length) := hal
  have zj1 := Hid.mk hj1
  have zj2 := Hid.mk hj2
  clear hal hN2 hn1 hj1 hj2 hA3
  rw [if_neg (by simp [refs, has])]
  (try clear hlD)
  repeat' ((fail_if_success (with_reducible show wpAny _ _ (call (Value.ref _) _ _) _ _ _)); (first | (k_unfold; (try dsimp only)) | walk1 | (dsimp only; walk1)))
  have hT0 : Tups S (fun i tl => ∃ x y v, tl = [x, y, v] ∧ vs[i]? = some v) (fun b => as.idxOf b) (fun b => -((as.idxOf b : Nat) : Int)) as s.heap := by
    intro b hb
    obtain ⟨v, t, u, hv, ho⟩ := hao (as.idxOf b) b (by rw [List.getElem?_eq_getElem (List.idxOf_lt_length_of_mem hb), List.getElem_idxOf])
    exact ⟨t, u, [v], ⟨_, _, v, rfl, hv⟩, ho⟩
  have hix0 : ∀ b ∈ as, as.idxOf b < vs.length := fun b hb => by have := List.idxOf_lt_length_of_mem hb; (first | lia | omega)
  have hinj0 : ∀ a ∈ as, ∀ b ∈ as, as.idxOf a = as.idxOf b → a = b := fun a ha b hb q => by
    have e1 := List.getElem_idxOf (List.idxOf_lt_length_of_mem ha)
    have e2 := List.getElem_idxOf (List.idxOf_lt_length_of_mem hb)
    rw [← e1, ← e2]; simp only [q]
  obtain ⟨tps, Ntp, hTI, hTo⟩ := tps_of hT0 (g := g) (L' := L') fun b hb => (haq b hb).2.2
  have hTD : ∀ p ∈ tps, p.1 ≠ D := fun p hp => (haq _ (hTo p hp)).1
  have hTI2 : ∀ p ∈ tps, p.1 ≠ I := fun p hp => (haq _ (hTo p hp)).2.1
  have N0 : News g L' s.heap ((D, listOf (refs as).toArray c3) :: (I, litObj f3 j3) :: (L, oL) :: (L' + 1, cell) :: tps) := fun p hp => by
    rcases List.mem_append.mp (show p ∈ [(D, listOf (refs as).toArray c3), (I, litObj f3 j3), (L, oL), (L' + 1, cell)] ++ tps from hp) with q | q
    · exact N p q
    · exact Ntp p q
  refine' mutC (L := L) (oL := oL) (heapify_spec (as := as) (n := c3) (lt := fun a b => decide (fk r (fun b => as.idxOf b) a < fk r (fun b => as.idxOf b) b)) (by (first | lia | omega))) X T ?u1 ?u2 ?u3 hoL ?u4 ?u5 rfl rfl hf1 hk1 (by (first | lia | omega)) (by (first | lia | omega)) ?u6
  case u1 => exact F
  case u2 => exact N0
  case u3 => exact .tail _ (.head _)
  case u4 =>
    intro p hp
    rcases List.mem_append.mp (show p ∈ [(I, litObj f3 j3), (L, oL), (L' + 1, cell)] ++ tps from hp) with q | q
    · simp only [List.mem_cons, List.not_mem_nil, or_false] at q
      rcases q with rfl | rfl | rfl
      · exact Ne.symm hDI
      · exact Ne.symm hDL
      · exact Ne.symm hDc
    · exact hTD p q
  case u5 => exact cmp_dn (N := vs.length) (by (first | lia | omega)) (hTI.tups Ntp hTD) hix0 hinj0 (fun a ha b hb q => by (first | lia | omega)) hr hre
  intro h4 tk4 F4 N4 st4 hsz4
  clear F N N0 Ntp
  have hST := LS.start (N := vs.length) (r := r) (as := as) (ix := fun b => as.idxOf b) (by (first | lia | omega)) (idx_range hap)
  generalize hbs : hfy (fun a b => decide (fk r (fun b => as.idxOf b) a < fk r (fun b => as.idxOf b) b)) (as.length / 2) (as.length / 2) as = bs at *
  have hbp : bs.Perm as := by rw [← hbs]; exact hfy_perm _ (Nat.le_refl _) (by (first | lia | omega))
  have hbl : bs.length = as.length := hbp.length_eq
  have hb0 : 0 < bs.length := by (first | lia | omega)
  have hTb := hTI.sub (cs := bs) fun b hb => hbp.mem_iff.mp hb
  have hod4 : ∀ a ∈ bs, ∀ b ∈ bs, as.idxOf a < as.idxOf b → -((as.idxOf b : Nat) : Int) < -((as.idxOf a : Nat) : Int) := fun a _ b _ q => by (first | lia | omega)
  have hodn : ∀ b ∈ bs, -n < -((as.idxOf b : Nat) : Int) := fun b hb => by have := List.idxOf_lt_length_of_mem (hbp.mem_iff.mp hb); (first | lia | omega)
  repeat' ((fail_if_success (with_reducible show wpAny _ _ (call (Value.ref _) _ _) _ _ _)); (fail_if_success (with_reducible show wpAny _ _ (subscriptTail _ _ _ _) _ _ _)); (first | (k_unfold; (try dsimp only)) | walk1 | (dsimp only; walk1)))
  refine item_refs0 (as := bs) N4 (.head _) (by (first | lia | omega)) hb0 ?_
  walk1
  (try dsimp only)
  obtain ⟨tt, tu, ttl, -, htop⟩ := hTb _ (getD0_mem hb0)
  refine item_tup0 (N4 _ (.tail _ (.tail _ (.tail _ (.tail _ htop))))).1 ?_
  clear hT0 hao htop hinj0 hix0
  generalize hIX : (fun b => as.idxOf b) = ix at *
  generalize hOD : (fun b => -((as.idxOf b : Nat) : Int)) = od at *
  replace hod4 : ∀ a ∈ bs, ∀ b ∈ bs, ix a < ix b → od b < od a := by rw [← hIX, ← hOD]; exact hod4
  replace hodn : ∀ b ∈ bs, -n < od b := by rw [← hOD]; exact hodn
  clear hIX hOD hbs
  repeat' ((fail_if_success (with_reducible show wpAny _ _ (exec (Stmt.For _ _ _ _ _) _) _ _ _)); (first | (k_unfold; (try dsimp only)) | walk1 | (dsimp only; walk1)))
  rename Fr _ _ _ _ => F5
  rename News _ _ _ _ => N5
  refine' for_lit (it := I) (vs := vs) (fun s' hq => hq) as.length (by (first | lia | omega)) (fun j s' => LoopJ g L' D I l L oL cell 21 true vs.length S (fun i tl => ∃ x y v, tl = [x, y, v] ∧ vs[i]? = some v) r as.length j s s') ?ev ?turn ?fin ?hs
  case hs => (intro _; rfl)
  case ev =>
    walk1
    refine lit_pyIter (N5 _ (.tail _ (.head _))).1 ?_
    refine ⟨rfl, ?_⟩
    unfold LoopJ
    refine ⟨_, _, bs, ix, od, tps, (fun y => if y = Str.ofString "n" then some (.int n tn) else m y), f3, j3, c3, tt, -n, ?ut0, rfl, fr_as F5 ?e1, N5, ?e2, hbl, hST, hTb, hTD, hTI2, ?e3, ?e4⟩
    case e1 =>
      intro y
      by_cases h1 : y = Str.ofString "top"
      · subst h1; rfl
      by_cases h2 : y = Str.ofString "order"
      · subst h2; rfl
      by_cases h3 : y = Str.ofString "_heapreplace"
      · subst h3; rfl
      simp only [if_neg h1, if_neg h2, if_neg h3]
    case e2 =>
      rcases Nat.lt_or_ge vs.length n.toNat with q | q
      · exact .inr ⟨zj2.get q, zA4.get q⟩
      · exact .inl (zj1.get q)
    case e3 => intro a ha b hb q; rw [if_pos rfl]; exact hod4 a ha b hb q
    case e4 => intro b hb; rw [if_pos rfl]; exact hodn b hb
  case turn =>
    rintro j v s' hv ⟨h, tk, bs, ix, od, tps, mm, fv, jj, c, t, o, u, rfl, F, N, hit, hbk, hLS, hTI, hTD, hTI', hmo, hlo⟩ E'
    have hjl : j < vs.length := (List.getElem?_eq_some_iff.mp hv).1
    obtain ⟨rfl, rfl⟩ : fv = .ref l ∧ jj = j := by
      rcases hit with q | q
      · exact q
      · (first | lia | omega)
    clear hit
    have zI := N _ (.tail _ (.head _))
    have hil : h.IsList l vs.toArray := ⟨_, F.keep _ _ hl, rfl, c0, rfl⟩
    refine lit_pyNext (s := { s with heap := h, toks := tk }) zI.1 hil (x := v) (by simpa using hv) fun h1 hi1 hs1 => ⟨rfl, ?_⟩
    have F1 := F.change hs1 zI.2.1 zI.2.2
    have N1 : News g L' h1 ((D, listOf (refs bs).toArray c) :: (I, litObj (.ref l) (jj + 1)) :: (L, oL) :: (L' + 1, cell) :: tps) := fun p hp => by
      have keep : ∀ p : Addr × Obj, p.1 ≠ I → (h.get? p.1 = some p.2 ∧ p.1 ≠ L' ∧ g.get? p.1 = none) → (h1.get? p.1 = some p.2 ∧ p.1 ≠ L' ∧ g.get? p.1 = none) := fun p hp q => ⟨(hs1.2 _ hp).trans q.1, q.2⟩
      rcases List.mem_cons.mp hp with rfl | hp
      · exact keep _ hDI (N _ (.head _))
      rcases List.mem_cons.mp hp with rfl | hp
      · exact ⟨hi1, zI.2⟩
      rcases List.mem_cons.mp hp with rfl | hp
      · exact keep _ (Ne.symm hIL) (N _ (.tail _ (.tail _ (.head _))))
      rcases List.mem_cons.mp hp with rfl | hp
      · exact keep _ (Ne.symm hIc) (N _ (.tail _ (.tail _ (.tail _ (.head _)))))
      · exact keep _ (hTI' p hp) (N p (.tail _ (.tail _ (.tail _ (.tail _ hp)))))
    clear F N F5 N5 zI hil hi1
    repeat' ((fail_if_success (with_reducible show wpAny _ _ (call (Value.ref _) _ _) _ _ _)); (first | (k_unfold; (try dsimp only)) | walk1 | (dsimp only; walk1)))
    rename Fr _ _ _ _ => F2
    rename News _ _ _ _ => N2
    refine' pureC (L := L) (oL := oL) (hkey jj v hv) X T ?t1 ?t2 ?t3 hoL rfl rfl hf1 hk1 (by (first | lia | omega)) (by (first | lia | omega)) ?t4
    case t1 => exact F2
    case t2 => exact N2
    case t3 => exact .tail _ (.tail _ (.head _))
    intro h3 tk3 tk' F3 N3 st3 hsz3
    clear F2 N2
    repeat' ((fail_if_success (with_reducible show wpAny _ _ (compareOp _ _ _) _ _ _)); (first | (k_unfold; (try dsimp only)) | walk1 | (dsimp only; walk1)))
    have hb0' : 0 < bs.length := by (first | lia | omega)
    have hi0 := hLS.ix_lt (getD0_mem hb0')
    show wpAny _ _ (richCompare .Lt _ _) _ _ _
    refine rc_lt_str ?_
    rw [hr (ix (bs.getD 0 0)) jj hi0 hjl]
    by_cases hlt : r jj < r (ix (bs.getD 0 0))
    · rw [decide_eq_true hlt]
      repeat' ((fail_if_success (with_reducible show wpAny _ _ (call (Value.ref _) _ _) _ _ _)); (first | (k_unfold; (try dsimp only)) | walk1 | (dsimp only; walk1)))
      rename Fr _ _ _ _ => F6
      rename News _ _ _ _ => N6
      rename_i P _ l1
      have hPt : ∀ p ∈ tps, p.1 < P := fun p hp => allLt_mem l1.2.2.2.2 p hp
      have hPb : P ∉ bs := fun q => by
        obtain ⟨_, _, _, _, hm⟩ := hTI P q
        exact Nat.lt_irrefl _ (hPt _ hm)
      have hmin : ∀ b ∈ bs, b < P := fun b hb => by
        obtain ⟨_, _, _, _, hm⟩ := hTI b hb
        exact hPt _ hm
      have hsw := hLS.swap (by (first | lia | omega)) hb0' hjl hPb hlt
      have hTI6 := hTI.more (cs := P :: bs) (P := P) (j := jj) (o := o) (t := tk') (u := u) (tl := [v]) hPb ⟨_, _, v, rfl, hv⟩ (fun c hc => by
        rcases List.mem_cons.mp hc with q | q
        · exact .inl q
        · exact .inr q)
      generalize hix' : (fun x => if x = P then jj else ix x) = ix' at hsw hTI6
      generalize hod' : (fun x => if x = P then o else od x) = od' at hTI6
      dsimp only at hsw
      have iP : ix' P = jj := by rw [← hix']; exact if_pos rfl
      have ib : ∀ b ∈ bs, ix' b = ix b := fun b hb => by rw [← hix']; exact if_neg (fun (q : b = P) => hPb (q ▸ hb))
      have oP : od' P = o := by rw [← hod']; exact if_pos rfl
      have ob : ∀ b ∈ bs, od' b = od b := fun b hb => by rw [← hod']; exact if_neg (fun (q : b = P) => hPb (q ▸ hb))
      clear hix' hod'
      have hbj : ∀ b ∈ bs, ix b < jj := fun b hb => hLS.best.lt _ (List.mem_map.mpr ⟨b, hb, rfl⟩)
      have hmo6 : ∀ a ∈ P :: bs, ∀ b ∈ P :: bs, ix' a < ix' b → od' b < od' a := fun a ha b hb q => by
        rcases List.mem_cons.mp ha with q1 | h1 <;> rcases List.mem_cons.mp hb with q2 | h2
        · rw [q1, q2] at q; (first | lia | omega)
        · rw [q1, iP, ib b h2] at q; have := hbj b h2; (first | lia | omega)
        · rw [q2, oP, ob a h1]; have := hlo a h1; rw [if_pos rfl] at this; exact this
        · rw [ib a h1, ib b h2] at q; rw [ob a h1, ob b h2]; have := hmo a h1 b h2 q; rw [if_pos rfl] at this; exact this
      have hinj6 : ∀ a ∈ P :: bs, ∀ b ∈ P :: bs, ix' a = ix' b → a = b := fun a ha b hb q => by
        rcases List.mem_cons.mp ha with q1 | h1 <;> rcases List.mem_cons.mp hb with q2 | h2
        · rw [q1, q2]
        · rw [q1, iP, ib b h2] at q; have := hbj b h2; (first | lia | omega)
        · rw [q2, iP, ib a h1] at q; have := hbj a h1; (first | lia | omega)
        · rw [ib a h1, ib b h2] at q; exact hLS.inj a h1 b h2 q
      have hix6 : ∀ b ∈ P :: bs, ix' b < vs.length := fun b hb => by
        rcases List.mem_cons.mp hb with rfl | hb
        · rw [iP]; exact hjl
        · rw [ib b hb]; have := hbj b hb; (first | lia | omega)
      have N7 : News g L' _ ((D, listOf (refs bs).toArray c) :: (I, litObj (.ref l) (jj + 1)) :: (L, oL) :: (L' + 1, cell) :: (P, tupObj [.str (S jj) tk', .int o u, v]) :: tps) := fun p hp => N6 p (by
        simp only [List.mem_cons] at hp ⊢
        rcases hp with q | q | q | q | q | q
        · exact .inr (.inl q)
        · exact .inr (.inr (.inl q))
        · exact .inr (.inr (.inr (.inl q)))
        · exact .inr (.inr (.inr (.inr (.inl q))))
        · exact .inl q
        · exact .inr (.inr (.inr (.inr (.inr q)))))
      have hD6 : ∀ p ∈ (P, tupObj [.str (S jj) tk', .int o u, v]) :: tps, p.1 ≠ D := fun p hp => by
        rcases List.mem_cons.mp hp with rfl | hp
        · exact Nat.ne_of_gt l1.1
        · exact hTD p hp
      have hI6 : ∀ p ∈ (P, tupObj [.str (S jj) tk', .int o u, v]) :: tps, p.1 ≠ I := fun p hp => by
        rcases List.mem_cons.mp hp with rfl | hp
        · exact Nat.ne_of_gt l1.2.1
        · exact hTI' p hp
      clear N6
      refine' mutC (L := L) (oL := oL) (heapreplace_spec (x := P) (as := bs) (n := c) (lt := fun a b => decide (fk r ix' a < fk r ix' b)) (by (first | lia | omega)) hb0') X T ?v1 ?v2 ?v3 hoL ?v4 ?v5 rfl rfl hf1 hk1 (by (first | lia | omega)) (by (first | lia | omega)) ?v6
      case v1 => exact F6
      case v2 => exact N7
      case v3 => exact .tail _ (.head _)
      case v4 =>
        intro p hp
        rcases List.mem_append.mp (show p ∈ [(I, litObj (.ref l) (jj + 1)), (L, oL), (L' + 1, cell)] ++ ((P, tupObj [.str (S jj) tk', .int o u, v]) :: tps) from hp) with q | q
        · simp only [List.mem_cons, List.not_mem_nil, or_false] at q
          rcases q with rfl | rfl | rfl
          · exact Ne.symm hDI
          · exact Ne.symm hDL
          · exact Ne.symm hDc
        · exact hD6 p q
      case v5 =>
        have N7t : News g L' _ ((P, tupObj [.str (S jj) tk', .int o u, v]) :: tps) := fun p hp => N7 p (.tail _ (.tail _ (.tail _ (.tail _ hp))))
        exact cmp_dn (N := vs.length) (by (first | lia | omega)) (hTI6.tups N7t hD6) hix6 hinj6 hmo6 hr hre
      intro h8 tk8 F8 N8 st8 hsz8
      clear F6 N7
      obtain ⟨hLS8, hmem8⟩ := hsw
      have hl8 : (sup (fun a b => decide (fk r ix' a < fk r ix' b)) 0 (bs.set 0 P)).length = bs.length := by rw [sup_len (by rw [List.length_set]; exact hb0'), List.length_set]
      generalize sup (fun a b => decide (fk r ix' a < fk r ix' b)) 0 (bs.set 0 P) = cs at *
      have hmem8' : ∀ b ∈ cs, b ∈ P :: bs := fun b hb => by
        rcases hmem8 b hb with rfl | q
        · exact .head _
        · exact .tail _ q
      have hTI8 := hTI6.sub hmem8'
      have hc0' : 0 < cs.length := by (first | lia | omega)
      repeat' ((fail_if_success (with_reducible show wpAny _ _ (subscriptTail _ _ _ _) _ _ _)); (first | (k_unfold; (try dsimp only)) | walk1 | (dsimp only; walk1)))
      refine item_refs0 (as := cs) N8 (.head _) (by (first | lia | omega)) hc0' ?_
      (try dsimp only)
      obtain ⟨t9, u9, tl9, ⟨x9, y9, v9, e9, hv9⟩, hm9⟩ := hTI8 _ (getD0_mem hc0')
      injection e9 with _ e9
      injection e9 with _ e9
      subst e9
      have z9 := (N8 _ (.tail _ (.tail _ (.tail _ (.tail _ hm9))))).1
      refine assign3 rfl ⟨_, z9, rfl, 0, rfl⟩ rfl rfl rfl rfl F8.ns fun h9 tk9 ns9 kp9 => ?_
      have F9 : Fr g L' h9 _ := ⟨ns9, fun b o e => kp9 b o (fun (q : b = L') => by rw [q, no_self F8] at e; cases e) (F8.keep b o e), F8.above⟩
      have N9 : News g L' h9 _ := fun p hp => ⟨kp9 _ _ (N8 p hp).2.1 (N8 p hp).1, (N8 p hp).2⟩
      clear F8 N8 ns9
      repeat' ((fail_if_success (with_reducible show _ ∧ _)); (first | (k_unfold; (try dsimp only)) | walk1 | (dsimp only; walk1)))
      rename Fr _ _ _ _ => F10
      rename News _ _ _ _ => N10
      refine ⟨rfl, ?_⟩
      unfold LoopJ
      refine ⟨_, _, cs, ix', od', (P, tupObj [.str (S jj) tk', .int o u, v]) :: tps, (fun y => if y = Str.ofString "_elem" then some v9 else if y = Str.ofString "_order" then some (.int (od' (cs.getD 0 0)) u9) else if y = Str.ofString "k" then some (.str (S jj) tk') else if y = Str.ofString "elem" then some v else mm y), .ref l, jj + 1, c, t9, o - 1, ?ut, rfl, fr_as F10 ?g1, N10, .inl ⟨rfl, rfl⟩, by (first | lia | omega), hLS8, hTI8, hD6, hI6, ?g2, ?g3⟩
      case g1 =>
        intro y
        by_cases h2 : y = Str.ofString "order"
        · subst h2; exact rfl
        by_cases h1 : y = Str.ofString "top"
        · subst h1; rfl
        by_cases h3 : y = Str.ofString "_elem"
        · subst h3; rfl
        by_cases h4 : y = Str.ofString "_order"
        · subst h4; rfl
        by_cases h5 : y = Str.ofString "k"
        · subst h5; rfl
        by_cases h6 : y = Str.ofString "elem"
        · subst h6; rfl
        simp only [if_neg h1, if_neg h2, if_neg h3, if_neg h4, if_neg h5, if_neg h6]
      case g2 =>
        intro a ha b hb q
        rw [if_pos rfl]
        exact hmo6 a (hmem8' a ha) b (hmem8' b hb) q
      case g3 =>
        intro b hb
        rw [if_pos rfl]
        rcases List.mem_cons.mp (hmem8' b hb) with q | q
        · rw [q, oP]; (first | lia | omega)
        · rw [ob b q]
          have := hlo b q
          rw [if_pos rfl] at this
          (first | lia | omega)
    · rw [decide_eq_false hlt]
      repeat' ((fail_if_success (with_reducible show wpAny _ _ (call (Value.ref _) _ _) _ _ _)); (fail_if_success (with_reducible show _ ∧ _)); (first | (k_unfold; (try dsimp only)) | walk1 | (dsimp only; walk1)))
      rename Fr _ _ _ _ => F6
      rename News _ _ _ _ => N6
      refine ⟨rfl, ?_⟩
      unfold LoopJ
      refine ⟨_, _, bs, ix, od, tps, (fun y => if y = Str.ofString "k" then some (.str (S jj) tk') else if y = Str.ofString "elem" then some v else mm y), .ref l, jj + 1, c, t, o, u, rfl, fr_as F6 ?_, N6, .inl ⟨rfl, rfl⟩, hbk, hLS.keep (by (first | lia | omega)) hb0' hjl hlt, hTI, hTD, hTI', hmo, hlo⟩
      intro y
      by_cases h1 : y = Str.ofString "k"
      · subst h1; rfl
      by_cases h2 : y = Str.ofString "elem"
      · subst h2; rfl
      simp only [if_neg h1, if_neg h2]
  case fin =>
    rintro s' ⟨h, tk, bs, ix, od, tps, mm, fv, jj, c, t, o, u, rfl, F, N, hit, hbk, hLS, hTI, hTD, hTI', hmo, hlo⟩ E'
    have zI := N _ (.tail _ (.head _))
    have go : ∀ h1 jj', LIt h1 I .none jj' → (∀ b o, b ≠ I → h.get? b = some o → h1.get? b = some o) → Fr g L' h1 _ ∧ News g L' h1 ((D, listOf (refs bs).toArray c) :: (I, litObj .none jj') :: (L, oL) :: (L' + 1, cell) :: tps) := fun h1 jj' hi1 hk1' => by
      obtain ⟨oo, es, ep, ho, rr⟩ := F.ns
      refine ⟨⟨⟨oo, es, ep, hk1' _ _ (fun (q : L' = I) => zI.2.1 q.symm) ho, rr⟩, fun b x e => hk1' b x (fun q => by rw [q, zI.2.2] at e; cases e) (F.keep b x e), F.above⟩, fun p hp => ?_⟩
      have keep : ∀ p : Addr × Obj, p.1 ≠ I → (h.get? p.1 = some p.2 ∧ p.1 ≠ L' ∧ g.get? p.1 = none) → (h1.get? p.1 = some p.2 ∧ p.1 ≠ L' ∧ g.get? p.1 = none) := fun p hp q => ⟨hk1' _ _ hp q.1, q.2⟩
      rcases List.mem_cons.mp hp with rfl | hp
      · exact keep _ hDI (N _ (.head _))
      rcases List.mem_cons.mp hp with rfl | hp
      · exact ⟨hi1, zI.2⟩
      rcases List.mem_cons.mp hp with rfl | hp
      · exact keep _ (Ne.symm hIL) (N _ (.tail _ (.tail _ (.head _))))
      rcases List.mem_cons.mp hp with rfl | hp
      · exact keep _ (Ne.symm hIc) (N _ (.tail _ (.tail _ (.tail _ (.head _)))))
      · exact keep _ (hTI' p hp) (N p (.tail _ (.tail _ (.tail _ (.tail _ hp)))))
    have hil : h.IsList l vs.toArray := ⟨_, F.keep _ _ hl, rfl, c0, rfl⟩
    refine lit_fin (s := { s with heap := h, toks := tk }) rfl rfl hit zI.1 hil fun h1 jj' hi1 hk1' hsz1 => ⟨rfl, ?_⟩
    obtain ⟨F1, N1⟩ := go h1 jj' hi1 hk1'
    clear F N zI go hil F5 N5 hit
    repeat' ((fail_if_success (with_reducible show wpAny _ _ (call (Value.builtin _) _ _) _ _ _)); (fail_if_success (with_reducible show wpAny _ _ (call (Value.ref _) _ _) _ _ _)); (first | (k_unfold; (try dsimp only)) | walk1 | (dsimp only; walk1)))
    refine callWith_kw0 ?_
    walk1
    have hmo' : ∀ a ∈ bs, ∀ b ∈ bs, ix a < ix b → od b < od a := fun a ha b hb q => by have := hmo a ha b hb q; rw [if_pos rfl] at this; exact this
    have Nt : News g L' h1 tps := fun p hp => N1 p (.tail _ (.tail _ (.tail _ (.tail _ hp))))
    have hb2 : 2 ≤ bs.length := by (first | lia | omega)
    refine sort_tups (D := D) (bs := bs) (rs := fun a => - fk r ix a) (b := true) (kw := [(Str.ofString "reverse", .bool true)]) (N1 _ (.head _)).1 hb2 (by (first | lia | omega)) (hTI.tups Nt hTD) (nodup_of_map hLS.best.nodup) (od_ne hLS.inj fun a ha b hb q => by have := hmo' a ha b hb q; (first | lia | omega)) (fun a ha b hb => tupLt_dn (N := vs.length) (by (first | lia | omega)) (fun b hb => hLS.ix_lt hb) hLS.inj hmo' hr hre ha hb) (fun a ha b hb hne q => fk_ne (N := vs.length) (r := r) (by (first | lia | omega)) (fun b hb => hLS.ix_lt hb) hLS.inj a ha b hb hne (Int.neg_inj.mp q)) ?so1 (nk_2 D true) fun h2 tk2 cs c2 hcp hcs hl2 hk2 hsz2 => ?_
    case so1 => (unfold argsOk; kernel_rfl)
    have F2 := fr_but F1 hk2 (N1 _ (.head _)).2.1 (N1 _ (.head _)).2.2
    have N2 : News g L' h2 ((D, listOf (refs cs).toArray c2) :: (L, oL) :: (L' + 1, cell) :: tps) := fun p hp => by
      rcases List.mem_cons.mp hp with rfl | hp
      · exact ⟨hl2, (N1 _ (.head _)).2⟩
      rcases List.mem_cons.mp hp with rfl | hp
      · have z := N1 _ (.tail _ (.tail _ (.head _)))
        exact ⟨hk2 _ _ (Ne.symm hDL) z.1, z.2⟩
      rcases List.mem_cons.mp hp with rfl | hp
      · have z := N1 _ (.tail _ (.tail _ (.tail _ (.head _))))
        exact ⟨hk2 _ _ (Ne.symm hDc) z.1, z.2⟩
      · exact ⟨hk2 _ _ (hTD p hp) (Nt p hp).1, (Nt p hp).2⟩
    have hcl : cs.length = bs.length := hcp.length_eq
    have hfin := hLS.fin (by (first | lia | omega)) hcp (hcs.imp fun {a b} q => by rw [if_pos rfl] at q; (first | lia | omega))
    have hTc := hTI.sub (cs := cs) fun b hb => hcp.mem_iff.mp hb
    clear F1 N1 Nt
    dsimp only
    walk1
    walk1
    refine' eval_comp (cl := []) ?cl2 rfl ?nm2 ?_ ?hs2
    case cl2 => with_unfolding_all rfl
    case nm2 => decide +kernel
    case hs2 => (intro _; rfl)
    walk1
    have hout : (List.range cs.length).map (fun k => vs.getD (ix (cs.getD k 0)) Value.none) = ((ord r vs.length).take n.toNat).map (fun i => vs.getD i Value.none) := by
      have e1 : (List.range cs.length).map (fun k => vs.getD (ix (cs.getD k 0)) Value.none) = ((List.range cs.length).map (fun k => cs.getD k 0)).map (fun b => vs.getD (ix b) Value.none) := by rw [List.map_map]; rfl
      have e2 : cs.map (fun b => vs.getD (ix b) Value.none) = (cs.map ix).map (fun i => vs.getD i Value.none) := by rw [List.map_map]; rfl
      rw [e1, range_map_getD, e2, hfin]
      congr 1
      rw [hbk, zal.get]
      rw [List.take_eq_take_iff, ord_len]
      (first | lia | omega)
    have hDs := (N2 _ (.head _)).1
    refine' comp_tups (s := { s with heap := h2, toks := tk2 }) (l := D) (as := cs) (c0 := c2) (fun k => vs.getD (ix (cs.getD k 0)) Value.none) ?c1 ?c2 ?c3 ?c4 ?c5 ?c6 ?c7
    case c1 => rfl
    case c2 => exact hDs
    case c3 => (first | lia | omega)
    case c4 => decide +kernel
    case c5 => rfl
    case c6 =>
      intro k a h5 tk5 m5 hka hns5 st5 Q5 E5 hQ5
      obtain ⟨t9, u9, tl9, ⟨x9, y9, v9, e9, hv9⟩, hm9⟩ := hTc a (List.mem_of_getElem? hka)
      injection e9 with _ e9
      injection e9 with _ e9
      subst e9
      have z9 := st5 _ _ (N2 _ (.tail _ (.tail _ (.tail _ hm9)))).1
      refine assign3 (s := { s with heap := h5, toks := tk5 }) rfl ⟨_, z9, rfl, 0, rfl⟩ rfl rfl rfl rfl hns5 fun h6 tk6 ns6 kp6 => ?_
      refine wpAny_Name (wpAny_loadName_local rfl rfl ns6 (v := v9) rfl ?_) (by decide)
      have ek : cs.getD k 0 = a := by rw [List.getD_eq_getElem?_getD, hka]; rfl
      have ev : vs.getD (ix (cs.getD k 0)) Value.none = v9 := by rw [ek, List.getD_eq_getElem?_getD, hv9]; rfl
      have := hQ5 h6 tk6 _ ns6 kp6
      rw [ev] at this
      exact this
    case c7 =>
      intro h7 tk7 mC c7 hnC hl7 st7
      refine post_eval (s := { s with heap := h2, toks := tk2 }) hnC fun h8 hk8 hsz8 => ?_
      rw [hout] at hl7
      have hsz : ∀ b o, h2.get? b = some o → b ≠ h2.objs.size + 2 := fun b o e => neN (by have := ltN (Heap.lt_size e); (first | lia | omega))
      refine ret h8 _ _ c7 (fun b o e => hk8 _ _ (hsz _ _ (F2.keep _ _ e)) (st7 _ _ (F2.keep _ _ e))) (hk8 _ _ (hsz _ _ (N2 _ (.tail _ (.head _))).1) (st7 _ _ (N2 _ (.tail _ (.head _))).1)) (hk8 _ _ (neN (by (first | lia | omega))) hl7) ?_ ?_
      · cases q : g.get? (h2.objs.size + 1) with
        | none => rfl
        | some o => have := ltN (Heap.lt_size (F2.keep _ _ q)); (first | lia | omega)
      · have h0 : L < h2.objs.size := Heap.lt_size (N2 (L, oL) (.tail _ (.head _))).1
        refine neN ?_
        dsimp only
        (first | lia | omega)
  )
end Mine
end
theorem Mine.start_X1KL : True := by
  w_top off
  trivial
section
open PySem PySem.W PySem.Calls PyProof.Rows
set_option maxRecDepth 100000
set_option maxHeartbeats 8000000
namespace Mine
variable {w : World}
theorem nl_heap_k {g : Heap} {s : Shared} {Q : Flow → Shared → Prop} {dp un : Nat} {gd : Option (List Code)} {env1 : Env} {mean : ExcName → Option Value} {mg mb : Str → Option Value}
   {oc : Value} {od : Option Addr} {osl : Array (Option Value)} {name qual : Str} {params : Arguments} {body tail : List Stmt} {scope : Scope} {dV kV doc pm cdv ct : Value} {an : Option Addr}
   {L L' c src l c0 : Nat} {oL cell : Obj} {n : Int} {tn : Tok} {vs : List Value} {S : Nat → Str} {r : Nat → Int} {rest : List (Addr × Obj)} {m : Str → Option Value}
   (hK : (hd.heap_39 w.params).lookup 82 = some ⟨oc, od, .func (fnOf name qual params body scope dV kV doc pm an cdv ct), osl⟩) (ht : body.drop 2 = tail)
   (X : (hd.heap_39 w.params).In g) (T : Top hd.view_39 (looseW hd.view_39 [Str.ofString "nsmallest", Str.ofString "nlargest"]) mean mg mb g)
   (F : Fr g L' s.heap (fun y => if y = Str.ofString "iterable" then some (.ref src) else if y = Str.ofString "n" then some (.int n tn) else m y)) (N : News g L' s.heap ((L, oL) :: (c, cell) :: rest)) 
   (hc : c = L' + 1) (hcell : cell.data = .cell (some (.ref 103)))
   (hf1 : env1.frame = some L) (hk1 : env1.scope.kind = .function) (hoL : ∀ vs, oL.data ≠ .fields vs) (hcL : c ≠ L) 
   (hdp : dp + 6 < recursionLimit) (hun : un + 360 < cLine)
   (hl : g.get? l = some (listOf vs.toArray c0)) (hN : vs.length < 64) (hN2 : vs.length = 0 ∨ 2 ≤ vs.length) (hn1 : n ≠ 1) (hn0 : -1 ≤ n) (hn : n < 64)
   (hkey : ∀ i v, vs[i]? = some v → PureSpec 3 w 103 [v] (fun t => .str (S i) t))
   (hr : ∀ i j, i < vs.length → j < vs.length → strLt (S i) (S j) = decide (r j < r i)) (hre : ∀ i j, i < vs.length → j < vs.length → (S i = S j ↔ r i = r j))
   (hsrc : ∀ (A : Around) (Q E : Value → Shared → Prop) tk, (∀ h' (I : Nat), Fr g L' h' (fun y => if y = Str.ofString "iterable" then some (.ref src) else if y = Str.ofString "n" then some (.int n tn) else m y) → News g L' h' [(L, oL), (c, cell), (I, litObj (.ref l) 0)] → I ≠ L → I ≠ c → s.heap.objs.size ≤ h'.objs.size → Q (.ref I) { s with heap := h', toks := tk }) →
     wpAny (model PySem.Challenge.rw_mq0307_01.row.prog w) A (call (.builtin "iter") [.ref src]) Q E { s with toks := tk })
   (ret : ∀ h' tk' (R : Nat) cc, Stays g h' → h'.get? L = some oL → h'.get? R = some (listOf (((ord r vs.length).take n.toNat).map fun i => vs.getD i Value.none).toArray cc) → g.get? R = none → R ≠ L → Q (.ret (.ref R)) { s with heap := h', toks := tk' }) :
   wpAny (model PySem.Challenge.rw_mq0307_01.row.prog w) ((AR dp un gd [env1]).deeper (envOfC qual scope L' 82 cdv)) (execs tail (envOfC qual scope L' 82 cdv)) Q (fun _ _ => False) s := by
  subst hc
  w_strict (
  revert X
  k_fill
  intro X
  have e := lk_inj hK (by k_is : (hd.heap_39 w.params).lookup 82 = some ⟨_, _, .func (fnOf _ _ _ _ _ _ _ _ _ _ _ _), _⟩)
  injection e with e1 e2 e3 e4
  injection e3 with e3
  injection e3 with e5 e6 e7 e8 e9 e10 e11 e12 e13 e14 e15 e16 e17 e18
  injection e8 with e8
  subst_vars
  clear hK e10 e11
  simp only [List.drop_succ_cons, List.drop_zero]
  (try dsimp only) 
  (try k_fold)
  k_with_none
  repeat' ((fail_if_success (with_reducible show wpAny _ _ (call (Value.ref _) _ _) _ _ _)); (fail_if_success (with_reducible show wpAny _ _ (call (Value.builtin _) _ _) _ _ _));  (first | (k_unfold; (try dsimp only)) | walk1 | (dsimp only; walk1)))
  refine hsrc _ _ _ _ fun h1 I F1 N1 hIL hIc hsz1 => ?_
  clear F N
  repeat' ((fail_if_success (with_reducible show wpAny _ _ (exec (Stmt.Assign _ (PySem.Expr.ListComp _ _ _ _) _) _) _ _ _)); walk1)
  refine' exec_assign_comp (cl := [(Str.ofString "key", L' + 1)]) ?sw ?cl rfl ?nm ?_ ?hs
  case sw => with_unfolding_all rfl
  case cl => with_unfolding_all rfl
  case nm => decide +kernel
  case hs => (intro _; rfl)
  repeat' ((fail_if_success (with_reducible show wpAny _ _ (call (Value.type "zip") _ _) _ _ _));  (first | (k_unfold; (try dsimp only)) | walk1 | (dsimp only; walk1)))
  rename_i a1 F2 N2 a4
  refine' zip_comp (L := L) (oL := oL) (cA := L' + 1) (cell := cell) (l := l) (c0 := c0) (vs := vs) (g := g) (fun k o => ∃ v t u, vs[k]? = some v ∧ o = tupObj [.str (S k) t, .int (-(k : Int)) u, v]) ?q0 ?z1 ?z2 ?y1 ?y2 ?y3 hIL hIc hl ?q1 ?q2 ?q3 ?z3 ?q4 ?q5 ?q6 ?z4 ?z5
  case q0 => rfl
  case y1 => exact a1
  case y2 => exact F2
  case y3 => exact N2
  case q1 => rfl
  case q2 => rfl
  case q3 => rfl
  case q4 => rfl
  case q5 => rfl
  case q6 => rfl
  case z1 => exact small_dn hn0 hn
  case z2 => (rw [rs_dn]; split <;> (first | lia | omega))
  case z3 => decide +kernel
  case z4 =>
    intro C k v h tk mC u hk hv hnC hi he stg hnL hhL hhc Q' E' hQ'
    walk1
    walk1
    walk1
    refine wpAny_Name (wpAny_loadName_cell rfl rfl rfl ⟨cell, hhc, hcell⟩ ?_) (by decide)
    walk1
    walk1
    refine wpAny_Name (wpAny_loadName_local rfl rfl hnC he ?_) (by decide)
    walk1
    (try dsimp only)
    refine ⟨X.keeps stg, ?_⟩
    have hgL' : g.get? L' = none := by
      cases q : g.get? L' with
      | none => rfl
      | some o => exact absurd (Nat.lt_of_lt_of_le (Heap.lt_size q) F2.above) (Nat.lt_irrefl _)
    refine hkey k v hv _ _ _ _ (gr_of X T stg hgL' hnL hhL hoL (N2 _ (.head _)).2.2 rfl rfl hf1 hk1 (by (first | lia | omega)) (by (first | lia | omega))) fun h2 tk2 t st2 hsz2 => ?_
    walk1
    refine wpAny_Name (wpAny_loadName_local rfl rfl (hnC.keeps st2) hi ?_) (by decide)
    walk1
    refine wpAny_Name (wpAny_loadName_local rfl rfl (hnC.keeps st2) he ?_) (by decide)
    walk1
    refine wpAny_newObj_type (hQ' _ _ _ _ (fun b o e => Heap.get?_push_of_some _ (st2 b o e)) hsz2 (Heap.get?_push_size _ rfl) ⟨v, t, u, hv, ?_⟩)
    have e0 : (0 : Int) + (k : Int) * -1 = -(k : Int) := by (first | lia | omega)
    rw [e0]; rfl
  case z5 =>
    intro h3 tk3 as D c3 f3 j3 F3 N3 hDI hDL hDc hal hap haq hao hj1 hj2
    have hrs : (Builtin.Range.rangeSize 0 (-n) (-1)).toNat = n.toNat := by rw [rs_dn]; split <;> (first | lia | omega)
    have hgs : ∀ q ∈ as, q ≠ I ∧ q ≠ L' ∧ g.get? q = none := fun q hq => by
      have h0 := (haq q hq).1
      dsimp only at h0
      have i1 : I < _ := ltN (Heap.lt_size (N2 (I, litObj (.ref l) 0) (.tail _ (.tail _ (.head _)))).1)
      have i2 := ltN F2.ns.lt
      refine ⟨neN (by (first | lia | omega)), neN (by (first | lia | omega)), ?_⟩
      cases q' : g.get? q with
      | none => rfl
      | some o => have := ltN (Heap.lt_size (F2.keep _ _ q')); (first | lia | omega)
    clear F2 N2 a1 a4 
    refine' nl_heap2_k (w := w) (L := L) (L' := L') (c := L' + 1) (D := D) (I := I) (l := l) (c0 := c0) (c3 := c3) (j3 := j3) (oL := oL) (cell := cell) (n := n) (tn := tn) (vs := vs) (S := S) (r := r) (m := fun y => if y = Str.ofString "iterable" then some (.ref src) else m y) (as := as) (f3 := f3) ?w1 ?w2 X T ?w3 N3 rfl hcell hDI hDL hDc hIL hIc ?w4 hap ?w5 ?w6 ?w7 ?w8 hf1 hk1 hoL hcL hdp hun hl hN hN2 hn1 hn0 hn hkey hr hre ?w9
    case w1 => k_is
    case w2 => rfl
    case w3 =>
      refine fr_as F3 fun y => ?_
      by_cases h1 : y = Str.ofString "result"
      · subst h1; rfl
      by_cases h2 : y = Str.ofString "it"
      · subst h2; rfl
      by_cases h3 : y = Str.ofString "iterable"
      · subst h3; rfl
      simp only [if_neg h1, if_neg h2, if_neg h3]
    case w4 => rw [hal, hrs]
    case w5 => exact fun q hq => ⟨(haq q hq).2, hgs q hq⟩
    case w6 =>
      intro k q hq
      obtain ⟨o, ho, v, t, u, hv, rfl⟩ := hao k q hq
      exact ⟨v, t, u, hv, ho⟩
    case w7 => exact fun q => hj1 (by have := rs_dn (n := n); split at this <;> (first | lia | omega))
    case w8 => exact fun q => hj2 (by have := rs_dn (n := n); split at this <;> (first | lia | omega))
    case w9 => exact fun h' tk' R cc a b c d e => ret h' tk' R cc a b c d e
  )
end Mine
end
theorem Mine.start_X3KL : True := by
  w_top off
  trivial
section
open PySem PySem.W PySem.Calls PyProof.Rows
set_option maxRecDepth 100000
set_option maxHeartbeats 8000000
namespace Mine
variable {w : World}
theorem nl_list_k {g : Heap} {s : Shared} {Q : Flow → Shared → Prop} {dp un : Nat} {gd : Option (List Code)} {env1 : Env} {mean : ExcName → Option Value} {mg mb : Str → Option Value}
   {oc : Value} {od : Option Addr} {osl : Array (Option Value)} {name qual : Str} {params : Arguments} {body tail tail2 : List Stmt} {scope : Scope} {dV kV doc pm cdv ct : Value} {an : Option Addr}
   {L L' c l c0 : Nat} {oL cell : Obj} {n : Int} {tn : Tok} {vs : List Value} {S : Nat → Str} {r : Nat → Int} {m : Str → Option Value}
   (hK : (hd.heap_39 w.params).lookup 82 = some ⟨oc, od, .func (fnOf name qual params body scope dV kV doc pm an cdv ct), osl⟩) (ht : body.drop 1 = tail)
   (X : (hd.heap_39 w.params).In g) (T : Top hd.view_39 (looseW hd.view_39 [Str.ofString "nsmallest", Str.ofString "nlargest"]) mean mg mb g)
   (F : Fr g L' s.heap (fun y => if y = Str.ofString "iterable" then some (.ref l) else if y = Str.ofString "n" then some (.int n tn) else m y)) (N : News g L' s.heap [(L, oL), (c, cell)]) 
   (hc : c = L' + 1) (hcell : cell.data = .cell (some (.ref 103)))
   (hf1 : env1.frame = some L) (hk1 : env1.scope.kind = .function) (hoL : ∀ vs, oL.data ≠ .fields vs) (hcL : c ≠ L) 
   (hdp : dp + 8 < recursionLimit) (hun : un + 480 < cLine)
   (hl : g.get? l = some (listOf vs.toArray c0)) (hN : vs.length < 64) (hN2 : 2 ≤ vs.length) (hn0 : -1 ≤ n) (hn : n < 64)
   (hkey : ∀ i v, vs[i]? = some v → PureSpec 3 w 103 [v] (fun t => .str (S i) t))
   (hr : ∀ i j, i < vs.length → j < vs.length → strLt (S i) (S j) = decide (r j < r i))
   (ht2 : body.drop 2 = tail2)
   (k : n < vs.length → ∀ h' tk' ts, Fr g L' h' (fun y => if y = Str.ofString "iterable" then some (.ref l) else if y = Str.ofString "n" then some (.int n tn) else if y = Str.ofString "size" then some (.int vs.length ts) else m y) → News g L' h' [(L, oL), (c, cell)] →
     wpAny (model PySem.Challenge.rw_mq0307_01.row.prog w) ((AR dp un gd [env1]).deeper (envOfC qual scope L' 82 cdv)) (execs tail2 (envOfC qual scope L' 82 cdv)) Q (fun _ _ => False) { s with heap := h', toks := tk' })
   (ret : ∀ h' tk' (R : Nat) cc, Stays g h' → h'.get? L = some oL → h'.get? R = some (listOf (((ord r vs.length).take n.toNat).map fun i => vs.getD i Value.none).toArray cc) → g.get? R = none → R ≠ L → Q (.ret (.ref R)) { s with heap := h', toks := tk' }) :
   wpAny (model PySem.Challenge.rw_mq0307_01.row.prog w) ((AR dp un gd [env1]).deeper (envOfC qual scope L' 82 cdv)) (execs tail (envOfC qual scope L' 82 cdv)) Q (fun _ _ => False) s := by
  subst hc
  w_strict (
  revert X
  k_fill
  intro X
  have e := lk_inj hK (by k_is : (hd.heap_39 w.params).lookup 82 = some ⟨_, _, .func (fnOf _ _ _ _ _ _ _ _ _ _ _ _), _⟩)
  injection e with e1 e2 e3 e4
  injection e3 with e3
  injection e3 with e5 e6 e7 e8 e9 e10 e11 e12 e13 e14 e15 e16 e17 e18
  injection e8 with e8
  subst_vars
  clear hK e10 e11
  simp only [List.drop_succ_cons, List.drop_zero]
  (try dsimp only) 
  (try k_fold)
  k_with_none
  walk1
  refine wpAny_Try_except ?_
  repeat' ((fail_if_success (with_reducible show wpAny _ _ (call (Value.ref _) _ _) _ _ _)); (fail_if_success (with_reducible show wpAny _ _ (call (Value.builtin _) _ _) _ _ _));  (first | (k_unfold; (try dsimp only)) | walk1 | (dsimp only; walk1)))
  have hil : s.heap.IsList l vs.toArray := ⟨_, F.keep _ _ hl, rfl, c0, rfl⟩
  refine len_list hil (by simp only [List.size_toArray]; (first | lia | omega)) ?_
  clear hil
  repeat' ((fail_if_success (with_reducible show wpAny _ _ (truthy _) _ _ _)); (fail_if_success (with_reducible show wpAny _ _ (call (Value.builtin _) _ _) _ _ _));  (first | (k_unfold; (try dsimp only)) | walk1 | (dsimp only; walk1)))
  rename Fr _ _ _ _ => F1
  rename News _ _ _ _ => N1
  rename Heap => h1
  refine wpAny_truthy_bool ?_
  by_cases hge : (vs.length : Int) ≤ n
  · rw [if_pos (by simpa using hge)]
    repeat' ((fail_if_success (with_reducible show wpAny _ _ (call (Value.builtin _) _ _) _ _ _));  (first | (k_unfold; (try dsimp only)) | walk1 | (dsimp only; walk1)))
    show wpAny _ _ (call (Value.builtin "sorted") [Value.ref l] [(Str.ofString "key", .ref 103), (Str.ofString "reverse", .bool true)]) _ _ _
    have szl : ∀ b o, h1.get? b = some o → b < h1.objs.size := fun b o e => Heap.lt_size e
    refine sorted_call (vs := vs) (tree := fun x => ksk_tree x (.ref 103) true) ⟨_, F1.keep _ _ hl, rfl, c0, rfl⟩ hN ?s2 ?s3 ?s4 ?_
    case s2 => (unfold argsOk; kernel_rfl)
    case s3 => (intro x; unfold argsOk; kernel_rfl)
    case s4 => exact fun x => ksk_t2 103 x true
    intro D h2 hD hDl st2 hsz2
    dsimp only at hD st2 hsz2 ⊢
    have neD : ∀ b o, h1.get? b = some o → b ≠ D := fun b o e q => by have := ltN (szl b o e); rw [q, hD] at this; (first | lia | omega)
    have hDg : g.get? D = none := by
      cases q : g.get? D with
      | none => rfl
      | some o => exact absurd rfl (neD _ _ (F1.keep _ _ q))
    have hDL' : D ≠ L' := fun q => by obtain ⟨o, _, _, ho, _⟩ := F1.ns; exact neD _ _ ho q.symm
    refine kk_sort (b := true) (S := S) (r := fun i => - r i) hDl hN2 hN ?key (fun i j hi hj => by rw [hr i j hi hj, decide_eq_decide]; omega) ?fin
    case key =>
      intro i v hv h3 tk3 Q' E' hk3 hQ'
      have up : Stays h1 h3 := fun b o e => hk3 b o (neD b o e) (st2 b o e)
      exact hkey i v hv _ _ Q' E' (Gr.in1 (Gr.in1 (gr_of (k := 5) X T (fun b o e => up b o (F1.keep b o e)) (no_self F1) (F1.ns.keeps up) (up _ _ (N1 _ (.head _)).1) hoL (N1 _ (.head _)).2.2 rfl rfl hf1 hk1 (by (first | lia | omega)) (by (first | lia | omega))))) fun h' tk' t a b => hQ' h' tk' t a b
    case fin =>
      intro h3 tk3 q c3 hqp hqs hl3 hk3 hsz3
      refine ⟨rfl, ?_⟩
      have eq : q = ord r vs.length := ord_unique hqp (hqs.imp fun {a b} q => by unfold SL turned at *; simp only [if_true] at q; omega)
      have up : Stays h1 h3 := fun b o e => hk3 b o (neD b o e) (st2 b o e)
      have F3 : Fr g L' h3 _ := ⟨F1.ns.keeps up, fun b o e => up b o (F1.keep b o e), F1.above⟩
      have N3 : News g L' h3 [(D, listOf (q.map fun i => vs.getD i Value.none).toArray c3), (L, oL), (L' + 1, cell)] := fun p hp => by
        rcases List.mem_cons.mp hp with rfl | hp
        · exact ⟨hl3, hDL', hDg⟩
        · exact ⟨up _ _ (N1 p hp).1, (N1 p hp).2⟩
      clear F1 N1
      repeat' ((fail_if_success (with_reducible show wpAny _ _ (subscriptTail _ _ _ _) _ _ _));  (first | (k_unfold; (try dsimp only)) | walk1 | (dsimp only; walk1)))
      refine kba_turn (value' := PySem.Expr.Name (Str.ofString "x") ⟨0, 0, 0, 0⟩) (fun _ => rfl) ?_
      refine kmk_slice (s := { s with heap := h3, toks := tk3 }) (lo := none) (hi := some n) F3 N3 ⟨_, (N3 _ (.head _)).1, rfl, c3, rfl⟩ IsPart.none (IsPart.int _ _) ?sl ?su (fun _ => rfl) ?sz
      case su => with_unfolding_all rfl
      case sz => (rw [List.size_toArray, List.length_map, hqp.length_eq, List.length_range, sizeLine_eq]; (first | lia | omega))
      intro D2 h4 F4 N4 hlt4
      have e4 : slicePick (q.map fun i => vs.getD i Value.none).toArray none (some n) none = (((ord r vs.length).take n.toNat).map fun i => vs.getD i Value.none).toArray := by
        have en : n = ((n.toNat : Nat) : Int) := by (first | lia | omega)
        rw [en, slicePick_upto', Int.toNat_natCast, eq, List.map_take]
      have z := N4 _ (.head _)
      rw [e4] at z
      exact ret h4 _ D2 _ F4.keep (N4 _ (.tail _ (.tail _ (.head _)))).1 z.1 z.2.2 (Nat.ne_of_gt (hlt4 (L, oL) (.tail _ (.head _))))
  · rw [if_neg (by simpa using hge)]
    repeat' ((fail_if_success (with_reducible show wpAny _ _ (execs (_ :: _) _) _ _ _)); (first | (k_unfold; (try dsimp only)) | walk1 | (dsimp only; walk1)))
    refine' k (by (first | lia | omega)) h1 tk ?ts (fr_as F1 ?fa) N1
    case fa =>
      intro y
      by_cases h1 : y = Str.ofString "size"
      · subst h1; exact rfl
      by_cases h2 : y = Str.ofString "iterable"
      · subst h2; rfl
      by_cases h3 : y = Str.ofString "n"
      · subst h3; rfl
      simp only [if_neg h1, if_neg h2, if_neg h3]
  )
end Mine
end
theorem Mine.start_X4KL : True := by
  w_top off
  trivial
section
open PySem PySem.W PySem.Calls PyProof.Rows
set_option maxRecDepth 100000
set_option maxHeartbeats 8000000
namespace Mine
variable {w : World}
theorem nl_one_k {g : Heap} {s : Shared} {Q : Flow → Shared → Prop} {dp un : Nat} {gd : Option (List Code)} {env1 : Env} {mean : ExcName → Option Value} {mg mb : Str → Option Value}
   {oc : Value} {od : Option Addr} {osl : Array (Option Value)} {name qual : Str} {params : Arguments} {body tail : List Stmt} {scope : Scope} {dV kV doc pm cdv ct : Value} {an : Option Addr}
   {L L' c src l c0 : Nat} {oL cell : Obj} {n : Int} {tn : Tok} {vs : List Value} {S : Nat → Str} {r : Nat → Int} {rest : List (Addr × Obj)} {m : Str → Option Value}
   (hK : (hd.heap_39 w.params).lookup 82 = some ⟨oc, od, .func (fnOf name qual params body scope dV kV doc pm an cdv ct), osl⟩) (ht : body.drop 0 = tail)
   (X : (hd.heap_39 w.params).In g) (T : Top hd.view_39 (looseW hd.view_39 [Str.ofString "nsmallest", Str.ofString "nlargest"]) mean mg mb g)
   (F : Fr g L' s.heap (fun y => if y = Str.ofString "iterable" then some (.ref src) else if y = Str.ofString "n" then some (.int n tn) else m y)) (N : News g L' s.heap ((L, oL) :: (c, cell) :: rest)) 
   (hc : c = L' + 1) (hcell : cell.data = .cell (some (.ref 103)))
   (hf1 : env1.frame = some L) (hk1 : env1.scope.kind = .function) (hoL : ∀ vs, oL.data ≠ .fields vs) (hcL : c ≠ L) 
   (hdp : dp + 8 < recursionLimit) (hun : un + 480 < cLine)
   (hl : g.get? l = some (listOf vs.toArray c0)) (hN : vs.length < 64) (hn1 : n = 1)
   (hval : ∀ v ∈ vs, (∃ i t, v = Value.int i t) ∨ (∃ x t, v = Value.str x t))
   (hkey : ∀ i v, vs[i]? = some v → PureSpec 3 w 103 [v] (fun t => .str (S i) t))
   (hr : ∀ i j, i < vs.length → j < vs.length → strLt (S i) (S j) = decide (r j < r i))
   (hsrc : ∀ (A : Around) (Q E : Value → Shared → Prop) tk, (∀ h' (I : Nat), Fr g L' h' (fun y => if y = Str.ofString "iterable" then some (.ref src) else if y = Str.ofString "n" then some (.int n tn) else m y) → News g L' h' [(L, oL), (c, cell), (I, litObj (.ref l) 0)] → I ≠ L → I ≠ c → s.heap.objs.size ≤ h'.objs.size → Q (.ref I) { s with heap := h', toks := tk }) →
     wpAny (model PySem.Challenge.rw_mq0307_01.row.prog w) A (call (.builtin "iter") [.ref src]) Q E { s with toks := tk })
   (ret : ∀ h' tk' (R : Nat) cc, Stays g h' → h'.get? L = some oL → h'.get? R = some (listOf (((ord r vs.length).take n.toNat).map fun i => vs.getD i Value.none).toArray cc) → g.get? R = none → R ≠ L → Q (.ret (.ref R)) { s with heap := h', toks := tk' }) :
   wpAny (model PySem.Challenge.rw_mq0307_01.row.prog w) ((AR dp un gd [env1]).deeper (envOfC qual scope L' 82 cdv)) (execs tail (envOfC qual scope L' 82 cdv)) Q (fun _ _ => False) s := by
  subst hc
  subst hn1
  w_strict (
  revert X
  k_fill
  intro X
  have e := lk_inj hK (by k_is : (hd.heap_39 w.params).lookup 82 = some ⟨_, _, .func (fnOf _ _ _ _ _ _ _ _ _ _ _ _), _⟩)
  injection e with e1 e2 e3 e4
  injection e3 with e3
  injection e3 with e5 e6 e7 e8 e9 e10 e11 e12 e13 e14 e15 e16 e17 e18
  injection e8 with e8
  subst_vars
  clear hK e10 e11
  simp only [List.drop_succ_cons, List.drop_zero]
  (try dsimp only) 
  (try k_fold)
  k_with_none
  repeat' ((fail_if_success (with_reducible show wpAny _ _ (call (Value.ref _) _ _) _ _ _)); (fail_if_success (with_reducible show wpAny _ _ (call (Value.builtin _) _ _) _ _ _));  (first | (k_unfold; (try dsimp only)) | walk1 | (dsimp only; walk1)))
  refine hsrc _ _ _ _ fun h1 I F1 N1 hIL hIc hsz1 => ?_
  clear F N
  repeat' ((fail_if_success (with_reducible show wpAny _ _ (call (Value.ref _) _ _) _ _ _)); (fail_if_success (with_reducible show wpAny _ _ (call (Value.builtin _) _ _) _ _ _));  (first | (k_unfold; (try dsimp only)) | walk1 | (dsimp only; walk1)))
  rename Fr _ _ _ _ => F2
  rename News _ _ _ _ => N2
  rename Heap => h2
  refine call_object ?_
  have F3 := F2.push objObj
  have N3 := News.push F2 N2 objObj
  have sz2 : ∀ b o, h2.get? b = some o → b < h2.objs.size := fun b o e => Heap.lt_size e
  have hOI : h2.objs.size ≠ I := Nat.ne_of_gt (sz2 _ _ (N2 (I, litObj (.ref l) 0) (by simp)).1)
  dsimp only
  generalize hO : h2.objs.size = O at N3 sz2 hOI ⊢
  generalize h2.push objObj = h3 at F3 N3 ⊢
  clear F2 N2 hO sz2
  repeat' ((fail_if_success (with_reducible show wpAny _ _ (call (Value.ref _) _ _) _ _ _)); (fail_if_success (with_reducible show wpAny _ _ (call (Value.builtin _) _ _) _ _ _));  (first | (k_unfold; (try dsimp only)) | walk1 | (dsimp only; walk1)))
  rename Fr _ _ _ _ => F4
  rename News _ _ _ _ => N4
  rename Heap => h4
  show wpAny _ _ (call (Value.builtin "max") [Value.ref I] [(Str.ofString "default", .ref O), (Str.ofString "key", .ref 103)]) _ _ _
  have zI := N4 (I, litObj (.ref l) 0) (by simp)
  have NI : News g L' h4 [(I, litObj (.ref l) 0)] := fun p hp => by rw [List.mem_singleton.mp hp]; exact zI
  have st := stays_ground F4 NI
  obtain ⟨o4, es4, ep4, ho4, r4⟩ := F4.ns
  have hL4 : (hideAll h4 [I]).get? L' = some o4 := hideAll_get _ ho4 fun q => zI.2.1 (List.mem_singleton.mp q).symm
  have hLL4 : (hideAll h4 [I]).get? L = some oL := hideAll_get _ (N4 (L, oL) (by simp)).1 fun q => hIL (List.mem_singleton.mp q).symm
  have hkp : ∀ h5, Stays (hideAll h4 [I]) h5 → Fr g L' h5 _ ∧ News g L' h5 [(O, objObj), (L, oL), (L' + 1, cell)] := fun h5 st5 => by
    have kp : ∀ a o, a ≠ I → h4.get? a = some o → h5.get? a = some o := fun a o ha e => st5 a o (hideAll_get _ e fun q => ha (List.mem_singleton.mp q))
    refine ⟨fr_but F4 kp zI.2.1 zI.2.2, fun p hp => ?_⟩
    have z := N4 p (by simp only [List.mem_cons, List.not_mem_nil, or_false] at hp ⊢; rcases hp with q | q | q <;> simp [q])
    refine ⟨kp _ _ ?_ z.1, z.2⟩
    simp only [List.mem_cons, List.not_mem_nil, or_false] at hp
    rcases hp with q | q | q
    · rw [q]; exact hOI
    · rw [q]; exact Ne.symm hIL
    · rw [q]; exact Ne.symm hIc
  have gL := (N4 (L, oL) (by simp)).2.2
  refine max_call_k (s := { s with heap := h4, toks := tk }) (g := hideAll h4 [I]) (l := l) (vs := vs) (c0 := c0) (gr_of (k := 4) X T st (no_self F4) ⟨o4, es4, ep4, hL4, r4⟩ hLL4 hoL gL rfl rfl hf1 hk1 (by (first | lia | omega)) (by (first | lia | omega))) (stays_hide _ _) (st _ _ hl) (hideAll_none _ (.head _)) zI.1 (Nat.le_of_eq (hideAll_size _ _)) hkey (fun i j hi hj => hr j i hj hi) ?R0 ?R
  case R0 =>
    intro h0 h5 tk5 st5 hsz5
    obtain ⟨F5, N5⟩ := hkp h5 st5
    clear F4 N4 NI zI hkp ho4
    repeat' ((fail_if_success (with_reducible show wpAny _ _ (call (Value.ref _) _ _) _ _ _)); (first | (k_unfold; (try dsimp only)) | walk1 | (dsimp only; walk1)))
    rename Fr _ _ _ _ => F6
    rename News _ _ _ _ => N6
    rename_i l6 l7
    have e0 : (((ord r vs.length).take (1 : Int).toNat).map fun i => vs.getD i Value.none) = [] := by
      rw [List.eq_nil_of_length_eq_zero (l := ord r vs.length) (by rw [ord_len, h0])]; rfl
    rw [e0] at ret
    exact ret _ _ _ 0 F6.keep (N6 _ (.tail _ (.tail _ (.head _)))).1 (N6 _ (.head _)).1 (N6 _ (.head _)).2.2 (Nat.ne_of_gt l7.2.1)
  case R =>
    intro b v h5 tk5 hv hb st5 hsz5
    obtain ⟨F5, N5⟩ := hkp h5 st5
    clear F4 N4 NI zI hkp ho4
    have e1 : (((ord r vs.length).take (1 : Int).toNat).map fun i => vs.getD i Value.none) = [v] := by
      show (((ord r vs.length).take 1).map fun i => vs.getD i Value.none) = [v]
      rw [least_take hb, List.map_singleton, List.getD_eq_getElem?_getD, hv]; rfl
    rw [e1] at ret
    rcases hval v (List.mem_of_getElem? hv) with ⟨i, t, rfl⟩ | ⟨x, t, rfl⟩
    all_goals repeat' ((fail_if_success (with_reducible show wpAny _ _ (call (Value.ref _) _ _) _ _ _)); (first | (k_unfold; (try dsimp only)) | walk1 | (dsimp only; walk1)))
    all_goals refine wpAny_is_other rfl (by intro x; cases x) ?_
    all_goals repeat' ((fail_if_success (with_reducible show wpAny _ _ (call (Value.ref _) _ _) _ _ _)); (first | (k_unfold; (try dsimp only)) | walk1 | (dsimp only; walk1)))
    all_goals (
      rename Fr _ _ _ _ => F6
      rename News _ _ _ _ => N6
      rename_i l6 l7
      exact ret _ _ _ 0 F6.keep (N6 _ (.tail _ (.tail _ (.head _)))).1 (N6 _ (.head _)).1 (N6 _ (.head _)).2.2 (Nat.ne_of_gt l7.2.1))
  )
theorem nl_not1 {g : Heap} {s : Shared} {Q : Flow → Shared → Prop} {dp un : Nat} {gd : Option (List Code)} {env1 : Env} {mean : ExcName → Option Value} {mg mb : Str → Option Value}
   {oc : Value} {od : Option Addr} {osl : Array (Option Value)} {name qual : Str} {params : Arguments} {body tail tail2 : List Stmt} {scope : Scope} {dV kV doc pm cdv ct : Value} {an : Option Addr}
   {L' src : Nat} {n : Int} {tn : Tok} {news : List (Addr × Obj)} {m : Str → Option Value}
   (hK : (hd.heap_39 w.params).lookup 82 = some ⟨oc, od, .func (fnOf name qual params body scope dV kV doc pm an cdv ct), osl⟩) (ht : body.drop 0 = tail)
   (X : (hd.heap_39 w.params).In g) (T : Top hd.view_39 (looseW hd.view_39 [Str.ofString "nsmallest", Str.ofString "nlargest"]) mean mg mb g)
   (F : Fr g L' s.heap (fun y => if y = Str.ofString "iterable" then some (.ref src) else if y = Str.ofString "n" then some (.int n tn) else m y)) (N : News g L' s.heap news) 
   (hn1 : n ≠ 1) (ht2 : body.drop 1 = tail2)
   (k : ∀ tk', wpAny (model PySem.Challenge.rw_mq0307_01.row.prog w) ((AR dp un gd [env1]).deeper (envOfC qual scope L' 82 cdv)) (execs tail2 (envOfC qual scope L' 82 cdv)) Q (fun _ _ => False) { s with toks := tk' }) :
   wpAny (model PySem.Challenge.rw_mq0307_01.row.prog w) ((AR dp un gd [env1]).deeper (envOfC qual scope L' 82 cdv)) (execs tail (envOfC qual scope L' 82 cdv)) Q (fun _ _ => False) s := by
  w_strict (
  revert X
  k_fill
  intro X
  have e := lk_inj hK (by k_is : (hd.heap_39 w.params).lookup 82 = some ⟨_, _, .func (fnOf _ _ _ _ _ _ _ _ _ _ _ _), _⟩)
  injection e with e1 e2 e3 e4
  injection e3 with e3
  injection e3 with e5 e6 e7 e8 e9 e10 e11 e12 e13 e14 e15 e16 e17 e18
  injection e8 with e8
  subst_vars
  clear hK e10 e11
  simp only [List.drop_succ_cons, List.drop_zero]
  (try dsimp only) 
  (try k_fold)
  k_with_none
  repeat' ((fail_if_success (with_reducible show wpAny _ _ (truthy _) _ _ _)); (first | (k_unfold; (try dsimp only)) | walk1 | (dsimp only; walk1)))
  refine wpAny_truthy_bool ?_
  rw [if_neg (by simpa using hn1)]
  walk1
  walk1
  exact k _
  )
end Mine
end
theorem Mine.start_X5KL : True := by
  w_top off
  trivial
section
open PySem PySem.W PySem.Calls PyProof.Rows
set_option maxRecDepth 100000
set_option maxHeartbeats 8000000
namespace Mine
variable {w : World}
theorem nl_call_lk {g : Heap} {s : Shared} {Q E : Value → Shared → Prop} {dp un : Nat} {gd : Option (List Code)} {env1 : Env} {mean : ExcName → Option Value} {mg mb : Str → Option Value}
   {L l c0 : Nat} {oL : Obj} {n : Int} {tn : Tok} {vs : List Value} {S : Nat → Str} {r : Nat → Int}
   (X : (hd.heap_39 w.params).In g) (T : Top hd.view_39 (looseW hd.view_39 [Str.ofString "nsmallest", Str.ofString "nlargest"]) mean mg mb g)
   (hg : Stays g s.heap) (hgs : g.objs.size ≤ s.heap.objs.size) (hLg : g.get? L = none) (hL : s.heap.get? L = some oL) (hoL : ∀ vs, oL.data ≠ .fields vs)
   (hf1 : env1.frame = some L) (hk1 : env1.scope.kind = .function) 
   (hdp : dp + 9 < recursionLimit) (hun : un + 540 < cLine)
   (hl : g.get? l = some (listOf vs.toArray c0)) (hN : vs.length < 64) (hN2 : 2 ≤ vs.length) (hn0 : -1 ≤ n) (hn : n < 64)
   (hval : ∀ v ∈ vs, (∃ i t, v = Value.int i t) ∨ (∃ x t, v = Value.str x t))
   (hkey : ∀ i v, vs[i]? = some v → PureSpec 3 w 103 [v] (fun t => .str (S i) t))
   (hr : ∀ i j, i < vs.length → j < vs.length → strLt (S i) (S j) = decide (r j < r i)) (hre : ∀ i j, i < vs.length → j < vs.length → (S i = S j ↔ r i = r j))
   (ret : ∀ h' tk' (R : Nat) cc sl, Stays g h' → h'.get? L = some { oL with slots := sl } → h'.get? R = some (listOf (((ord r vs.length).take n.toNat).map fun i => vs.getD i Value.none).toArray cc) → g.get? R = none → R ≠ L → Q (.ref R) { s with heap := h', toks := tk' }) :
   wpAny (model PySem.Challenge.rw_mq0307_01.row.prog w) (AR dp un gd [env1]) (call (.ref 82) [.int n tn, .ref l] [(Str.ofString "key", .ref 103)]) Q E s := by
  w_strict (
  revert X
  k_fill
  intro X
  refine' enterC (g := g) (binds := [(Str.ofString "n", .int n tn), (Str.ofString "iterable", .ref l), (Str.ofString "key", .ref 103)]) ?k0 ?k1 X hg hgs ?k2 ?k3 ?k4 ?k5 ?k6 ?_ ?k7 ?k8 ?k9
  case k0 => exact Nat.lt_of_le_of_lt (Nat.le_add_right _ _) hdp
  case k1 => exact T.nolimit
  case k2 => k_is
  case k3 => k_is
  case k4 => exact BindsTo.of_defaults rfl (hg _ _ (X _ _ (by k_is))) rfl rfl rfl
  case k5 => rfl
  case k6 => decide +kernel
  case k7 => rfl
  case k8 => rfl
  case k9 => rfl
  intro h1 tk1 cells F N hC st1
  obtain ⟨cell, rfl, hcell⟩ := (show CellsAre _ [(Str.ofString "key", s.heap.objs.size + 1)] cells from hC).one
  replace hcell : cell.data = .cell (some (.ref 103)) := hcell
  have hLlt : L < s.heap.objs.size := Heap.lt_size hL
  generalize hL' : s.heap.objs.size = L' at *
  have hcL : L' + 1 ≠ L := by (first | lia | omega)
  have N' : News g L' h1 [(L, oL), (L' + 1, cell)] := fun p hp => by
    rcases List.mem_cons.mp hp with rfl | hp
    · exact ⟨st1 _ _ hL, neN (by (first | lia | omega)), hLg⟩
    · exact N p hp
  replace F : Fr g L' h1 (fun y => if y = Str.ofString "iterable" then some (.ref l) else if y = Str.ofString "n" then some (.int n tn) else (fun _ => none) y) := fr_as F fun y => rfl
  clear N hC
  (try dsimp only at F)
  by_cases hn1 : n = 1
  · refine' nl_one_k (w := w) (L := L) (L' := L') (src := l) (l := l) (c0 := c0) (oL := oL) (cell := cell) (n := n) (tn := tn) (vs := vs) (S := S) (r := r) (m := fun _ => none) (rest := []) ?w1 rfl X T F N' rfl hcell hf1 hk1 hoL hcL (by (first | lia | omega)) (by (first | lia | omega)) hl hN hn1 hval hkey hr ?w2 ?w3
    case w1 => k_is
    case w2 => exact src_list (s := { s with heap := h1, toks := tk1 }) F N' hl
    case w3 => exact fun h' tk' R cc a b c d e => ret h' tk' R cc oL.slots a b c d e
  refine' nl_not1 (w := w) (m := fun _ => none) ?v1 rfl X T F N' hn1 rfl fun tk2 => ?_
  case v1 => k_is
  refine' nl_list_k (w := w) (L := L) (L' := L') (l := l) (c0 := c0) (oL := oL) (cell := cell) (n := n) (tn := tn) (vs := vs) (S := S) (r := r) (m := fun _ => none) ?u1 rfl X T F N' rfl hcell hf1 hk1 hoL hcL (by (first | lia | omega)) (by (first | lia | omega)) hl hN hN2 hn0 hn hkey hr rfl ?u2 ?u3
  case u1 => k_is
  case u3 => exact fun h' tk' R cc a b c d e => ret h' tk' R cc oL.slots a b c d e
  case u2 =>
    intro hlt h2 tk3 ts F2 N2
    refine' nl_heap_k (w := w) (L := L) (L' := L') (src := l) (l := l) (c0 := c0) (oL := oL) (cell := cell) (n := n) (tn := tn) (vs := vs) (S := S) (r := r) (m := fun y => if y = Str.ofString "size" then some (.int vs.length ts) else none) (rest := []) ?t1 rfl X T F2 N2 rfl hcell hf1 hk1 hoL hcL (by (first | lia | omega)) (by (first | lia | omega)) hl hN (.inr hN2) hn1 hn0 hn hkey hr hre ?t2 ?t3
    case t1 => k_is
    case t2 => exact src_list (s := { s with heap := h2, toks := tk3 }) F2 N2 hl
    case t3 => exact fun h' tk' R cc a b c d e => ret h' tk' R cc oL.slots a b c d e
  )
theorem nl_call_ik {g : Heap} {s : Shared} {Q E : Value → Shared → Prop} {dp un : Nat} {gd : Option (List Code)} {env1 : Env} {mean : ExcName → Option Value} {mg mb : Str → Option Value}
   {L l it c0 : Nat} {oL : Obj} {n : Int} {tn : Tok} {vs : List Value} {S : Nat → Str} {r : Nat → Int}
   (X : (hd.heap_39 w.params).In g) (T : Top hd.view_39 (looseW hd.view_39 [Str.ofString "nsmallest", Str.ofString "nlargest"]) mean mg mb g)
   (hg : Stays g s.heap) (hgs : g.objs.size ≤ s.heap.objs.size) (hLg : g.get? L = none) (hL : s.heap.get? L = some oL) (hoL : ∀ vs, oL.data ≠ .fields vs) (hIg : g.get? it = none) (hI : s.heap.get? it = some (litObj (.ref l) 0)) (hIL : it ≠ L)
   (hf1 : env1.frame = some L) (hk1 : env1.scope.kind = .function) 
   (hdp : dp + 9 < recursionLimit) (hun : un + 540 < cLine)
   (hl : g.get? l = some (listOf vs.toArray c0)) (hN : vs.length < 64) (hN2 : vs.length = 0 ∨ 2 ≤ vs.length) (hn0 : -1 ≤ n) (hn : n < 64)
   (hval : ∀ v ∈ vs, (∃ i t, v = Value.int i t) ∨ (∃ x t, v = Value.str x t))
   (hkey : ∀ i v, vs[i]? = some v → PureSpec 3 w 103 [v] (fun t => .str (S i) t))
   (hr : ∀ i j, i < vs.length → j < vs.length → strLt (S i) (S j) = decide (r j < r i)) (hre : ∀ i j, i < vs.length → j < vs.length → (S i = S j ↔ r i = r j))
   (ret : ∀ h' tk' (R : Nat) cc sl, Stays g h' → h'.get? L = some { oL with slots := sl } → h'.get? R = some (listOf (((ord r vs.length).take n.toNat).map fun i => vs.getD i Value.none).toArray cc) → g.get? R = none → R ≠ L → Q (.ref R) { s with heap := h', toks := tk' }) :
   wpAny (model PySem.Challenge.rw_mq0307_01.row.prog w) (AR dp un gd [env1]) (call (.ref 82) [.int n tn, .ref it] [(Str.ofString "key", .ref 103)]) Q E s := by
  w_strict (
  revert X
  k_fill
  intro X
  refine' enterC (g := g) (binds := [(Str.ofString "n", .int n tn), (Str.ofString "iterable", .ref it), (Str.ofString "key", .ref 103)]) ?k0 ?k1 X hg hgs ?k2 ?k3 ?k4 ?k5 ?k6 ?_ ?k7 ?k8 ?k9
  case k0 => exact Nat.lt_of_le_of_lt (Nat.le_add_right _ _) hdp
  case k1 => exact T.nolimit
  case k2 => k_is
  case k3 => k_is
  case k4 => exact BindsTo.of_defaults rfl (hg _ _ (X _ _ (by k_is))) rfl rfl rfl
  case k5 => rfl
  case k6 => decide +kernel
  case k7 => rfl
  case k8 => rfl
  case k9 => rfl
  intro h1 tk1 cells F N hC st1
  obtain ⟨cell, rfl, hcell⟩ := (show CellsAre _ [(Str.ofString "key", s.heap.objs.size + 1)] cells from hC).one
  replace hcell : cell.data = .cell (some (.ref 103)) := hcell
  have hLlt : L < s.heap.objs.size := Heap.lt_size hL
  have hIlt : it < s.heap.objs.size := Heap.lt_size hI
  generalize hL' : s.heap.objs.size = L' at *
  have hcL : L' + 1 ≠ L := by (first | lia | omega)
  have hIc : it ≠ L' + 1 := by (first | lia | omega)
  have N' : News g L' h1 [(L, oL), (L' + 1, cell), (it, litObj (.ref l) 0)] := fun p hp => by
    simp only [List.mem_cons, List.not_mem_nil, or_false] at hp
    rcases hp with rfl | rfl | rfl
    · exact ⟨st1 _ _ hL, neN (by (first | lia | omega)), hLg⟩
    · exact N _ (.head _)
    · exact ⟨st1 _ _ hI, neN (by (first | lia | omega)), hIg⟩
  replace F : Fr g L' h1 (fun y => if y = Str.ofString "iterable" then some (.ref it) else if y = Str.ofString "n" then some (.int n tn) else (fun _ => none) y) := fr_as F fun y => rfl
  clear N hC
  (try dsimp only at F)
  by_cases hn1 : n = 1
  · refine' nl_one_k (w := w) (L := L) (L' := L') (src := it) (l := l) (c0 := c0) (oL := oL) (cell := cell) (n := n) (tn := tn) (vs := vs) (S := S) (r := r) (m := fun _ => none) (rest := [(it, litObj (.ref l) 0)]) ?w1 rfl X T F N' rfl hcell hf1 hk1 hoL hcL (by (first | lia | omega)) (by (first | lia | omega)) hl hN hn1 hval hkey hr ?w2 ?w3
    case w1 => k_is
    case w2 => exact src_it (s := { s with heap := h1, toks := tk1 }) F N' hIL hIc
    case w3 => exact fun h' tk' R cc a b c d e => ret h' tk' R cc oL.slots a b c d e
  refine' nl_not1 (w := w) (m := fun _ => none) ?v1 rfl X T F N' hn1 rfl fun tk2 => ?_
  case v1 => k_is
  refine' nl_try (w := w) (kv := .none) (L := L) (L' := L') (oL := oL) (cell := cell) (n := n) (tn := tn) ?u1 rfl X T F N' hf1 hk1 hoL hcL hIL rfl ?u2
  case u1 => k_is
  case u2 =>
    intro h2 tk3 sl F2 N2
    refine' nl_heap_k (w := w) (L := L) (L' := L') (src := it) (l := l) (c0 := c0) (oL := { oL with slots := sl }) (cell := cell) (n := n) (tn := tn) (vs := vs) (S := S) (r := r) (m := fun _ => none) (rest := [(it, litObj (.ref l) 0)]) ?t1 rfl X T F2 N2 rfl hcell hf1 hk1 hoL hcL (by (first | lia | omega)) (by (first | lia | omega)) hl hN hN2 hn1 hn0 hn hkey hr hre ?t2 ?t3
    case t1 => k_is
    case t2 => exact src_it (s := { s with heap := h2, toks := tk3 }) F2 N2 hIL hIc
    case t3 => exact fun h' tk' R cc a b c d e => ret h' tk' R cc sl a b c d e
  )
end Mine
end
theorem Mine.start_X2NS : True := by
  w_top off
  trivial
section
open PySem PySem.W PySem.Calls PyProof.Rows
set_option maxRecDepth 100000
set_option maxHeartbeats 8000000
namespace Mine
variable {w : World}
theorem ns_heap2_n {g : Heap} {s : Shared} {Q : Flow → Shared → Prop} {dp un : Nat} {gd : Option (List Code)} {env1 : Env} {mean : ExcName → Option Value} {mg mb : Str → Option Value}
   {oc : Value} {od : Option Addr} {osl : Array (Option Value)} {name qual : Str} {params : Arguments} {body tail : List Stmt} {scope : Scope} {dV kV doc pm cdv ct : Value} {an : Option Addr}
   {L L' c D I l c0 c3 j3 : Nat} {oL cell : Obj} {n : Int} {tn : Tok} {vs : List Value} {S : Nat → Str} {r : Nat → Int} {m : Str → Option Value} {as : List Nat} {f3 : Value}
   (hK : (hd.heap_39 w.params).lookup 76 = some ⟨oc, od, .func (fnOf name qual params body scope dV kV doc pm an cdv ct), osl⟩) (ht : (inIf (body.drop 2)).drop 2 = tail)
   (X : (hd.heap_39 w.params).In g) (T : Top hd.view_39 (looseW hd.view_39 [Str.ofString "nsmallest", Str.ofString "nlargest"]) mean mg mb g)
   (F : Fr g L' s.heap (fun z => if z = Str.ofString "result" then some (.ref D) else if z = Str.ofString "it" then some (.ref I) else if z = Str.ofString "n" then some (.int n tn) else m z))
   (N : News g L' s.heap [(D, listOf (refs as).toArray c3), (I, litObj f3 j3), (L, oL), (c, cell)]) 
   (hc : c = L' + 1)
   (hDI : D ≠ I) (hDL : D ≠ L) (hDc : D ≠ c) (hIL : I ≠ L) (hIc : I ≠ c)
   (hal : as.length = min n.toNat vs.length) (hap : as.Pairwise (· < ·)) (haq : ∀ q ∈ as, q ≠ D ∧ q ≠ I ∧ q ≠ L' ∧ g.get? q = none)
   (hao : ∀ k q, as[k]? = some q → ∃ t u, vs[k]? = some (.str (S k) t) ∧ s.heap.get? q = some (tupObj [.str (S k) t, .int k u]))
   (hj1 : n.toNat ≤ vs.length → f3 = .ref l ∧ j3 = as.length) (hj2 : vs.length < n.toNat → f3 = .none)
   (hf1 : env1.frame = some L) (hk1 : env1.scope.kind = .function) (hoL : ∀ vs, oL.data ≠ .fields vs) (hcL : c ≠ L) 
   (hdp : dp + 6 < recursionLimit) (hun : un + 360 < cLine)
   (hl : g.get? l = some (listOf vs.toArray c0)) (hN : vs.length < 64) (hN2 : vs.length = 0 ∨ 2 ≤ vs.length) (hn1 : n ≠ 1) (hn0 : -1 ≤ n) (hn : n < 64)
   (hkey : ∀ i v, vs[i]? = some v → ∃ t, v = Value.str (S i) t)
   (hr : ∀ i j, i < vs.length → j < vs.length → strLt (S i) (S j) = decide (r i < r j)) (hre : ∀ i j, i < vs.length → j < vs.length → (S i = S j ↔ r i = r j))
   (ret : ∀ h' tk' (R : Nat) cc, Stays g h' → h'.get? L = some oL → h'.get? R = some (listOf (((ord r vs.length).take n.toNat).map fun i => vs.getD i Value.none).toArray cc) → g.get? R = none → R ≠ L → Q (.ret (.ref R)) { s with heap := h', toks := tk' }) :
   wpAny (model PySem.Challenge.rw_mq0307_01.row.prog w) ((AR dp un gd [env1]).deeper (envOfC qual scope L' 76 cdv)) (execs tail (envOfC qual scope L' 76 cdv)) Q (fun _ _ => False) s := by
  subst hc
  w_strict (
  revert X
  k_fill
  intro X
  have e := lk_inj hK (by k_is : (hd.heap_39 w.params).lookup 76 = some ⟨_, _, .func (fnOf _ _ _ _ _ _ _ _ _ _ _ _), _⟩)
  injection e with e1 e2 e3 e4
  injection e3 with e3
  injection e3 with e5 e6 e7 e8 e9 e10 e11 e12 e13 e14 e15 e16 e17 e18
  injection e8 with e8
  subst_vars
  clear hK e10 e11
  simp only [List.drop_succ_cons, List.drop_zero]
  (try dsimp only) 
  (try k_fold)
  k_with_none
  have hlD : s.heap.IsList D (refs as).toArray := ⟨_, (N _ (.head _)).1, rfl, c3, rfl⟩
  have hszl : (refs as).toArray.size = as.length := by simp [refs]
  repeat' ((fail_if_success (with_reducible show wpAny _ _ (truthy _) _ _ _)); (first | (k_unfold; (try dsimp only)) | walk1 | (dsimp only; walk1)))
  refine wpAny_truthy_list hlD (by (first | lia | omega)) ?_
  by_cases has : as = []
  · subst has
    rw [if_pos (by rfl)]
    walk1
    walk1
    walk1
    walk1
    (try dsimp only)
    refine ret _ _ D c3 F.keep (N _ (.tail _ (.tail _ (.head _)))).1 ?_ (N _ (.head _)).2.2 hDL
    have e0 : ((ord r vs.length).take n.toNat).map (fun i => vs.getD i Value.none) = [] := by
      have : (ord r vs.length).take n.toNat = [] := by
        rw [List.take_eq_nil_iff]
        have h0 : n.toNat = 0 ∨ vs.length = 0 := by simp at hal; (first | lia | omega)
        rcases h0 with q | q
        · exact .inl q
        · exact .inr (List.eq_nil_of_length_eq_zero (by rw [ord_len, q]))
      rw [this]; rfl
    rw [e0]; exact (N _ (.head _)).1
  have hpos : 0 < as.length := List.length_pos_iff.mpr has
  have hA1 : as.length ≤ vs.length := by rw [hal]; exact Nat.min_le_right _ _
  have hA3 : as.length ≤ n.toNat := by rw [hal]; exact Nat.min_le_left _ _
  have zA4 : Hid (vs.length < n.toNat → as.length = vs.length) := fun q => by rw [hal]; exact Nat.min_eq_right (Nat.le_of_lt q)
  have hA5 : 2 ≤ as.length := by clear hj1 hj2 hDI hDL hDc hIL hIc hcL; (first | lia | omega)
  have hA6 : (as.length : Int) ≤ n := by clear hal hN2 hn1 hj1 hj2 hDI hDL hDc hIL hIc hcL; (first | lia | omega)
  have zal : Hid (as.length = min n.toNat vs.length) := hal
  have zj1 := Hid.mk hj1
  have zj2 := Hid.mk hj2
  clear hal hN2 hn1 hj1 hj2 hA3
  rw [if_neg (by simp [refs, has])]
  (try clear hlD)
  repeat' ((fail_if_success (with_reducible show wpAny _ _ (call (Value.ref _) _ _) _ _ _)); (first | (k_unfold; (try dsimp only)) | walk1 | (dsimp only; walk1)))
  have hT0 : Tups S (fun i tl => ∃ x y, tl = [x, y] ∧ vs[i]? = some x) (fun b => as.idxOf b) (fun b => ((as.idxOf b : Nat) : Int)) as s.heap := by
    intro b hb
    obtain ⟨t, u, hv, ho⟩ := hao (as.idxOf b) b (by rw [List.getElem?_eq_getElem (List.idxOf_lt_length_of_mem hb), List.getElem_idxOf])
    exact ⟨t, u, [], ⟨_, _, rfl, hv⟩, ho⟩
  have hix0 : ∀ b ∈ as, as.idxOf b < vs.length := fun b hb => by have := List.idxOf_lt_length_of_mem hb; (first | lia | omega)
  have hinj0 : ∀ a ∈ as, ∀ b ∈ as, as.idxOf a = as.idxOf b → a = b := fun a ha b hb q => by
    have e1 := List.getElem_idxOf (List.idxOf_lt_length_of_mem ha)
    have e2 := List.getElem_idxOf (List.idxOf_lt_length_of_mem hb)
    rw [← e1, ← e2]; simp only [q]
  obtain ⟨tps, Ntp, hTI, hTo⟩ := tps_of hT0 (g := g) (L' := L') fun b hb => (haq b hb).2.2
  have hTD : ∀ p ∈ tps, p.1 ≠ D := fun p hp => (haq _ (hTo p hp)).1
  have hTI2 : ∀ p ∈ tps, p.1 ≠ I := fun p hp => (haq _ (hTo p hp)).2.1
  have N0 : News g L' s.heap ((D, listOf (refs as).toArray c3) :: (I, litObj f3 j3) :: (L, oL) :: (L' + 1, cell) :: tps) := fun p hp => by
    rcases List.mem_append.mp (show p ∈ [(D, listOf (refs as).toArray c3), (I, litObj f3 j3), (L, oL), (L' + 1, cell)] ++ tps from hp) with q | q
    · exact N p q
    · exact Ntp p q
  refine' mutC (L := L) (oL := oL) (heapify_max_spec (as := as) (n := c3) (lt := fun a b => decide (fk r (fun b => as.idxOf b) a < fk r (fun b => as.idxOf b) b)) (by (first | lia | omega))) X T ?u1 ?u2 ?u3 hoL ?u4 ?u5 rfl rfl hf1 hk1 (by (first | lia | omega)) (by (first | lia | omega)) ?u6
  case u1 => exact F
  case u2 => exact N0
  case u3 => exact .tail _ (.head _)
  case u4 =>
    intro p hp
    rcases List.mem_append.mp (show p ∈ [(I, litObj f3 j3), (L, oL), (L' + 1, cell)] ++ tps from hp) with q | q
    · simp only [List.mem_cons, List.not_mem_nil, or_false] at q
      rcases q with rfl | rfl | rfl
      · exact Ne.symm hDI
      · exact Ne.symm hDL
      · exact Ne.symm hDc
    · exact hTD p q
  case u5 => exact cmp_up (N := vs.length) (by (first | lia | omega)) (hTI.tups Ntp hTD) hix0 hinj0 (fun a ha b hb q => by (first | lia | omega)) hr hre
  intro h4 tk4 F4 N4 st4 hsz4
  clear F N N0 Ntp
  have hST := LS.start (N := vs.length) (r := r) (as := as) (ix := fun b => as.idxOf b) (by (first | lia | omega)) (idx_range hap)
  generalize hbs : hfy (fun a b => decide (fk r (fun b => as.idxOf b) a < fk r (fun b => as.idxOf b) b)) (as.length / 2) (as.length / 2) as = bs at *
  have hbp : bs.Perm as := by rw [← hbs]; exact hfy_perm _ (Nat.le_refl _) (by (first | lia | omega))
  have hbl : bs.length = as.length := hbp.length_eq
  have hb0 : 0 < bs.length := by (first | lia | omega)
  have hTb := hTI.sub (cs := bs) fun b hb => hbp.mem_iff.mp hb
  have hod4 : ∀ a ∈ bs, ∀ b ∈ bs, as.idxOf a < as.idxOf b → ((as.idxOf a : Nat) : Int) < ((as.idxOf b : Nat) : Int) := fun a _ b _ q => by (first | lia | omega)
  have hodn : ∀ b ∈ bs, ((as.idxOf b : Nat) : Int) < n := fun b hb => by have := List.idxOf_lt_length_of_mem (hbp.mem_iff.mp hb); (first | lia | omega)
  repeat' ((fail_if_success (with_reducible show wpAny _ _ (call (Value.ref _) _ _) _ _ _)); (fail_if_success (with_reducible show wpAny _ _ (subscriptTail _ _ _ _) _ _ _)); (first | (k_unfold; (try dsimp only)) | walk1 | (dsimp only; walk1)))
  refine item_refs0 (as := bs) N4 (.head _) (by (first | lia | omega)) hb0 ?_
  walk1
  (try dsimp only)
  obtain ⟨tt, tu, ttl, -, htop⟩ := hTb _ (getD0_mem hb0)
  refine item_tup0 (N4 _ (.tail _ (.tail _ (.tail _ (.tail _ htop))))).1 ?_
  clear hT0 hao htop hinj0 hix0
  generalize hIX : (fun b => as.idxOf b) = ix at *
  generalize hOD : (fun b => ((as.idxOf b : Nat) : Int)) = od at *
  replace hod4 : ∀ a ∈ bs, ∀ b ∈ bs, ix a < ix b → od a < od b := by rw [← hIX, ← hOD]; exact hod4
  replace hodn : ∀ b ∈ bs, od b < n := by rw [← hOD]; exact hodn
  clear hIX hOD hbs
  repeat' ((fail_if_success (with_reducible show wpAny _ _ (exec (Stmt.For _ _ _ _ _) _) _ _ _)); (first | (k_unfold; (try dsimp only)) | walk1 | (dsimp only; walk1)))
  rename Fr _ _ _ _ => F5
  rename News _ _ _ _ => N5
  refine' for_lit (it := I) (vs := vs) (fun s' hq => hq) as.length (by (first | lia | omega)) (fun j s' => LoopJ g L' D I l L oL cell 35 false vs.length S (fun i tl => ∃ x y, tl = [x, y] ∧ vs[i]? = some x) r as.length j s s') ?ev ?turn ?fin ?hs
  case hs => (intro _; rfl)
  case ev =>
    walk1
    refine lit_pyIter (N5 _ (.tail _ (.head _))).1 ?_
    refine ⟨rfl, ?_⟩
    unfold LoopJ
    refine ⟨_, _, bs, ix, od, tps, (fun y => if y = Str.ofString "n" then some (.int n tn) else m y), f3, j3, c3, tt, n, tn, rfl, fr_as F5 ?e1, N5, ?e2, hbl, hST, hTb, hTD, hTI2, ?e3, ?e4⟩
    case e1 =>
      intro y
      by_cases h1 : y = Str.ofString "top"
      · subst h1; rfl
      by_cases h2 : y = Str.ofString "order"
      · subst h2; rfl
      by_cases h3 : y = Str.ofString "_heapreplace"
      · subst h3; rfl
      simp only [if_neg h1, if_neg h2, if_neg h3]
    case e2 =>
      rcases Nat.lt_or_ge vs.length n.toNat with q | q
      · exact .inr ⟨zj2.get q, zA4.get q⟩
      · exact .inl (zj1.get q)
    case e3 => intro a ha b hb q; rw [if_neg (by decide)]; exact hod4 a ha b hb q
    case e4 => intro b hb; rw [if_neg (by decide)]; exact hodn b hb
  case turn =>
    rintro j v s' hv ⟨h, tk, bs, ix, od, tps, mm, fv, jj, c, t, o, u, rfl, F, N, hit, hbk, hLS, hTI, hTD, hTI', hmo, hlo⟩ E'
    have hjl : j < vs.length := (List.getElem?_eq_some_iff.mp hv).1
    obtain ⟨tk', rfl⟩ := hkey j v hv
    obtain ⟨rfl, rfl⟩ : fv = .ref l ∧ jj = j := by
      rcases hit with q | q
      · exact q
      · (first | lia | omega)
    clear hit
    have zI := N _ (.tail _ (.head _))
    have hil : h.IsList l vs.toArray := ⟨_, F.keep _ _ hl, rfl, c0, rfl⟩
    refine lit_pyNext (s := { s with heap := h, toks := tk }) zI.1 hil (x := .str (S jj) tk') (by simpa using hv) fun h1 hi1 hs1 => ⟨rfl, ?_⟩
    have F1 := F.change hs1 zI.2.1 zI.2.2
    have N1 : News g L' h1 ((D, listOf (refs bs).toArray c) :: (I, litObj (.ref l) (jj + 1)) :: (L, oL) :: (L' + 1, cell) :: tps) := fun p hp => by
      have keep : ∀ p : Addr × Obj, p.1 ≠ I → (h.get? p.1 = some p.2 ∧ p.1 ≠ L' ∧ g.get? p.1 = none) → (h1.get? p.1 = some p.2 ∧ p.1 ≠ L' ∧ g.get? p.1 = none) := fun p hp q => ⟨(hs1.2 _ hp).trans q.1, q.2⟩
      rcases List.mem_cons.mp hp with rfl | hp
      · exact keep _ hDI (N _ (.head _))
      rcases List.mem_cons.mp hp with rfl | hp
      · exact ⟨hi1, zI.2⟩
      rcases List.mem_cons.mp hp with rfl | hp
      · exact keep _ (Ne.symm hIL) (N _ (.tail _ (.tail _ (.head _))))
      rcases List.mem_cons.mp hp with rfl | hp
      · exact keep _ (Ne.symm hIc) (N _ (.tail _ (.tail _ (.tail _ (.head _)))))
      · exact keep _ (hTI' p hp) (N p (.tail _ (.tail _ (.tail _ (.tail _ hp)))))
    clear F N F5 N5 zI hil hi1
    repeat' ((fail_if_success (with_reducible show wpAny _ _ (compareOp _ _ _) _ _ _)); (first | (k_unfold; (try dsimp only)) | walk1 | (dsimp only; walk1)))
    have hb0' : 0 < bs.length := by (first | lia | omega)
    have hi0 := hLS.ix_lt (getD0_mem hb0')
    show wpAny _ _ (richCompare .Lt _ _) _ _ _
    refine rc_lt_str ?_
    rw [hr jj (ix (bs.getD 0 0)) hjl hi0]
    by_cases hlt : r jj < r (ix (bs.getD 0 0))
    · rw [decide_eq_true hlt]
      repeat' ((fail_if_success (with_reducible show wpAny _ _ (call (Value.ref _) _ _) _ _ _)); (first | (k_unfold; (try dsimp only)) | walk1 | (dsimp only; walk1)))
      rename Fr _ _ _ _ => F6
      rename News _ _ _ _ => N6
      rename_i P _ l1
      have hPt : ∀ p ∈ tps, p.1 < P := fun p hp => allLt_mem l1.2.2.2.2 p hp
      have hPb : P ∉ bs := fun q => by
        obtain ⟨_, _, _, _, hm⟩ := hTI P q
        exact Nat.lt_irrefl _ (hPt _ hm)
      have hmin : ∀ b ∈ bs, b < P := fun b hb => by
        obtain ⟨_, _, _, _, hm⟩ := hTI b hb
        exact hPt _ hm
      have hsw := hLS.swap (by (first | lia | omega)) hb0' hjl hPb hlt
      have hTI6 := hTI.more (cs := P :: bs) (P := P) (j := jj) (o := o) (t := tk') (u := u) (tl := []) hPb ⟨_, _, rfl, hv⟩ (fun c hc => by
        rcases List.mem_cons.mp hc with q | q
        · exact .inl q
        · exact .inr q)
      generalize hix' : (fun x => if x = P then jj else ix x) = ix' at hsw hTI6
      generalize hod' : (fun x => if x = P then o else od x) = od' at hTI6
      dsimp only at hsw
      have iP : ix' P = jj := by rw [← hix']; exact if_pos rfl
      have ib : ∀ b ∈ bs, ix' b = ix b := fun b hb => by rw [← hix']; exact if_neg (fun (q : b = P) => hPb (q ▸ hb))
      have oP : od' P = o := by rw [← hod']; exact if_pos rfl
      have ob : ∀ b ∈ bs, od' b = od b := fun b hb => by rw [← hod']; exact if_neg (fun (q : b = P) => hPb (q ▸ hb))
      clear hix' hod'
      have hbj : ∀ b ∈ bs, ix b < jj := fun b hb => hLS.best.lt _ (List.mem_map.mpr ⟨b, hb, rfl⟩)
      have hmo6 : ∀ a ∈ P :: bs, ∀ b ∈ P :: bs, ix' a < ix' b → od' a < od' b := fun a ha b hb q => by
        rcases List.mem_cons.mp ha with q1 | h1 <;> rcases List.mem_cons.mp hb with q2 | h2
        · rw [q1, q2] at q; (first | lia | omega)
        · rw [q1, iP, ib b h2] at q; have := hbj b h2; (first | lia | omega)
        · rw [q2, oP, ob a h1]; have := hlo a h1; rw [if_neg (by decide)] at this; exact this
        · rw [ib a h1, ib b h2] at q; rw [ob a h1, ob b h2]; have := hmo a h1 b h2 q; rw [if_neg (by decide)] at this; exact this
      have hinj6 : ∀ a ∈ P :: bs, ∀ b ∈ P :: bs, ix' a = ix' b → a = b := fun a ha b hb q => by
        rcases List.mem_cons.mp ha with q1 | h1 <;> rcases List.mem_cons.mp hb with q2 | h2
        · rw [q1, q2]
        · rw [q1, iP, ib b h2] at q; have := hbj b h2; (first | lia | omega)
        · rw [q2, iP, ib a h1] at q; have := hbj a h1; (first | lia | omega)
        · rw [ib a h1, ib b h2] at q; exact hLS.inj a h1 b h2 q
      have hix6 : ∀ b ∈ P :: bs, ix' b < vs.length := fun b hb => by
        rcases List.mem_cons.mp hb with rfl | hb
        · rw [iP]; exact hjl
        · rw [ib b hb]; have := hbj b hb; (first | lia | omega)
      have N7 : News g L' _ ((D, listOf (refs bs).toArray c) :: (I, litObj (.ref l) (jj + 1)) :: (L, oL) :: (L' + 1, cell) :: (P, tupObj [.str (S jj) tk', .int o u]) :: tps) := fun p hp => N6 p (by
        simp only [List.mem_cons] at hp ⊢
        rcases hp with q | q | q | q | q | q
        · exact .inr (.inl q)
        · exact .inr (.inr (.inl q))
        · exact .inr (.inr (.inr (.inl q)))
        · exact .inr (.inr (.inr (.inr (.inl q))))
        · exact .inl q
        · exact .inr (.inr (.inr (.inr (.inr q)))))
      have hD6 : ∀ p ∈ (P, tupObj [.str (S jj) tk', .int o u]) :: tps, p.1 ≠ D := fun p hp => by
        rcases List.mem_cons.mp hp with rfl | hp
        · exact Nat.ne_of_gt l1.1
        · exact hTD p hp
      have hI6 : ∀ p ∈ (P, tupObj [.str (S jj) tk', .int o u]) :: tps, p.1 ≠ I := fun p hp => by
        rcases List.mem_cons.mp hp with rfl | hp
        · exact Nat.ne_of_gt l1.2.1
        · exact hTI' p hp
      clear N6
      refine' mutC (L := L) (oL := oL) (heapreplace_max_spec (x := P) (as := bs) (n := c) (lt := fun a b => decide (fk r ix' a < fk r ix' b)) (by (first | lia | omega)) hb0') X T ?v1 ?v2 ?v3 hoL ?v4 ?v5 rfl rfl hf1 hk1 (by (first | lia | omega)) (by (first | lia | omega)) ?v6
      case v1 => exact F6
      case v2 => exact N7
      case v3 => exact .tail _ (.head _)
      case v4 =>
        intro p hp
        rcases List.mem_append.mp (show p ∈ [(I, litObj (.ref l) (jj + 1)), (L, oL), (L' + 1, cell)] ++ ((P, tupObj [.str (S jj) tk', .int o u]) :: tps) from hp) with q | q
        · simp only [List.mem_cons, List.not_mem_nil, or_false] at q
          rcases q with rfl | rfl | rfl
          · exact Ne.symm hDI
          · exact Ne.symm hDL
          · exact Ne.symm hDc
        · exact hD6 p q
      case v5 =>
        have N7t : News g L' _ ((P, tupObj [.str (S jj) tk', .int o u]) :: tps) := fun p hp => N7 p (.tail _ (.tail _ (.tail _ (.tail _ hp))))
        exact cmp_up (N := vs.length) (by (first | lia | omega)) (hTI6.tups N7t hD6) hix6 hinj6 hmo6 hr hre
      intro h8 tk8 F8 N8 st8 hsz8
      clear F6 N7
      obtain ⟨hLS8, hmem8⟩ := hsw
      have hl8 : (sup (fun a b => decide (fk r ix' a < fk r ix' b)) 0 (bs.set 0 P)).length = bs.length := by rw [sup_len (by rw [List.length_set]; exact hb0'), List.length_set]
      generalize sup (fun a b => decide (fk r ix' a < fk r ix' b)) 0 (bs.set 0 P) = cs at *
      have hmem8' : ∀ b ∈ cs, b ∈ P :: bs := fun b hb => by
        rcases hmem8 b hb with rfl | q
        · exact .head _
        · exact .tail _ q
      have hTI8 := hTI6.sub hmem8'
      have hc0' : 0 < cs.length := by (first | lia | omega)
      repeat' ((fail_if_success (with_reducible show wpAny _ _ (subscriptTail _ _ _ _) _ _ _)); (first | (k_unfold; (try dsimp only)) | walk1 | (dsimp only; walk1)))
      refine item_refs0 (as := cs) N8 (.head _) (by (first | lia | omega)) hc0' ?_
      (try dsimp only)
      obtain ⟨t9, u9, tl9, ⟨x9, y9, e9, hv9⟩, hm9⟩ := hTI8 _ (getD0_mem hc0')
      injection e9 with ex e9
      injection e9 with _ e9
      subst e9
      subst ex
      have z9 := (N8 _ (.tail _ (.tail _ (.tail _ (.tail _ hm9))))).1
      refine assign2 rfl ⟨_, z9, rfl, 0, rfl⟩ rfl rfl rfl F8.ns fun h9 tk9 ns9 kp9 => ?_
      have F9 : Fr g L' h9 _ := ⟨ns9, fun b o e => kp9 b o (fun (q : b = L') => by rw [q, no_self F8] at e; cases e) (F8.keep b o e), F8.above⟩
      have N9 : News g L' h9 _ := fun p hp => ⟨kp9 _ _ (N8 p hp).2.1 (N8 p hp).1, (N8 p hp).2⟩
      clear F8 N8 ns9
      repeat' ((fail_if_success (with_reducible show _ ∧ _)); (first | (k_unfold; (try dsimp only)) | walk1 | (dsimp only; walk1)))
      rename Fr _ _ _ _ => F10
      rename News _ _ _ _ => N10
      refine ⟨rfl, ?_⟩
      unfold LoopJ
      refine ⟨_, _, cs, ix', od', (P, tupObj [.str (S jj) tk', .int o u]) :: tps, (fun y => if y = Str.ofString "_order" then some (.int (od' (cs.getD 0 0)) u9) else if y = Str.ofString "elem" then some (.str (S jj) tk') else mm y), .ref l, jj + 1, c, t9, o + 1, ?ut, rfl, fr_as F10 ?g1, N10, .inl ⟨rfl, rfl⟩, by (first | lia | omega), hLS8, hTI8, hD6, hI6, ?g2, ?g3⟩
      case g1 =>
        intro y
        by_cases h2 : y = Str.ofString "order"
        · subst h2; exact rfl
        by_cases h1 : y = Str.ofString "top"
        · subst h1; rfl
        by_cases h4 : y = Str.ofString "_order"
        · subst h4; rfl
        by_cases h6 : y = Str.ofString "elem"
        · subst h6; rfl
        simp only [if_neg h1, if_neg h2, if_neg h4, if_neg h6]
      case g2 =>
        intro a ha b hb q
        rw [if_neg (by decide)]
        exact hmo6 a (hmem8' a ha) b (hmem8' b hb) q
      case g3 =>
        intro b hb
        rw [if_neg (by decide)]
        rcases List.mem_cons.mp (hmem8' b hb) with q | q
        · rw [q, oP]; (first | lia | omega)
        · rw [ob b q]
          have := hlo b q
          rw [if_neg (by decide)] at this
          (first | lia | omega)
    · rw [decide_eq_false hlt]
      repeat' ((fail_if_success (with_reducible show wpAny _ _ (call (Value.ref _) _ _) _ _ _)); (fail_if_success (with_reducible show _ ∧ _)); (first | (k_unfold; (try dsimp only)) | walk1 | (dsimp only; walk1)))
      rename Fr _ _ _ _ => F6
      rename News _ _ _ _ => N6
      refine ⟨rfl, ?_⟩
      unfold LoopJ
      refine ⟨_, _, bs, ix, od, tps, (fun y => if y = Str.ofString "elem" then some (.str (S jj) tk') else mm y), .ref l, jj + 1, c, t, o, u, rfl, fr_as F6 ?_, N6, .inl ⟨rfl, rfl⟩, hbk, hLS.keep (by (first | lia | omega)) hb0' hjl hlt, hTI, hTD, hTI', hmo, hlo⟩
      intro y
      by_cases h2 : y = Str.ofString "elem"
      · subst h2; rfl
      simp only [if_neg h2]
  case fin =>
    rintro s' ⟨h, tk, bs, ix, od, tps, mm, fv, jj, c, t, o, u, rfl, F, N, hit, hbk, hLS, hTI, hTD, hTI', hmo, hlo⟩ E'
    have zI := N _ (.tail _ (.head _))
    have go : ∀ h1 jj', LIt h1 I .none jj' → (∀ b o, b ≠ I → h.get? b = some o → h1.get? b = some o) → Fr g L' h1 _ ∧ News g L' h1 ((D, listOf (refs bs).toArray c) :: (I, litObj .none jj') :: (L, oL) :: (L' + 1, cell) :: tps) := fun h1 jj' hi1 hk1' => by
      obtain ⟨oo, es, ep, ho, rr⟩ := F.ns
      refine ⟨⟨⟨oo, es, ep, hk1' _ _ (fun (q : L' = I) => zI.2.1 q.symm) ho, rr⟩, fun b x e => hk1' b x (fun q => by rw [q, zI.2.2] at e; cases e) (F.keep b x e), F.above⟩, fun p hp => ?_⟩
      have keep : ∀ p : Addr × Obj, p.1 ≠ I → (h.get? p.1 = some p.2 ∧ p.1 ≠ L' ∧ g.get? p.1 = none) → (h1.get? p.1 = some p.2 ∧ p.1 ≠ L' ∧ g.get? p.1 = none) := fun p hp q => ⟨hk1' _ _ hp q.1, q.2⟩
      rcases List.mem_cons.mp hp with rfl | hp
      · exact keep _ hDI (N _ (.head _))
      rcases List.mem_cons.mp hp with rfl | hp
      · exact ⟨hi1, zI.2⟩
      rcases List.mem_cons.mp hp with rfl | hp
      · exact keep _ (Ne.symm hIL) (N _ (.tail _ (.tail _ (.head _))))
      rcases List.mem_cons.mp hp with rfl | hp
      · exact keep _ (Ne.symm hIc) (N _ (.tail _ (.tail _ (.tail _ (.head _)))))
      · exact keep _ (hTI' p hp) (N p (.tail _ (.tail _ (.tail _ (.tail _ hp)))))
    have hil : h.IsList l vs.toArray := ⟨_, F.keep _ _ hl, rfl, c0, rfl⟩
    refine lit_fin (s := { s with heap := h, toks := tk }) rfl rfl hit zI.1 hil fun h1 jj' hi1 hk1' hsz1 => ⟨rfl, ?_⟩
    obtain ⟨F1, N1⟩ := go h1 jj' hi1 hk1'
    clear F N zI go hil F5 N5 hit
    repeat' ((fail_if_success (with_reducible show wpAny _ _ (call (Value.builtin _) _ _) _ _ _)); (fail_if_success (with_reducible show wpAny _ _ (call (Value.ref _) _ _) _ _ _)); (first | (k_unfold; (try dsimp only)) | walk1 | (dsimp only; walk1)))
    have hmo' : ∀ a ∈ bs, ∀ b ∈ bs, ix a < ix b → od a < od b := fun a ha b hb q => by have := hmo a ha b hb q; rw [if_neg (by decide)] at this; exact this
    have Nt : News g L' h1 tps := fun p hp => N1 p (.tail _ (.tail _ (.tail _ (.tail _ hp))))
    have hb2 : 2 ≤ bs.length := by (first | lia | omega)
    refine sort_tups (D := D) (bs := bs) (rs := fk r ix) (b := false) (kw := []) (N1 _ (.head _)).1 hb2 (by (first | lia | omega)) (hTI.tups Nt hTD) (nodup_of_map hLS.best.nodup) (od_ne hLS.inj fun a ha b hb q => by have := hmo' a ha b hb q; (first | lia | omega)) (fun a ha b hb => tupLt_up (N := vs.length) (by (first | lia | omega)) (fun b hb => hLS.ix_lt hb) hLS.inj hmo' hr hre ha hb) (fk_ne (N := vs.length) (by (first | lia | omega)) (fun b hb => hLS.ix_lt hb) hLS.inj) ?so1 (nk_1 D) fun h2 tk2 cs c2 hcp hcs hl2 hk2 hsz2 => ?_
    case so1 => (unfold argsOk; kernel_rfl)
    have F2 := fr_but F1 hk2 (N1 _ (.head _)).2.1 (N1 _ (.head _)).2.2
    have N2 : News g L' h2 ((D, listOf (refs cs).toArray c2) :: (L, oL) :: (L' + 1, cell) :: tps) := fun p hp => by
      rcases List.mem_cons.mp hp with rfl | hp
      · exact ⟨hl2, (N1 _ (.head _)).2⟩
      rcases List.mem_cons.mp hp with rfl | hp
      · have z := N1 _ (.tail _ (.tail _ (.head _)))
        exact ⟨hk2 _ _ (Ne.symm hDL) z.1, z.2⟩
      rcases List.mem_cons.mp hp with rfl | hp
      · have z := N1 _ (.tail _ (.tail _ (.tail _ (.head _))))
        exact ⟨hk2 _ _ (Ne.symm hDc) z.1, z.2⟩
      · exact ⟨hk2 _ _ (hTD p hp) (Nt p hp).1, (Nt p hp).2⟩
    have hcl : cs.length = bs.length := hcp.length_eq
    have hfin := hLS.fin (by (first | lia | omega)) hcp (hcs.imp fun {a b} q => by rw [if_neg (by decide)] at q; exact q)
    have hTc := hTI.sub (cs := cs) fun b hb => hcp.mem_iff.mp hb
    clear F1 N1 Nt
    dsimp only
    walk1
    walk1
    refine' eval_comp (cl := []) ?cl2 rfl ?nm2 ?_ ?hs2
    case cl2 => with_unfolding_all rfl
    case nm2 => decide +kernel
    case hs2 => (intro _; rfl)
    walk1
    have hout : (List.range cs.length).map (fun k => vs.getD (ix (cs.getD k 0)) Value.none) = ((ord r vs.length).take n.toNat).map (fun i => vs.getD i Value.none) := by
      have e1 : (List.range cs.length).map (fun k => vs.getD (ix (cs.getD k 0)) Value.none) = ((List.range cs.length).map (fun k => cs.getD k 0)).map (fun b => vs.getD (ix b) Value.none) := by rw [List.map_map]; rfl
      have e2 : cs.map (fun b => vs.getD (ix b) Value.none) = (cs.map ix).map (fun i => vs.getD i Value.none) := by rw [List.map_map]; rfl
      rw [e1, range_map_getD, e2, hfin]
      congr 1
      rw [hbk, zal.get]
      rw [List.take_eq_take_iff, ord_len]
      (first | lia | omega)
    have hDs := (N2 _ (.head _)).1
    refine' comp_tups (s := { s with heap := h2, toks := tk2 }) (l := D) (as := cs) (c0 := c2) (fun k => vs.getD (ix (cs.getD k 0)) Value.none) ?c1 ?c2 ?c3 ?c4 ?c5 ?c6 ?c7
    case c1 => rfl
    case c2 => exact hDs
    case c3 => (first | lia | omega)
    case c4 => decide +kernel
    case c5 => rfl
    case c6 =>
      intro k a h5 tk5 m5 hka hns5 st5 Q5 E5 hQ5
      obtain ⟨t9, u9, tl9, ⟨x9, y9, e9, hv9⟩, hm9⟩ := hTc a (List.mem_of_getElem? hka)
      injection e9 with ex e9
      injection e9 with _ e9
      subst e9
      subst ex
      have z9 := st5 _ _ (N2 _ (.tail _ (.tail _ (.tail _ hm9)))).1
      refine assign2 (s := { s with heap := h5, toks := tk5 }) rfl ⟨_, z9, rfl, 0, rfl⟩ rfl rfl rfl hns5 fun h6 tk6 ns6 kp6 => ?_
      refine wpAny_Name (wpAny_loadName_local rfl rfl ns6 rfl ?_) (by decide)
      have ek : cs.getD k 0 = a := by rw [List.getD_eq_getElem?_getD, hka]; rfl
      have ev : vs.getD (ix (cs.getD k 0)) Value.none = .str (S (ix a)) t9 := by rw [ek, List.getD_eq_getElem?_getD, hv9]; rfl
      have := hQ5 h6 tk6 _ ns6 kp6
      rw [ev] at this
      exact this
    case c7 =>
      intro h7 tk7 mC c7 hnC hl7 st7
      refine post_eval (s := { s with heap := h2, toks := tk2 }) hnC fun h8 hk8 hsz8 => ?_
      rw [hout] at hl7
      have hsz : ∀ b o, h2.get? b = some o → b ≠ h2.objs.size + 2 := fun b o e => neN (by have := ltN (Heap.lt_size e); (first | lia | omega))
      refine ret h8 _ _ c7 (fun b o e => hk8 _ _ (hsz _ _ (F2.keep _ _ e)) (st7 _ _ (F2.keep _ _ e))) (hk8 _ _ (hsz _ _ (N2 _ (.tail _ (.head _))).1) (st7 _ _ (N2 _ (.tail _ (.head _))).1)) (hk8 _ _ (neN (by (first | lia | omega))) hl7) ?_ ?_
      · cases q : g.get? (h2.objs.size + 1) with
        | none => rfl
        | some o => have := ltN (Heap.lt_size (F2.keep _ _ q)); (first | lia | omega)
      · have h0 : L < h2.objs.size := Heap.lt_size (N2 (L, oL) (.tail _ (.head _))).1
        refine neN ?_
        dsimp only
        (first | lia | omega)
  )
end Mine
end
theorem Mine.start_X1NS : True := by
  w_top off
  trivial
section
open PySem PySem.W PySem.Calls PyProof.Rows
set_option maxRecDepth 100000
set_option maxHeartbeats 8000000
namespace Mine
variable {w : World}
theorem ns_heap_n {g : Heap} {s : Shared} {Q : Flow → Shared → Prop} {dp un : Nat} {gd : Option (List Code)} {env1 : Env} {mean : ExcName → Option Value} {mg mb : Str → Option Value}
   {oc : Value} {od : Option Addr} {osl : Array (Option Value)} {name qual : Str} {params : Arguments} {body tail : List Stmt} {scope : Scope} {dV kV doc pm cdv ct : Value} {an : Option Addr}
   {L L' c src l c0 : Nat} {oL cell : Obj} {n : Int} {tn : Tok} {vs : List Value} {S : Nat → Str} {r : Nat → Int} {rest : List (Addr × Obj)} {m : Str → Option Value}
   (hK : (hd.heap_39 w.params).lookup 76 = some ⟨oc, od, .func (fnOf name qual params body scope dV kV doc pm an cdv ct), osl⟩) (ht : body.drop 2 = tail)
   (X : (hd.heap_39 w.params).In g) (T : Top hd.view_39 (looseW hd.view_39 [Str.ofString "nsmallest", Str.ofString "nlargest"]) mean mg mb g)
   (F : Fr g L' s.heap (fun y => if y = Str.ofString "iterable" then some (.ref src) else if y = Str.ofString "n" then some (.int n tn) else m y)) (N : News g L' s.heap ((L, oL) :: (c, cell) :: rest)) 
   (hc : c = L' + 1) (hcell : cell.data = .cell (some .none))
   (hf1 : env1.frame = some L) (hk1 : env1.scope.kind = .function) (hoL : ∀ vs, oL.data ≠ .fields vs) (hcL : c ≠ L) 
   (hdp : dp + 6 < recursionLimit) (hun : un + 360 < cLine)
   (hl : g.get? l = some (listOf vs.toArray c0)) (hN : vs.length < 64) (hN2 : vs.length = 0 ∨ 2 ≤ vs.length) (hn1 : n ≠ 1) (hn0 : -1 ≤ n) (hn : n < 64)
   (hkey : ∀ i v, vs[i]? = some v → ∃ t, v = Value.str (S i) t)
   (hr : ∀ i j, i < vs.length → j < vs.length → strLt (S i) (S j) = decide (r i < r j)) (hre : ∀ i j, i < vs.length → j < vs.length → (S i = S j ↔ r i = r j))
   (hsrc : ∀ (A : Around) (Q E : Value → Shared → Prop) tk, (∀ h' (I : Nat), Fr g L' h' (fun y => if y = Str.ofString "iterable" then some (.ref src) else if y = Str.ofString "n" then some (.int n tn) else m y) → News g L' h' [(L, oL), (c, cell), (I, litObj (.ref l) 0)] → I ≠ L → I ≠ c → s.heap.objs.size ≤ h'.objs.size → Q (.ref I) { s with heap := h', toks := tk }) →
     wpAny (model PySem.Challenge.rw_mq0307_01.row.prog w) A (call (.builtin "iter") [.ref src]) Q E { s with toks := tk })
   (ret : ∀ h' tk' (R : Nat) cc, Stays g h' → h'.get? L = some oL → h'.get? R = some (listOf (((ord r vs.length).take n.toNat).map fun i => vs.getD i Value.none).toArray cc) → g.get? R = none → R ≠ L → Q (.ret (.ref R)) { s with heap := h', toks := tk' }) :
   wpAny (model PySem.Challenge.rw_mq0307_01.row.prog w) ((AR dp un gd [env1]).deeper (envOfC qual scope L' 76 cdv)) (execs tail (envOfC qual scope L' 76 cdv)) Q (fun _ _ => False) s := by
  subst hc
  w_strict (
  revert X
  k_fill
  intro X
  have e := lk_inj hK (by k_is : (hd.heap_39 w.params).lookup 76 = some ⟨_, _, .func (fnOf _ _ _ _ _ _ _ _ _ _ _ _), _⟩)
  injection e with e1 e2 e3 e4
  injection e3 with e3
  injection e3 with e5 e6 e7 e8 e9 e10 e11 e12 e13 e14 e15 e16 e17 e18
  injection e8 with e8
  subst_vars
  clear hK e10 e11
  simp only [List.drop_succ_cons, List.drop_zero]
  (try dsimp only) 
  (try k_fold)
  k_with_none
  repeat' ((fail_if_success (with_reducible show wpAny _ _ (call (Value.ref _) _ _) _ _ _)); (fail_if_success (with_reducible show wpAny _ _ (call (Value.builtin _) _ _) _ _ _));  (first | (k_unfold; (try dsimp only)) | walk1 | (dsimp only; walk1)))
  refine hsrc _ _ _ _ fun h1 I F1 N1 hIL hIc hsz1 => ?_
  clear F N
  repeat' ((fail_if_success (with_reducible show wpAny _ _ (exec (Stmt.Assign _ (PySem.Expr.ListComp _ _ _ _) _) _) _ _ _)); walk1)
  refine' exec_assign_comp (cl := []) ?sw ?cl rfl ?nm ?_ ?hs
  case sw => with_unfolding_all rfl
  case cl => with_unfolding_all rfl
  case nm => decide +kernel
  case hs => (intro _; rfl)
  repeat' ((fail_if_success (with_reducible show wpAny _ _ (call (Value.type "zip") _ _) _ _ _));  (first | (k_unfold; (try dsimp only)) | walk1 | (dsimp only; walk1)))
  rename_i a1 F2 N2 a4
  refine' zip_comp (L := L) (oL := oL) (cA := L' + 1) (cell := cell) (l := l) (c0 := c0) (vs := vs) (g := g) (fun k o => ∃ t u, vs[k]? = some (.str (S k) t) ∧ o = tupObj [.str (S k) t, .int k u]) ?q0 ?z1 ?z2 ?y1 ?y2 ?y3 hIL hIc hl ?q1 ?q2 ?q3 ?z3 ?q4 ?q5 ?q6 ?z4 ?z5
  case q0 => rfl
  case y1 => exact a1
  case y2 => exact F2
  case y3 => exact N2
  case q1 => rfl
  case q2 => rfl
  case q3 => rfl
  case q4 => rfl
  case q5 => rfl
  case q6 => rfl
  case z1 => exact small_up hn0 hn
  case z2 => (rw [rs_up]; split <;> (first | lia | omega))
  case z3 => decide +kernel
  case z4 =>
    intro C k v h tk mC u hk hv hnC hi he stg hnL hhL hhc Q' E' hQ'
    obtain ⟨t, rfl⟩ := hkey k v hv
    repeat' ((fail_if_success (with_reducible show wpAny _ _ (eval (PySem.Expr.Name _ _) _) _ _ _)); walk1)
    refine wpAny_Name (wpAny_loadName_local rfl rfl hnC he ?_) (by decide)
    repeat' ((fail_if_success (with_reducible show wpAny _ _ (eval (PySem.Expr.Name _ _) _) _ _ _)); walk1)
    refine wpAny_Name (wpAny_loadName_local rfl rfl hnC hi ?_) (by decide)
    walk1
    refine wpAny_newObj_type (hQ' _ _ _ _ (fun b o e => Heap.get?_push_of_some _ e) (Nat.le_refl _) (Heap.get?_push_size _ rfl) ⟨t, u, hv, ?_⟩)
    have e0 : (0 : Int) + (k : Int) * 1 = k := by omega
    rw [e0]; rfl
  case z5 =>
    intro h3 tk3 as D c3 f3 j3 F3 N3 hDI hDL hDc hal hap haq hao hj1 hj2
    have hrs : (Builtin.Range.rangeSize 0 n 1).toNat = n.toNat := by rw [rs_up]; split <;> (first | lia | omega)
    have hgs : ∀ q ∈ as, q ≠ I ∧ q ≠ L' ∧ g.get? q = none := fun q hq => by
      have h0 := (haq q hq).1
      dsimp only at h0
      have i1 : I < _ := ltN (Heap.lt_size (N2 (I, litObj (.ref l) 0) (.tail _ (.tail _ (.head _)))).1)
      have i2 := ltN F2.ns.lt
      refine ⟨neN (by (first | lia | omega)), neN (by (first | lia | omega)), ?_⟩
      cases q' : g.get? q with
      | none => rfl
      | some o => have := ltN (Heap.lt_size (F2.keep _ _ q')); (first | lia | omega)
    clear F2 N2 a1 a4 
    refine' ns_heap2_n (w := w) (L := L) (L' := L') (c := L' + 1) (D := D) (I := I) (l := l) (c0 := c0) (c3 := c3) (j3 := j3) (oL := oL) (cell := cell) (n := n) (tn := tn) (vs := vs) (S := S) (r := r) (m := fun y => if y = Str.ofString "iterable" then some (.ref src) else m y) (as := as) (f3 := f3) ?w1 ?w2 X T ?w3 N3 rfl hDI hDL hDc hIL hIc ?w4 hap ?w5 ?w6 ?w7 ?w8 hf1 hk1 hoL hcL hdp hun hl hN hN2 hn1 hn0 hn hkey hr hre ?w9
    case w1 => k_is
    case w2 => rfl
    case w3 =>
      refine fr_as F3 fun y => ?_
      by_cases h1 : y = Str.ofString "result"
      · subst h1; rfl
      by_cases h2 : y = Str.ofString "it"
      · subst h2; rfl
      by_cases h3 : y = Str.ofString "iterable"
      · subst h3; rfl
      simp only [if_neg h1, if_neg h2, if_neg h3]
    case w4 => rw [hal, hrs]
    case w5 => exact fun q hq => ⟨(haq q hq).2, hgs q hq⟩
    case w6 =>
      intro k q hq
      obtain ⟨o, ho, t, u, hv, rfl⟩ := hao k q hq
      exact ⟨t, u, hv, ho⟩
    case w7 => exact fun q => hj1 (by have := rs_up (n := n); split at this <;> (first | lia | omega))
    case w8 => exact fun q => hj2 (by have := rs_up (n := n); split at this <;> (first | lia | omega))
    case w9 => exact fun h' tk' R cc a b c d e => ret h' tk' R cc a b c d e
  )
end Mine
end
theorem Mine.start_X3NS : True := by
  w_top off
  trivial
section
open PySem PySem.W PySem.Calls PyProof.Rows
set_option maxRecDepth 100000
set_option maxHeartbeats 8000000
namespace Mine
variable {w : World}
theorem ns_list_n {g : Heap} {s : Shared} {Q : Flow → Shared → Prop} {dp un : Nat} {gd : Option (List Code)} {env1 : Env} {mean : ExcName → Option Value} {mg mb : Str → Option Value}
   {oc : Value} {od : Option Addr} {osl : Array (Option Value)} {name qual : Str} {params : Arguments} {body tail tail2 : List Stmt} {scope : Scope} {dV kV doc pm cdv ct : Value} {an : Option Addr}
   {L L' c l c0 : Nat} {oL cell : Obj} {n : Int} {tn : Tok} {vs : List Value} {S : Nat → Str} {r : Nat → Int} {m : Str → Option Value}
   (hK : (hd.heap_39 w.params).lookup 76 = some ⟨oc, od, .func (fnOf name qual params body scope dV kV doc pm an cdv ct), osl⟩) (ht : body.drop 1 = tail)
   (X : (hd.heap_39 w.params).In g) (T : Top hd.view_39 (looseW hd.view_39 [Str.ofString "nsmallest", Str.ofString "nlargest"]) mean mg mb g)
   (F : Fr g L' s.heap (fun y => if y = Str.ofString "iterable" then some (.ref l) else if y = Str.ofString "n" then some (.int n tn) else m y)) (N : News g L' s.heap [(L, oL), (c, cell)]) 
   (hc : c = L' + 1) (hcell : cell.data = .cell (some .none))
   (hf1 : env1.frame = some L) (hk1 : env1.scope.kind = .function) (hoL : ∀ vs, oL.data ≠ .fields vs) (hcL : c ≠ L) 
   (hdp : dp + 8 < recursionLimit) (hun : un + 480 < cLine)
   (hl : g.get? l = some (listOf vs.toArray c0)) (hN : vs.length < 64) (hN2 : 2 ≤ vs.length) (hn0 : -1 ≤ n) (hn : n < 64)
   (hkey : ∀ i v, vs[i]? = some v → ∃ t, v = Value.str (S i) t)
   (hr : ∀ i j, i < vs.length → j < vs.length → strLt (S i) (S j) = decide (r i < r j))
   (ht2 : body.drop 2 = tail2)
   (k : n < vs.length → ∀ h' tk' ts, Fr g L' h' (fun y => if y = Str.ofString "iterable" then some (.ref l) else if y = Str.ofString "n" then some (.int n tn) else if y = Str.ofString "size" then some (.int vs.length ts) else m y) → News g L' h' [(L, oL), (c, cell)] →
     wpAny (model PySem.Challenge.rw_mq0307_01.row.prog w) ((AR dp un gd [env1]).deeper (envOfC qual scope L' 76 cdv)) (execs tail2 (envOfC qual scope L' 76 cdv)) Q (fun _ _ => False) { s with heap := h', toks := tk' })
   (ret : ∀ h' tk' (R : Nat) cc, Stays g h' → h'.get? L = some oL → h'.get? R = some (listOf (((ord r vs.length).take n.toNat).map fun i => vs.getD i Value.none).toArray cc) → g.get? R = none → R ≠ L → Q (.ret (.ref R)) { s with heap := h', toks := tk' }) :
   wpAny (model PySem.Challenge.rw_mq0307_01.row.prog w) ((AR dp un gd [env1]).deeper (envOfC qual scope L' 76 cdv)) (execs tail (envOfC qual scope L' 76 cdv)) Q (fun _ _ => False) s := by
  subst hc
  w_strict (
  revert X
  k_fill
  intro X
  have e := lk_inj hK (by k_is : (hd.heap_39 w.params).lookup 76 = some ⟨_, _, .func (fnOf _ _ _ _ _ _ _ _ _ _ _ _), _⟩)
  injection e with e1 e2 e3 e4
  injection e3 with e3
  injection e3 with e5 e6 e7 e8 e9 e10 e11 e12 e13 e14 e15 e16 e17 e18
  injection e8 with e8
  subst_vars
  clear hK e10 e11
  simp only [List.drop_succ_cons, List.drop_zero]
  (try dsimp only) 
  (try k_fold)
  k_with_none
  walk1
  refine wpAny_Try_except ?_
  repeat' ((fail_if_success (with_reducible show wpAny _ _ (call (Value.ref _) _ _) _ _ _)); (fail_if_success (with_reducible show wpAny _ _ (call (Value.builtin _) _ _) _ _ _));  (first | (k_unfold; (try dsimp only)) | walk1 | (dsimp only; walk1)))
  have hil : s.heap.IsList l vs.toArray := ⟨_, F.keep _ _ hl, rfl, c0, rfl⟩
  refine len_list hil (by simp only [List.size_toArray]; (first | lia | omega)) ?_
  clear hil
  repeat' ((fail_if_success (with_reducible show wpAny _ _ (truthy _) _ _ _)); (fail_if_success (with_reducible show wpAny _ _ (call (Value.builtin _) _ _) _ _ _));  (first | (k_unfold; (try dsimp only)) | walk1 | (dsimp only; walk1)))
  rename Fr _ _ _ _ => F1
  rename News _ _ _ _ => N1
  rename Heap => h1
  refine wpAny_truthy_bool ?_
  by_cases hge : (vs.length : Int) ≤ n
  · rw [if_pos (by simpa using hge)]
    repeat' ((fail_if_success (with_reducible show wpAny _ _ (call (Value.builtin _) _ _) _ _ _));  (first | (k_unfold; (try dsimp only)) | walk1 | (dsimp only; walk1)))
    show wpAny _ _ (call (Value.builtin "sorted") [Value.ref l] [(Str.ofString "key", .none)]) _ _ _
    have szl : ∀ b o, h1.get? b = some o → b < h1.objs.size := fun b o e => Heap.lt_size e
    refine sorted_call (vs := vs) (tree := fun x => nk_tree x false) ⟨_, F1.keep _ _ hl, rfl, c0, rfl⟩ hN ?s2 ?s3 ?s4 ?_
    case s2 => (unfold argsOk; kernel_rfl)
    case s3 => (intro x; unfold argsOk; kernel_rfl)
    case s4 => exact fun x => nk_3 x
    intro D h2 hD hDl st2 hsz2
    dsimp only at hD st2 hsz2 ⊢
    have neD : ∀ b o, h1.get? b = some o → b ≠ D := fun b o e q => by have := ltN (szl b o e); rw [q, hD] at this; (first | lia | omega)
    have hDg : g.get? D = none := by
      cases q : g.get? D with
      | none => rfl
      | some o => exact absurd rfl (neD _ _ (F1.keep _ _ q))
    have hDL' : D ≠ L' := fun q => by obtain ⟨o, _, _, ho, _⟩ := F1.ns; exact neD _ _ ho q.symm
    have hSA : StrsAre S vs := hkey
    refine nk_sort (b := false) (r := r) (κ := oneType') hDl hN2 hN ?kind ?cmp ?fin
    case kind => exact fun h tk _ Q' E' hq => strs_kind hSA hN2 hq
    case cmp =>
      intro i j h tk C _ hi hj hC
      refine strs_lt hSA hi hj ?_
      have := hC tk
      rw [← hr i j hi hj] at this
      exact this
    case fin =>
      intro h3 tk3 q c3 hqp hqs hl3 hk3 hsz3
      refine ⟨rfl, ?_⟩
      have eq : q = ord r vs.length := ord_unique hqp hqs
      have up : Stays h1 h3 := fun b o e => hk3 b o (neD b o e) (st2 b o e)
      have F3 : Fr g L' h3 _ := ⟨F1.ns.keeps up, fun b o e => up b o (F1.keep b o e), F1.above⟩
      have N3 : News g L' h3 [(D, listOf (q.map fun i => vs.getD i Value.none).toArray c3), (L, oL), (L' + 1, cell)] := fun p hp => by
        rcases List.mem_cons.mp hp with rfl | hp
        · exact ⟨hl3, hDL', hDg⟩
        · exact ⟨up _ _ (N1 p hp).1, (N1 p hp).2⟩
      clear F1 N1
      repeat' ((fail_if_success (with_reducible show wpAny _ _ (subscriptTail _ _ _ _) _ _ _));  (first | (k_unfold; (try dsimp only)) | walk1 | (dsimp only; walk1)))
      refine kba_turn (value' := PySem.Expr.Name (Str.ofString "x") ⟨0, 0, 0, 0⟩) (fun _ => rfl) ?_
      refine kmk_slice (s := { s with heap := h3, toks := tk3 }) (lo := none) (hi := some n) F3 N3 ⟨_, (N3 _ (.head _)).1, rfl, c3, rfl⟩ IsPart.none (IsPart.int _ _) ?sl ?su (fun _ => rfl) ?sz
      case su => with_unfolding_all rfl
      case sz => (rw [List.size_toArray, List.length_map, hqp.length_eq, List.length_range, sizeLine_eq]; (first | lia | omega))
      intro D2 h4 F4 N4 hlt4
      have e4 : slicePick (q.map fun i => vs.getD i Value.none).toArray none (some n) none = (((ord r vs.length).take n.toNat).map fun i => vs.getD i Value.none).toArray := by
        have en : n = ((n.toNat : Nat) : Int) := by (first | lia | omega)
        rw [en, slicePick_upto', Int.toNat_natCast, eq, List.map_take]
      have z := N4 _ (.head _)
      rw [e4] at z
      exact ret h4 _ D2 _ F4.keep (N4 _ (.tail _ (.tail _ (.head _)))).1 z.1 z.2.2 (Nat.ne_of_gt (hlt4 (L, oL) (.tail _ (.head _))))
  · rw [if_neg (by simpa using hge)]
    repeat' ((fail_if_success (with_reducible show wpAny _ _ (execs (_ :: _) _) _ _ _)); (first | (k_unfold; (try dsimp only)) | walk1 | (dsimp only; walk1)))
    refine' k (by (first | lia | omega)) h1 tk ?ts (fr_as F1 ?fa) N1
    case fa =>
      intro y
      by_cases h1 : y = Str.ofString "size"
      · subst h1; exact rfl
      by_cases h2 : y = Str.ofString "iterable"
      · subst h2; rfl
      by_cases h3 : y = Str.ofString "n"
      · subst h3; rfl
      simp only [if_neg h1, if_neg h2, if_neg h3]
  )
end Mine
end
theorem Mine.start_X4NS : True := by
  w_top off
  trivial
section
open PySem PySem.W PySem.Calls PyProof.Rows
set_option maxRecDepth 100000
set_option maxHeartbeats 8000000
namespace Mine
variable {w : World}
theorem ns_one_n {g : Heap} {s : Shared} {Q : Flow → Shared → Prop} {dp un : Nat} {gd : Option (List Code)} {env1 : Env} {mean : ExcName → Option Value} {mg mb : Str → Option Value}
   {oc : Value} {od : Option Addr} {osl : Array (Option Value)} {name qual : Str} {params : Arguments} {body tail : List Stmt} {scope : Scope} {dV kV doc pm cdv ct : Value} {an : Option Addr}
   {L L' c src l c0 : Nat} {oL cell : Obj} {n : Int} {tn : Tok} {vs : List Value} {S : Nat → Str} {r : Nat → Int} {rest : List (Addr × Obj)} {m : Str → Option Value}
   (hK : (hd.heap_39 w.params).lookup 76 = some ⟨oc, od, .func (fnOf name qual params body scope dV kV doc pm an cdv ct), osl⟩) (ht : body.drop 0 = tail)
   (X : (hd.heap_39 w.params).In g) (T : Top hd.view_39 (looseW hd.view_39 [Str.ofString "nsmallest", Str.ofString "nlargest"]) mean mg mb g)
   (F : Fr g L' s.heap (fun y => if y = Str.ofString "iterable" then some (.ref src) else if y = Str.ofString "n" then some (.int n tn) else m y)) (N : News g L' s.heap ((L, oL) :: (c, cell) :: rest)) 
   (hc : c = L' + 1) (hcell : cell.data = .cell (some .none))
   (hf1 : env1.frame = some L) (hk1 : env1.scope.kind = .function) (hoL : ∀ vs, oL.data ≠ .fields vs) (hcL : c ≠ L) 
   (hdp : dp + 8 < recursionLimit) (hun : un + 480 < cLine)
   (hl : g.get? l = some (listOf vs.toArray c0)) (hN : vs.length < 64) (hn1 : n = 1)
   (hkey : ∀ i v, vs[i]? = some v → ∃ t, v = Value.str (S i) t)
   (hr : ∀ i j, i < vs.length → j < vs.length → strLt (S i) (S j) = decide (r i < r j))
   (hsrc : ∀ (A : Around) (Q E : Value → Shared → Prop) tk, (∀ h' (I : Nat), Fr g L' h' (fun y => if y = Str.ofString "iterable" then some (.ref src) else if y = Str.ofString "n" then some (.int n tn) else m y) → News g L' h' [(L, oL), (c, cell), (I, litObj (.ref l) 0)] → I ≠ L → I ≠ c → s.heap.objs.size ≤ h'.objs.size → Q (.ref I) { s with heap := h', toks := tk }) →
     wpAny (model PySem.Challenge.rw_mq0307_01.row.prog w) A (call (.builtin "iter") [.ref src]) Q E { s with toks := tk })
   (ret : ∀ h' tk' (R : Nat) cc, Stays g h' → h'.get? L = some oL → h'.get? R = some (listOf (((ord r vs.length).take n.toNat).map fun i => vs.getD i Value.none).toArray cc) → g.get? R = none → R ≠ L → Q (.ret (.ref R)) { s with heap := h', toks := tk' }) :
   wpAny (model PySem.Challenge.rw_mq0307_01.row.prog w) ((AR dp un gd [env1]).deeper (envOfC qual scope L' 76 cdv)) (execs tail (envOfC qual scope L' 76 cdv)) Q (fun _ _ => False) s := by
  subst hc
  subst hn1
  w_strict (
  revert X
  k_fill
  intro X
  have e := lk_inj hK (by k_is : (hd.heap_39 w.params).lookup 76 = some ⟨_, _, .func (fnOf _ _ _ _ _ _ _ _ _ _ _ _), _⟩)
  injection e with e1 e2 e3 e4
  injection e3 with e3
  injection e3 with e5 e6 e7 e8 e9 e10 e11 e12 e13 e14 e15 e16 e17 e18
  injection e8 with e8
  subst_vars
  clear hK e10 e11
  simp only [List.drop_succ_cons, List.drop_zero]
  (try dsimp only) 
  (try k_fold)
  k_with_none
  repeat' ((fail_if_success (with_reducible show wpAny _ _ (call (Value.ref _) _ _) _ _ _)); (fail_if_success (with_reducible show wpAny _ _ (call (Value.builtin _) _ _) _ _ _));  (first | (k_unfold; (try dsimp only)) | walk1 | (dsimp only; walk1)))
  refine hsrc _ _ _ _ fun h1 I F1 N1 hIL hIc hsz1 => ?_
  clear F N
  repeat' ((fail_if_success (with_reducible show wpAny _ _ (call (Value.ref _) _ _) _ _ _)); (fail_if_success (with_reducible show wpAny _ _ (call (Value.builtin _) _ _) _ _ _));  (first | (k_unfold; (try dsimp only)) | walk1 | (dsimp only; walk1)))
  rename Fr _ _ _ _ => F2
  rename News _ _ _ _ => N2
  rename Heap => h2
  refine call_object ?_
  have F3 := F2.push objObj
  have N3 := News.push F2 N2 objObj
  have sz2 : ∀ b o, h2.get? b = some o → b < h2.objs.size := fun b o e => Heap.lt_size e
  have hOI : h2.objs.size ≠ I := Nat.ne_of_gt (sz2 _ _ (N2 (I, litObj (.ref l) 0) (by simp)).1)
  dsimp only
  generalize hO : h2.objs.size = O at N3 sz2 hOI ⊢
  generalize h2.push objObj = h3 at F3 N3 ⊢
  clear F2 N2 hO sz2
  repeat' ((fail_if_success (with_reducible show wpAny _ _ (call (Value.ref _) _ _) _ _ _)); (fail_if_success (with_reducible show wpAny _ _ (call (Value.builtin _) _ _) _ _ _));  (first | (k_unfold; (try dsimp only)) | walk1 | (dsimp only; walk1)))
  rename Fr _ _ _ _ => F4
  rename News _ _ _ _ => N4
  rename Heap => h4
  show wpAny _ _ (call (Value.builtin "min") [Value.ref I] [(Str.ofString "default", .ref O), (Str.ofString "key", .none)]) _ _ _
  have zI := N4 (I, litObj (.ref l) 0) (by simp)
  have NI : News g L' h4 [(I, litObj (.ref l) 0)] := fun p hp => by rw [List.mem_singleton.mp hp]; exact zI
  have st := stays_ground F4 NI
  obtain ⟨o4, es4, ep4, ho4, r4⟩ := F4.ns
  have hL4 : (hideAll h4 [I]).get? L' = some o4 := hideAll_get _ ho4 fun q => zI.2.1 (List.mem_singleton.mp q).symm
  have hLL4 : (hideAll h4 [I]).get? L = some oL := hideAll_get _ (N4 (L, oL) (by simp)).1 fun q => hIL (List.mem_singleton.mp q).symm
  have hkp : ∀ h5, Stays (hideAll h4 [I]) h5 → Fr g L' h5 _ ∧ News g L' h5 [(O, objObj), (L, oL), (L' + 1, cell)] := fun h5 st5 => by
    have kp : ∀ a o, a ≠ I → h4.get? a = some o → h5.get? a = some o := fun a o ha e => st5 a o (hideAll_get _ e fun q => ha (List.mem_singleton.mp q))
    refine ⟨fr_but F4 kp zI.2.1 zI.2.2, fun p hp => ?_⟩
    have z := N4 p (by simp only [List.mem_cons, List.not_mem_nil, or_false] at hp ⊢; rcases hp with q | q | q <;> simp [q])
    refine ⟨kp _ _ ?_ z.1, z.2⟩
    simp only [List.mem_cons, List.not_mem_nil, or_false] at hp
    rcases hp with q | q | q
    · rw [q]; exact hOI
    · rw [q]; exact Ne.symm hIL
    · rw [q]; exact Ne.symm hIc
  have gL := (N4 (L, oL) (by simp)).2.2
  refine min_call_n (s := { s with heap := h4, toks := tk }) (g := hideAll h4 [I]) (l := l) (vs := vs) (c0 := c0) (gr_of (k := 4) X T st (no_self F4) ⟨o4, es4, ep4, hL4, r4⟩ hLL4 hoL gL rfl rfl hf1 hk1 (by (first | lia | omega)) (by (first | lia | omega))) (stays_hide _ _) (st _ _ hl) (hideAll_none _ (.head _)) zI.1 (Nat.le_of_eq (hideAll_size _ _)) hkey hr ?R0 ?R
  case R0 =>
    intro h0 h5 tk5 st5 hsz5
    obtain ⟨F5, N5⟩ := hkp h5 st5
    clear F4 N4 NI zI hkp ho4
    repeat' ((fail_if_success (with_reducible show wpAny _ _ (call (Value.ref _) _ _) _ _ _)); (first | (k_unfold; (try dsimp only)) | walk1 | (dsimp only; walk1)))
    rename Fr _ _ _ _ => F6
    rename News _ _ _ _ => N6
    rename_i l6 l7
    have e0 : (((ord r vs.length).take (1 : Int).toNat).map fun i => vs.getD i Value.none) = [] := by
      rw [List.eq_nil_of_length_eq_zero (l := ord r vs.length) (by rw [ord_len, h0])]; rfl
    rw [e0] at ret
    exact ret _ _ _ 0 F6.keep (N6 _ (.tail _ (.tail _ (.head _)))).1 (N6 _ (.head _)).1 (N6 _ (.head _)).2.2 (Nat.ne_of_gt l7.2.1)
  case R =>
    intro b v h5 tk5 hv hb st5 hsz5
    obtain ⟨F5, N5⟩ := hkp h5 st5
    clear F4 N4 NI zI hkp ho4
    have e1 : (((ord r vs.length).take (1 : Int).toNat).map fun i => vs.getD i Value.none) = [v] := by
      show (((ord r vs.length).take 1).map fun i => vs.getD i Value.none) = [v]
      rw [least_take hb, List.map_singleton, List.getD_eq_getElem?_getD, hv]; rfl
    rw [e1] at ret
    obtain ⟨t, rfl⟩ := hkey b v hv
    all_goals repeat' ((fail_if_success (with_reducible show wpAny _ _ (call (Value.ref _) _ _) _ _ _)); (first | (k_unfold; (try dsimp only)) | walk1 | (dsimp only; walk1)))
    all_goals refine wpAny_is_other rfl (by intro x; cases x) ?_
    all_goals repeat' ((fail_if_success (with_reducible show wpAny _ _ (call (Value.ref _) _ _) _ _ _)); (first | (k_unfold; (try dsimp only)) | walk1 | (dsimp only; walk1)))
    all_goals (
      rename Fr _ _ _ _ => F6
      rename News _ _ _ _ => N6
      rename_i l6 l7
      exact ret _ _ _ 0 F6.keep (N6 _ (.tail _ (.tail _ (.head _)))).1 (N6 _ (.head _)).1 (N6 _ (.head _)).2.2 (Nat.ne_of_gt l7.2.1))
  )
end Mine
end
theorem Mine.start_X5NS : True := by
  w_top off
  trivial
section
open PySem PySem.W PySem.Calls PyProof.Rows
set_option maxRecDepth 100000
set_option maxHeartbeats 8000000
namespace Mine
variable {w : World}
theorem ns_call_ln {g : Heap} {s : Shared} {Q E : Value → Shared → Prop} {dp un : Nat} {gd : Option (List Code)} {env1 : Env} {mean : ExcName → Option Value} {mg mb : Str → Option Value}
   {L l c0 : Nat} {oL : Obj} {n : Int} {tn : Tok} {vs : List Value} {S : Nat → Str} {r : Nat → Int}
   (X : (hd.heap_39 w.params).In g) (T : Top hd.view_39 (looseW hd.view_39 [Str.ofString "nsmallest", Str.ofString "nlargest"]) mean mg mb g)
   (hg : Stays g s.heap) (hgs : g.objs.size ≤ s.heap.objs.size) (hLg : g.get? L = none) (hL : s.heap.get? L = some oL) (hoL : ∀ vs, oL.data ≠ .fields vs)
   (hf1 : env1.frame = some L) (hk1 : env1.scope.kind = .function) 
   (hdp : dp + 9 < recursionLimit) (hun : un + 540 < cLine)
   (hl : g.get? l = some (listOf vs.toArray c0)) (hN : vs.length < 64) (hN2 : 2 ≤ vs.length) (hn0 : -1 ≤ n) (hn : n < 64)
   (hkey : ∀ i v, vs[i]? = some v → ∃ t, v = Value.str (S i) t)
   (hr : ∀ i j, i < vs.length → j < vs.length → strLt (S i) (S j) = decide (r i < r j)) (hre : ∀ i j, i < vs.length → j < vs.length → (S i = S j ↔ r i = r j))
   (ret : ∀ h' tk' (R : Nat) cc sl, Stays g h' → h'.get? L = some { oL with slots := sl } → h'.get? R = some (listOf (((ord r vs.length).take n.toNat).map fun i => vs.getD i Value.none).toArray cc) → g.get? R = none → R ≠ L → Q (.ref R) { s with heap := h', toks := tk' }) :
   wpAny (model PySem.Challenge.rw_mq0307_01.row.prog w) (AR dp un gd [env1]) (call (.ref 76) [.int n tn, .ref l]) Q E s := by
  w_strict (
  revert X
  k_fill
  intro X
  refine' enterC (g := g) (binds := [(Str.ofString "n", .int n tn), (Str.ofString "iterable", .ref l), (Str.ofString "key", .none)]) ?k0 ?k1 X hg hgs ?k2 ?k3 ?k4 ?k5 ?k6 ?_ ?k7 ?k8 ?k9
  case k0 => exact Nat.lt_of_le_of_lt (Nat.le_add_right _ _) hdp
  case k1 => exact T.nolimit
  case k2 => k_is
  case k3 => k_is
  case k4 => exact BindsTo.of_defaults rfl (hg _ _ (X _ _ (by k_is))) rfl rfl rfl
  case k5 => rfl
  case k6 => decide +kernel
  case k7 => rfl
  case k8 => rfl
  case k9 => rfl
  intro h1 tk1 cells F N hC st1
  obtain ⟨cell, rfl, hcell⟩ := (show CellsAre _ [(Str.ofString "key", s.heap.objs.size + 1)] cells from hC).one
  replace hcell : cell.data = .cell (some .none) := hcell
  have hLlt : L < s.heap.objs.size := Heap.lt_size hL
  generalize hL' : s.heap.objs.size = L' at *
  have hcL : L' + 1 ≠ L := by (first | lia | omega)
  have N' : News g L' h1 [(L, oL), (L' + 1, cell)] := fun p hp => by
    rcases List.mem_cons.mp hp with rfl | hp
    · exact ⟨st1 _ _ hL, neN (by (first | lia | omega)), hLg⟩
    · exact N p hp
  replace F : Fr g L' h1 (fun y => if y = Str.ofString "iterable" then some (.ref l) else if y = Str.ofString "n" then some (.int n tn) else (fun _ => none) y) := fr_as F fun y => rfl
  clear N hC
  (try dsimp only at F)
  by_cases hn1 : n = 1
  · refine' ns_one_n (w := w) (L := L) (L' := L') (src := l) (l := l) (c0 := c0) (oL := oL) (cell := cell) (n := n) (tn := tn) (vs := vs) (S := S) (r := r) (m := fun _ => none) (rest := []) ?w1 rfl X T F N' rfl hcell hf1 hk1 hoL hcL (by (first | lia | omega)) (by (first | lia | omega)) hl hN hn1 hkey hr ?w2 ?w3
    case w1 => k_is
    case w2 => exact src_list (s := { s with heap := h1, toks := tk1 }) F N' hl
    case w3 => exact fun h' tk' R cc a b c d e => ret h' tk' R cc oL.slots a b c d e
  refine' ns_not1 (w := w) (m := fun _ => none) ?v1 rfl X T F N' hn1 rfl fun tk2 => ?_
  case v1 => k_is
  refine' ns_list_n (w := w) (L := L) (L' := L') (l := l) (c0 := c0) (oL := oL) (cell := cell) (n := n) (tn := tn) (vs := vs) (S := S) (r := r) (m := fun _ => none) ?u1 rfl X T F N' rfl hcell hf1 hk1 hoL hcL (by (first | lia | omega)) (by (first | lia | omega)) hl hN hN2 hn0 hn hkey hr rfl ?u2 ?u3
  case u1 => k_is
  case u3 => exact fun h' tk' R cc a b c d e => ret h' tk' R cc oL.slots a b c d e
  case u2 =>
    intro hlt h2 tk3 ts F2 N2
    refine' ns_heap_n (w := w) (L := L) (L' := L') (src := l) (l := l) (c0 := c0) (oL := oL) (cell := cell) (n := n) (tn := tn) (vs := vs) (S := S) (r := r) (m := fun y => if y = Str.ofString "size" then some (.int vs.length ts) else none) (rest := []) ?t1 rfl X T F2 N2 rfl hcell hf1 hk1 hoL hcL (by (first | lia | omega)) (by (first | lia | omega)) hl hN (.inr hN2) hn1 hn0 hn hkey hr hre ?t2 ?t3
    case t1 => k_is
    case t2 => exact src_list (s := { s with heap := h2, toks := tk3 }) F2 N2 hl
    case t3 => exact fun h' tk' R cc a b c d e => ret h' tk' R cc oL.slots a b c d e
  )
theorem ns_call_in {g : Heap} {s : Shared} {Q E : Value → Shared → Prop} {dp un : Nat} {gd : Option (List Code)} {env1 : Env} {mean : ExcName → Option Value} {mg mb : Str → Option Value}
   {L l it c0 : Nat} {oL : Obj} {n : Int} {tn : Tok} {vs : List Value} {S : Nat → Str} {r : Nat → Int}
   (X : (hd.heap_39 w.params).In g) (T : Top hd.view_39 (looseW hd.view_39 [Str.ofString "nsmallest", Str.ofString "nlargest"]) mean mg mb g)
   (hg : Stays g s.heap) (hgs : g.objs.size ≤ s.heap.objs.size) (hLg : g.get? L = none) (hL : s.heap.get? L = some oL) (hoL : ∀ vs, oL.data ≠ .fields vs) (hIg : g.get? it = none) (hI : s.heap.get? it = some (litObj (.ref l) 0)) (hIL : it ≠ L)
   (hf1 : env1.frame = some L) (hk1 : env1.scope.kind = .function) 
   (hdp : dp + 9 < recursionLimit) (hun : un + 540 < cLine)
   (hl : g.get? l = some (listOf vs.toArray c0)) (hN : vs.length < 64) (hN2 : vs.length = 0 ∨ 2 ≤ vs.length) (hn0 : -1 ≤ n) (hn : n < 64)
   (hkey : ∀ i v, vs[i]? = some v → ∃ t, v = Value.str (S i) t)
   (hr : ∀ i j, i < vs.length → j < vs.length → strLt (S i) (S j) = decide (r i < r j)) (hre : ∀ i j, i < vs.length → j < vs.length → (S i = S j ↔ r i = r j))
   (ret : ∀ h' tk' (R : Nat) cc sl, Stays g h' → h'.get? L = some { oL with slots := sl } → h'.get? R = some (listOf (((ord r vs.length).take n.toNat).map fun i => vs.getD i Value.none).toArray cc) → g.get? R = none → R ≠ L → Q (.ref R) { s with heap := h', toks := tk' }) :
   wpAny (model PySem.Challenge.rw_mq0307_01.row.prog w) (AR dp un gd [env1]) (call (.ref 76) [.int n tn, .ref it]) Q E s := by
  w_strict (
  revert X
  k_fill
  intro X
  refine' enterC (g := g) (binds := [(Str.ofString "n", .int n tn), (Str.ofString "iterable", .ref it), (Str.ofString "key", .none)]) ?k0 ?k1 X hg hgs ?k2 ?k3 ?k4 ?k5 ?k6 ?_ ?k7 ?k8 ?k9
  case k0 => exact Nat.lt_of_le_of_lt (Nat.le_add_right _ _) hdp
  case k1 => exact T.nolimit
  case k2 => k_is
  case k3 => k_is
  case k4 => exact BindsTo.of_defaults rfl (hg _ _ (X _ _ (by k_is))) rfl rfl rfl
  case k5 => rfl
  case k6 => decide +kernel
  case k7 => rfl
  case k8 => rfl
  case k9 => rfl
  intro h1 tk1 cells F N hC st1
  obtain ⟨cell, rfl, hcell⟩ := (show CellsAre _ [(Str.ofString "key", s.heap.objs.size + 1)] cells from hC).one
  replace hcell : cell.data = .cell (some .none) := hcell
  have hLlt : L < s.heap.objs.size := Heap.lt_size hL
  have hIlt : it < s.heap.objs.size := Heap.lt_size hI
  generalize hL' : s.heap.objs.size = L' at *
  have hcL : L' + 1 ≠ L := by (first | lia | omega)
  have hIc : it ≠ L' + 1 := by (first | lia | omega)
  have N' : News g L' h1 [(L, oL), (L' + 1, cell), (it, litObj (.ref l) 0)] := fun p hp => by
    simp only [List.mem_cons, List.not_mem_nil, or_false] at hp
    rcases hp with rfl | rfl | rfl
    · exact ⟨st1 _ _ hL, neN (by (first | lia | omega)), hLg⟩
    · exact N _ (.head _)
    · exact ⟨st1 _ _ hI, neN (by (first | lia | omega)), hIg⟩
  replace F : Fr g L' h1 (fun y => if y = Str.ofString "iterable" then some (.ref it) else if y = Str.ofString "n" then some (.int n tn) else (fun _ => none) y) := fr_as F fun y => rfl
  clear N hC
  (try dsimp only at F)
  by_cases hn1 : n = 1
  · refine' ns_one_n (w := w) (L := L) (L' := L') (src := it) (l := l) (c0 := c0) (oL := oL) (cell := cell) (n := n) (tn := tn) (vs := vs) (S := S) (r := r) (m := fun _ => none) (rest := [(it, litObj (.ref l) 0)]) ?w1 rfl X T F N' rfl hcell hf1 hk1 hoL hcL (by (first | lia | omega)) (by (first | lia | omega)) hl hN hn1 hkey hr ?w2 ?w3
    case w1 => k_is
    case w2 => exact src_it (s := { s with heap := h1, toks := tk1 }) F N' hIL hIc
    case w3 => exact fun h' tk' R cc a b c d e => ret h' tk' R cc oL.slots a b c d e
  refine' ns_not1 (w := w) (m := fun _ => none) ?v1 rfl X T F N' hn1 rfl fun tk2 => ?_
  case v1 => k_is
  refine' ns_try (w := w) (kv := .none) (L := L) (L' := L') (oL := oL) (cell := cell) (n := n) (tn := tn) ?u1 rfl X T F N' hf1 hk1 hoL hcL hIL rfl ?u2
  case u1 => k_is
  case u2 =>
    intro h2 tk3 sl F2 N2
    refine' ns_heap_n (w := w) (L := L) (L' := L') (src := it) (l := l) (c0 := c0) (oL := { oL with slots := sl }) (cell := cell) (n := n) (tn := tn) (vs := vs) (S := S) (r := r) (m := fun _ => none) (rest := [(it, litObj (.ref l) 0)]) ?t1 rfl X T F2 N2 rfl hcell hf1 hk1 hoL hcL (by (first | lia | omega)) (by (first | lia | omega)) hl hN hN2 hn1 hn0 hn hkey hr hre ?t2 ?t3
    case t1 => k_is
    case t2 => exact src_it (s := { s with heap := h2, toks := tk3 }) F2 N2 hIL hIc
    case t3 => exact fun h' tk' R cc a b c d e => ret h' tk' R cc sl a b c d e
  )
end Mine
end
theorem Mine.start_X2NL : True := by
  w_top off
  trivial
section
open PySem PySem.W PySem.Calls PyProof.Rows
set_option maxRecDepth 100000
set_option maxHeartbeats 8000000
namespace Mine
variable {w : World}
theorem nl_heap2_n {g : Heap} {s : Shared} {Q : Flow → Shared → Prop} {dp un : Nat} {gd : Option (List Code)} {env1 : Env} {mean : ExcName → Option Value} {mg mb : Str → Option Value}
   {oc : Value} {od : Option Addr} {osl : Array (Option Value)} {name qual : Str} {params : Arguments} {body tail : List Stmt} {scope : Scope} {dV kV doc pm cdv ct : Value} {an : Option Addr}
   {L L' c D I l c0 c3 j3 : Nat} {oL cell : Obj} {n : Int} {tn : Tok} {vs : List Value} {S : Nat → Str} {r : Nat → Int} {m : Str → Option Value} {as : List Nat} {f3 : Value}
   (hK : (hd.heap_39 w.params).lookup 82 = some ⟨oc, od, .func (fnOf name qual params body scope dV kV doc pm an cdv ct), osl⟩) (ht : (inIf (body.drop 2)).drop 2 = tail)
   (X : (hd.heap_39 w.params).In g) (T : Top hd.view_39 (looseW hd.view_39 [Str.ofString "nsmallest", Str.ofString "nlargest"]) mean mg mb g)
   (F : Fr g L' s.heap (fun z => if z = Str.ofString "result" then some (.ref D) else if z = Str.ofString "it" then some (.ref I) else if z = Str.ofString "n" then some (.int n tn) else m z))
   (N : News g L' s.heap [(D, listOf (refs as).toArray c3), (I, litObj f3 j3), (L, oL), (c, cell)]) 
   (hc : c = L' + 1)
   (hDI : D ≠ I) (hDL : D ≠ L) (hDc : D ≠ c) (hIL : I ≠ L) (hIc : I ≠ c)
   (hal : as.length = min n.toNat vs.length) (hap : as.Pairwise (· < ·)) (haq : ∀ q ∈ as, q ≠ D ∧ q ≠ I ∧ q ≠ L' ∧ g.get? q = none)
   (hao : ∀ k q, as[k]? = some q → ∃ t u, vs[k]? = some (.str (S k) t) ∧ s.heap.get? q = some (tupObj [.str (S k) t, .int (-(k : Int)) u]))
   (hj1 : n.toNat ≤ vs.length → f3 = .ref l ∧ j3 = as.length) (hj2 : vs.length < n.toNat → f3 = .none)
   (hf1 : env1.frame = some L) (hk1 : env1.scope.kind = .function) (hoL : ∀ vs, oL.data ≠ .fields vs) (hcL : c ≠ L) 
   (hdp : dp + 6 < recursionLimit) (hun : un + 360 < cLine)
   (hl : g.get? l = some (listOf vs.toArray c0)) (hN : vs.length < 64) (hN2 : vs.length = 0 ∨ 2 ≤ vs.length) (hn1 : n ≠ 1) (hn0 : -1 ≤ n) (hn : n < 64)
   (hkey : ∀ i v, vs[i]? = some v → ∃ t, v = Value.str (S i) t)
   (hr : ∀ i j, i < vs.length → j < vs.length → strLt (S i) (S j) = decide (r j < r i)) (hre : ∀ i j, i < vs.length → j < vs.length → (S i = S j ↔ r i = r j))
   (ret : ∀ h' tk' (R : Nat) cc, Stays g h' → h'.get? L = some oL → h'.get? R = some (listOf (((ord r vs.length).take n.toNat).map fun i => vs.getD i Value.none).toArray cc) → g.get? R = none → R ≠ L → Q (.ret (.ref R)) { s with heap := h', toks := tk' }) :
   wpAny (model PySem.Challenge.rw_mq0307_01.row.prog w) ((AR dp un gd [env1]).deeper (envOfC qual scope L' 82 cdv)) (execs tail (envOfC qual scope L' 82 cdv)) Q (fun _ _ => False) s := by
  subst hc
  w_strict (
  revert X
  k_fill
  intro X
  have e := lk_inj hK (by k_is : (hd.heap_39 w.params).lookup 82 = some ⟨_, _, .func (fnOf _ _ _ _ _ _ _ _ _ _ _ _), _⟩)
  injection e with e1 e2 e3 e4
  injection e3 with e3
  injection e3 with e5 e6 e7 e8 e9 e10 e11 e12 e13 e14 e15 e16 e17 e18
  injection e8 with e8
  subst_vars
  clear hK e10 e11
  simp only [List.drop_succ_cons, List.drop_zero]
  (try dsimp only) 
  (try k_fold)
  k_with_none
  have hlD : s.heap.IsList D (refs as).toArray := ⟨_, (N _ (.head _)).1, rfl, c3, rfl⟩
  have hszl : (refs as).toArray.size = as.length := by simp [refs]
  repeat' ((fail_if_success (with_reducible show wpAny _ _ (truthy _) _ _ _)); (first | (k_unfold; (try dsimp only)) | walk1 | (dsimp only; walk1)))
  refine wpAny_truthy_list hlD (by (first | lia | omega)) ?_
  by_cases has : as = []
  · subst has
    rw [if_pos (by rfl)]
    walk1
    walk1
    walk1
    walk1
    (try dsimp only)
    refine ret _ _ D c3 F.keep (N _ (.tail _ (.tail _ (.head _)))).1 ?_ (N _ (.head _)).2.2 hDL
    have e0 : ((ord r vs.length).take n.toNat).map (fun i => vs.getD i Value.none) = [] := by
      have : (ord r vs.length).take n.toNat = [] := by
        rw [List.take_eq_nil_iff]
        have h0 : n.toNat = 0 ∨ vs.length = 0 := by simp at hal; (first | lia | omega)
        rcases h0 with q | q
        · exact .inl q
        · exact .inr (List.eq_nil_of_length_eq_zero (by rw [ord_len, q]))
      rw [this]; rfl
    rw [e0]; exact (N _ (.head _)).1
  have hpos : 0 < as.length := List.length_pos_iff.mpr has
  have hA1 : as.length ≤ vs.length := by rw [hal]; exact Nat.min_le_right _ _
  have hA3 : as.length ≤ n.toNat := by rw [hal]; exact Nat.min_le_left _ _
  have zA4 : Hid (vs.length < n.toNat → as.length = vs.length) := fun q => by rw [hal]; exact Nat.min_eq_right (Nat.le_of_lt q)
  have hA5 : 2 ≤ as.length := by clear hj1 hj2 hDI hDL hDc hIL hIc hcL; (first | lia | omega)
  have hA6 : (as.length : Int) ≤ n := by clear hal hN2 hn1 hj1 hj2 hDI hDL hDc hIL hIc hcL; (first | lia | omega)
  have zal : Hid (as.length = min n.toNat vs.length) := hal
  have zj1 := Hid.mk hj1
  have zj2 := Hid.mk hj2
  clear hal hN2 hn1 hj1 hj2 hA3
  rw [if_neg (by simp [refs, has])]
  (try clear hlD)
  repeat' ((fail_if_success (with_reducible show wpAny _ _ (call (Value.ref _) _ _) _ _ _)); (first | (k_unfold; (try dsimp only)) | walk1 | (dsimp only; walk1)))
  have hT0 : Tups S (fun i tl => ∃ x y, tl = [x, y] ∧ vs[i]? = some x) (fun b => as.idxOf b) (fun b => -((as.idxOf b : Nat) : Int)) as s.heap := by
    intro b hb
    obtain ⟨t, u, hv, ho⟩ := hao (as.idxOf b) b (by rw [List.getElem?_eq_getElem (List.idxOf_lt_length_of_mem hb), List.getElem_idxOf])
    exact ⟨t, u, [], ⟨_, _, rfl, hv⟩, ho⟩
  have hix0 : ∀ b ∈ as, as.idxOf b < vs.length := fun b hb => by have := List.idxOf_lt_length_of_mem hb; (first | lia | omega)
  have hinj0 : ∀ a ∈ as, ∀ b ∈ as, as.idxOf a = as.idxOf b → a = b := fun a ha b hb q => by
    have e1 := List.getElem_idxOf (List.idxOf_lt_length_of_mem ha)
    have e2 := List.getElem_idxOf (List.idxOf_lt_length_of_mem hb)
    rw [← e1, ← e2]; simp only [q]
  obtain ⟨tps, Ntp, hTI, hTo⟩ := tps_of hT0 (g := g) (L' := L') fun b hb => (haq b hb).2.2
  have hTD : ∀ p ∈ tps, p.1 ≠ D := fun p hp => (haq _ (hTo p hp)).1
  have hTI2 : ∀ p ∈ tps, p.1 ≠ I := fun p hp => (haq _ (hTo p hp)).2.1
  have N0 : News g L' s.heap ((D, listOf (refs as).toArray c3) :: (I, litObj f3 j3) :: (L, oL) :: (L' + 1, cell) :: tps) := fun p hp => by
    rcases List.mem_append.mp (show p ∈ [(D, listOf (refs as).toArray c3), (I, litObj f3 j3), (L, oL), (L' + 1, cell)] ++ tps from hp) with q | q
    · exact N p q
    · exact Ntp p q
  refine' mutC (L := L) (oL := oL) (heapify_spec (as := as) (n := c3) (lt := fun a b => decide (fk r (fun b => as.idxOf b) a < fk r (fun b => as.idxOf b) b)) (by (first | lia | omega))) X T ?u1 ?u2 ?u3 hoL ?u4 ?u5 rfl rfl hf1 hk1 (by (first | lia | omega)) (by (first | lia | omega)) ?u6
  case u1 => exact F
  case u2 => exact N0
  case u3 => exact .tail _ (.head _)
  case u4 =>
    intro p hp
    rcases List.mem_append.mp (show p ∈ [(I, litObj f3 j3), (L, oL), (L' + 1, cell)] ++ tps from hp) with q | q
    · simp only [List.mem_cons, List.not_mem_nil, or_false] at q
      rcases q with rfl | rfl | rfl
      · exact Ne.symm hDI
      · exact Ne.symm hDL
      · exact Ne.symm hDc
    · exact hTD p q
  case u5 => exact cmp_dn (N := vs.length) (by (first | lia | omega)) (hTI.tups Ntp hTD) hix0 hinj0 (fun a ha b hb q => by (first | lia | omega)) hr hre
  intro h4 tk4 F4 N4 st4 hsz4
  clear F N N0 Ntp
  have hST := LS.start (N := vs.length) (r := r) (as := as) (ix := fun b => as.idxOf b) (by (first | lia | omega)) (idx_range hap)
  generalize hbs : hfy (fun a b => decide (fk r (fun b => as.idxOf b) a < fk r (fun b => as.idxOf b) b)) (as.length / 2) (as.length / 2) as = bs at *
  have hbp : bs.Perm as := by rw [← hbs]; exact hfy_perm _ (Nat.le_refl _) (by (first | lia | omega))
  have hbl : bs.length = as.length := hbp.length_eq
  have hb0 : 0 < bs.length := by (first | lia | omega)
  have hTb := hTI.sub (cs := bs) fun b hb => hbp.mem_iff.mp hb
  have hod4 : ∀ a ∈ bs, ∀ b ∈ bs, as.idxOf a < as.idxOf b → -((as.idxOf b : Nat) : Int) < -((as.idxOf a : Nat) : Int) := fun a _ b _ q => by (first | lia | omega)
  have hodn : ∀ b ∈ bs, -n < -((as.idxOf b : Nat) : Int) := fun b hb => by have := List.idxOf_lt_length_of_mem (hbp.mem_iff.mp hb); (first | lia | omega)
  repeat' ((fail_if_success (with_reducible show wpAny _ _ (call (Value.ref _) _ _) _ _ _)); (fail_if_success (with_reducible show wpAny _ _ (subscriptTail _ _ _ _) _ _ _)); (first | (k_unfold; (try dsimp only)) | walk1 | (dsimp only; walk1)))
  refine item_refs0 (as := bs) N4 (.head _) (by (first | lia | omega)) hb0 ?_
  walk1
  (try dsimp only)
  obtain ⟨tt, tu, ttl, -, htop⟩ := hTb _ (getD0_mem hb0)
  refine item_tup0 (N4 _ (.tail _ (.tail _ (.tail _ (.tail _ htop))))).1 ?_
  clear hT0 hao htop hinj0 hix0
  generalize hIX : (fun b => as.idxOf b) = ix at *
  generalize hOD : (fun b => -((as.idxOf b : Nat) : Int)) = od at *
  replace hod4 : ∀ a ∈ bs, ∀ b ∈ bs, ix a < ix b → od b < od a := by rw [← hIX, ← hOD]; exact hod4
  replace hodn : ∀ b ∈ bs, -n < od b := by rw [← hOD]; exact hodn
  clear hIX hOD hbs
  repeat' ((fail_if_success (with_reducible show wpAny _ _ (exec (Stmt.For _ _ _ _ _) _) _ _ _)); (first | (k_unfold; (try dsimp only)) | walk1 | (dsimp only; walk1)))
  rename Fr _ _ _ _ => F5
  rename News _ _ _ _ => N5
  refine' for_lit (it := I) (vs := vs) (fun s' hq => hq) as.length (by (first | lia | omega)) (fun j s' => LoopJ g L' D I l L oL cell 21 true vs.length S (fun i tl => ∃ x y, tl = [x, y] ∧ vs[i]? = some x) r as.length j s s') ?ev ?turn ?fin ?hs
  case hs => (intro _; rfl)
  case ev =>
    walk1
    refine lit_pyIter (N5 _ (.tail _ (.head _))).1 ?_
    refine ⟨rfl, ?_⟩
    unfold LoopJ
    refine ⟨_, _, bs, ix, od, tps, (fun y => if y = Str.ofString "n" then some (.int n tn) else m y), f3, j3, c3, tt, -n, ?ut0, rfl, fr_as F5 ?e1, N5, ?e2, hbl, hST, hTb, hTD, hTI2, ?e3, ?e4⟩
    case e1 =>
      intro y
      by_cases h1 : y = Str.ofString "top"
      · subst h1; rfl
      by_cases h2 : y = Str.ofString "order"
      · subst h2; rfl
      by_cases h3 : y = Str.ofString "_heapreplace"
      · subst h3; rfl
      simp only [if_neg h1, if_neg h2, if_neg h3]
    case e2 =>
      rcases Nat.lt_or_ge vs.length n.toNat with q | q
      · exact .inr ⟨zj2.get q, zA4.get q⟩
      · exact .inl (zj1.get q)
    case e3 => intro a ha b hb q; rw [if_pos rfl]; exact hod4 a ha b hb q
    case e4 => intro b hb; rw [if_pos rfl]; exact hodn b hb
  case turn =>
    rintro j v s' hv ⟨h, tk, bs, ix, od, tps, mm, fv, jj, c, t, o, u, rfl, F, N, hit, hbk, hLS, hTI, hTD, hTI', hmo, hlo⟩ E'
    have hjl : j < vs.length := (List.getElem?_eq_some_iff.mp hv).1
    obtain ⟨tk', rfl⟩ := hkey j v hv
    obtain ⟨rfl, rfl⟩ : fv = .ref l ∧ jj = j := by
      rcases hit with q | q
      · exact q
      · (first | lia | omega)
    clear hit
    have zI := N _ (.tail _ (.head _))
    have hil : h.IsList l vs.toArray := ⟨_, F.keep _ _ hl, rfl, c0, rfl⟩
    refine lit_pyNext (s := { s with heap := h, toks := tk }) zI.1 hil (x := .str (S jj) tk') (by simpa using hv) fun h1 hi1 hs1 => ⟨rfl, ?_⟩
    have F1 := F.change hs1 zI.2.1 zI.2.2
    have N1 : News g L' h1 ((D, listOf (refs bs).toArray c) :: (I, litObj (.ref l) (jj + 1)) :: (L, oL) :: (L' + 1, cell) :: tps) := fun p hp => by
      have keep : ∀ p : Addr × Obj, p.1 ≠ I → (h.get? p.1 = some p.2 ∧ p.1 ≠ L' ∧ g.get? p.1 = none) → (h1.get? p.1 = some p.2 ∧ p.1 ≠ L' ∧ g.get? p.1 = none) := fun p hp q => ⟨(hs1.2 _ hp).trans q.1, q.2⟩
      rcases List.mem_cons.mp hp with rfl | hp
      · exact keep _ hDI (N _ (.head _))
      rcases List.mem_cons.mp hp with rfl | hp
      · exact ⟨hi1, zI.2⟩
      rcases List.mem_cons.mp hp with rfl | hp
      · exact keep _ (Ne.symm hIL) (N _ (.tail _ (.tail _ (.head _))))
      rcases List.mem_cons.mp hp with rfl | hp
      · exact keep _ (Ne.symm hIc) (N _ (.tail _ (.tail _ (.tail _ (.head _)))))
      · exact keep _ (hTI' p hp) (N p (.tail _ (.tail _ (.tail _ (.tail _ hp)))))
    clear F N F5 N5 zI hil hi1
    repeat' ((fail_if_success (with_reducible show wpAny _ _ (compareOp _ _ _) _ _ _)); (first | (k_unfold; (try dsimp only)) | walk1 | (dsimp only; walk1)))
    have hb0' : 0 < bs.length := by (first | lia | omega)
    have hi0 := hLS.ix_lt (getD0_mem hb0')
    show wpAny _ _ (richCompare .Lt _ _) _ _ _
    refine rc_lt_str ?_
    rw [hr (ix (bs.getD 0 0)) jj hi0 hjl]
    by_cases hlt : r jj < r (ix (bs.getD 0 0))
    · rw [decide_eq_true hlt]
      repeat' ((fail_if_success (with_reducible show wpAny _ _ (call (Value.ref _) _ _) _ _ _)); (first | (k_unfold; (try dsimp only)) | walk1 | (dsimp only; walk1)))
      rename Fr _ _ _ _ => F6
      rename News _ _ _ _ => N6
      rename_i P _ l1
      have hPt : ∀ p ∈ tps, p.1 < P := fun p hp => allLt_mem l1.2.2.2.2 p hp
      have hPb : P ∉ bs := fun q => by
        obtain ⟨_, _, _, _, hm⟩ := hTI P q
        exact Nat.lt_irrefl _ (hPt _ hm)
      have hmin : ∀ b ∈ bs, b < P := fun b hb => by
        obtain ⟨_, _, _, _, hm⟩ := hTI b hb
        exact hPt _ hm
      have hsw := hLS.swap (by (first | lia | omega)) hb0' hjl hPb hlt
      have hTI6 := hTI.more (cs := P :: bs) (P := P) (j := jj) (o := o) (t := tk') (u := u) (tl := []) hPb ⟨_, _, rfl, hv⟩ (fun c hc => by
        rcases List.mem_cons.mp hc with q | q
        · exact .inl q
        · exact .inr q)
      generalize hix' : (fun x => if x = P then jj else ix x) = ix' at hsw hTI6
      generalize hod' : (fun x => if x = P then o else od x) = od' at hTI6
      dsimp only at hsw
      have iP : ix' P = jj := by rw [← hix']; exact if_pos rfl
      have ib : ∀ b ∈ bs, ix' b = ix b := fun b hb => by rw [← hix']; exact if_neg (fun (q : b = P) => hPb (q ▸ hb))
      have oP : od' P = o := by rw [← hod']; exact if_pos rfl
      have ob : ∀ b ∈ bs, od' b = od b := fun b hb => by rw [← hod']; exact if_neg (fun (q : b = P) => hPb (q ▸ hb))
      clear hix' hod'
      have hbj : ∀ b ∈ bs, ix b < jj := fun b hb => hLS.best.lt _ (List.mem_map.mpr ⟨b, hb, rfl⟩)
      have hmo6 : ∀ a ∈ P :: bs, ∀ b ∈ P :: bs, ix' a < ix' b → od' b < od' a := fun a ha b hb q => by
        rcases List.mem_cons.mp ha with q1 | h1 <;> rcases List.mem_cons.mp hb with q2 | h2
        · rw [q1, q2] at q; (first | lia | omega)
        · rw [q1, iP, ib b h2] at q; have := hbj b h2; (first | lia | omega)
        · rw [q2, oP, ob a h1]; have := hlo a h1; rw [if_pos rfl] at this; exact this
        · rw [ib a h1, ib b h2] at q; rw [ob a h1, ob b h2]; have := hmo a h1 b h2 q; rw [if_pos rfl] at this; exact this
      have hinj6 : ∀ a ∈ P :: bs, ∀ b ∈ P :: bs, ix' a = ix' b → a = b := fun a ha b hb q => by
        rcases List.mem_cons.mp ha with q1 | h1 <;> rcases List.mem_cons.mp hb with q2 | h2
        · rw [q1, q2]
        · rw [q1, iP, ib b h2] at q; have := hbj b h2; (first | lia | omega)
        · rw [q2, iP, ib a h1] at q; have := hbj a h1; (first | lia | omega)
        · rw [ib a h1, ib b h2] at q; exact hLS.inj a h1 b h2 q
      have hix6 : ∀ b ∈ P :: bs, ix' b < vs.length := fun b hb => by
        rcases List.mem_cons.mp hb with rfl | hb
        · rw [iP]; exact hjl
        · rw [ib b hb]; have := hbj b hb; (first | lia | omega)
      have N7 : News g L' _ ((D, listOf (refs bs).toArray c) :: (I, litObj (.ref l) (jj + 1)) :: (L, oL) :: (L' + 1, cell) :: (P, tupObj [.str (S jj) tk', .int o u]) :: tps) := fun p hp => N6 p (by
        simp only [List.mem_cons] at hp ⊢
        rcases hp with q | q | q | q | q | q
        · exact .inr (.inl q)
        · exact .inr (.inr (.inl q))
        · exact .inr (.inr (.inr (.inl q)))
        · exact .inr (.inr (.inr (.inr (.inl q))))
        · exact .inl q
        · exact .inr (.inr (.inr (.inr (.inr q)))))
      have hD6 : ∀ p ∈ (P, tupObj [.str (S jj) tk', .int o u]) :: tps, p.1 ≠ D := fun p hp => by
        rcases List.mem_cons.mp hp with rfl | hp
        · exact Nat.ne_of_gt l1.1
        · exact hTD p hp
      have hI6 : ∀ p ∈ (P, tupObj [.str (S jj) tk', .int o u]) :: tps, p.1 ≠ I := fun p hp => by
        rcases List.mem_cons.mp hp with rfl | hp
        · exact Nat.ne_of_gt l1.2.1
        · exact hTI' p hp
      clear N6
      refine' mutC (L := L) (oL := oL) (heapreplace_spec (x := P) (as := bs) (n := c) (lt := fun a b => decide (fk r ix' a < fk r ix' b)) (by (first | lia | omega)) hb0') X T ?v1 ?v2 ?v3 hoL ?v4 ?v5 rfl rfl hf1 hk1 (by (first | lia | omega)) (by (first | lia | omega)) ?v6
      case v1 => exact F6
      case v2 => exact N7
      case v3 => exact .tail _ (.head _)
      case v4 =>
        intro p hp
        rcases List.mem_append.mp (show p ∈ [(I, litObj (.ref l) (jj + 1)), (L, oL), (L' + 1, cell)] ++ ((P, tupObj [.str (S jj) tk', .int o u]) :: tps) from hp) with q | q
        · simp only [List.mem_cons, List.not_mem_nil, or_false] at q
          rcases q with rfl | rfl | rfl
          · exact Ne.symm hDI
          · exact Ne.symm hDL
          · exact Ne.symm hDc
        · exact hD6 p q
      case v5 =>
        have N7t : News g L' _ ((P, tupObj [.str (S jj) tk', .int o u]) :: tps) := fun p hp => N7 p (.tail _ (.tail _ (.tail _ (.tail _ hp))))
        exact cmp_dn (N := vs.length) (by (first | lia | omega)) (hTI6.tups N7t hD6) hix6 hinj6 hmo6 hr hre
      intro h8 tk8 F8 N8 st8 hsz8
      clear F6 N7
      obtain ⟨hLS8, hmem8⟩ := hsw
      have hl8 : (sup (fun a b => decide (fk r ix' a < fk r ix' b)) 0 (bs.set 0 P)).length = bs.length := by rw [sup_len (by rw [List.length_set]; exact hb0'), List.length_set]
      generalize sup (fun a b => decide (fk r ix' a < fk r ix' b)) 0 (bs.set 0 P) = cs at *
      have hmem8' : ∀ b ∈ cs, b ∈ P :: bs := fun b hb => by
        rcases hmem8 b hb with rfl | q
        · exact .head _
        · exact .tail _ q
      have hTI8 := hTI6.sub hmem8'
      have hc0' : 0 < cs.length := by (first | lia | omega)
      repeat' ((fail_if_success (with_reducible show wpAny _ _ (subscriptTail _ _ _ _) _ _ _)); (first | (k_unfold; (try dsimp only)) | walk1 | (dsimp only; walk1)))
      refine item_refs0 (as := cs) N8 (.head _) (by (first | lia | omega)) hc0' ?_
      (try dsimp only)
      obtain ⟨t9, u9, tl9, ⟨x9, y9, e9, hv9⟩, hm9⟩ := hTI8 _ (getD0_mem hc0')
      injection e9 with ex e9
      injection e9 with _ e9
      subst e9
      subst ex
      have z9 := (N8 _ (.tail _ (.tail _ (.tail _ (.tail _ hm9))))).1
      refine assign2 rfl ⟨_, z9, rfl, 0, rfl⟩ rfl rfl rfl F8.ns fun h9 tk9 ns9 kp9 => ?_
      have F9 : Fr g L' h9 _ := ⟨ns9, fun b o e => kp9 b o (fun (q : b = L') => by rw [q, no_self F8] at e; cases e) (F8.keep b o e), F8.above⟩
      have N9 : News g L' h9 _ := fun p hp => ⟨kp9 _ _ (N8 p hp).2.1 (N8 p hp).1, (N8 p hp).2⟩
      clear F8 N8 ns9
      repeat' ((fail_if_success (with_reducible show _ ∧ _)); (first | (k_unfold; (try dsimp only)) | walk1 | (dsimp only; walk1)))
      rename Fr _ _ _ _ => F10
      rename News _ _ _ _ => N10
      refine ⟨rfl, ?_⟩
      unfold LoopJ
      refine ⟨_, _, cs, ix', od', (P, tupObj [.str (S jj) tk', .int o u]) :: tps, (fun y => if y = Str.ofString "_order" then some (.int (od' (cs.getD 0 0)) u9) else if y = Str.ofString "elem" then some (.str (S jj) tk') else mm y), .ref l, jj + 1, c, t9, o - 1, ?ut, rfl, fr_as F10 ?g1, N10, .inl ⟨rfl, rfl⟩, by (first | lia | omega), hLS8, hTI8, hD6, hI6, ?g2, ?g3⟩
      case g1 =>
        intro y
        by_cases h2 : y = Str.ofString "order"
        · subst h2; exact rfl
        by_cases h1 : y = Str.ofString "top"
        · subst h1; rfl
        by_cases h4 : y = Str.ofString "_order"
        · subst h4; rfl
        by_cases h6 : y = Str.ofString "elem"
        · subst h6; rfl
        simp only [if_neg h1, if_neg h2, if_neg h4, if_neg h6]
      case g2 =>
        intro a ha b hb q
        rw [if_pos rfl]
        exact hmo6 a (hmem8' a ha) b (hmem8' b hb) q
      case g3 =>
        intro b hb
        rw [if_pos rfl]
        rcases List.mem_cons.mp (hmem8' b hb) with q | q
        · rw [q, oP]; (first | lia | omega)
        · rw [ob b q]
          have := hlo b q
          rw [if_pos rfl] at this
          (first | lia | omega)
    · rw [decide_eq_false hlt]
      repeat' ((fail_if_success (with_reducible show wpAny _ _ (call (Value.ref _) _ _) _ _ _)); (fail_if_success (with_reducible show _ ∧ _)); (first | (k_unfold; (try dsimp only)) | walk1 | (dsimp only; walk1)))
      rename Fr _ _ _ _ => F6
      rename News _ _ _ _ => N6
      refine ⟨rfl, ?_⟩
      unfold LoopJ
      refine ⟨_, _, bs, ix, od, tps, (fun y => if y = Str.ofString "elem" then some (.str (S jj) tk') else mm y), .ref l, jj + 1, c, t, o, u, rfl, fr_as F6 ?_, N6, .inl ⟨rfl, rfl⟩, hbk, hLS.keep (by (first | lia | omega)) hb0' hjl hlt, hTI, hTD, hTI', hmo, hlo⟩
      intro y
      by_cases h2 : y = Str.ofString "elem"
      · subst h2; rfl
      simp only [if_neg h2]
  case fin =>
    rintro s' ⟨h, tk, bs, ix, od, tps, mm, fv, jj, c, t, o, u, rfl, F, N, hit, hbk, hLS, hTI, hTD, hTI', hmo, hlo⟩ E'
    have zI := N _ (.tail _ (.head _))
    have go : ∀ h1 jj', LIt h1 I .none jj' → (∀ b o, b ≠ I → h.get? b = some o → h1.get? b = some o) → Fr g L' h1 _ ∧ News g L' h1 ((D, listOf (refs bs).toArray c) :: (I, litObj .none jj') :: (L, oL) :: (L' + 1, cell) :: tps) := fun h1 jj' hi1 hk1' => by
      obtain ⟨oo, es, ep, ho, rr⟩ := F.ns
      refine ⟨⟨⟨oo, es, ep, hk1' _ _ (fun (q : L' = I) => zI.2.1 q.symm) ho, rr⟩, fun b x e => hk1' b x (fun q => by rw [q, zI.2.2] at e; cases e) (F.keep b x e), F.above⟩, fun p hp => ?_⟩
      have keep : ∀ p : Addr × Obj, p.1 ≠ I → (h.get? p.1 = some p.2 ∧ p.1 ≠ L' ∧ g.get? p.1 = none) → (h1.get? p.1 = some p.2 ∧ p.1 ≠ L' ∧ g.get? p.1 = none) := fun p hp q => ⟨hk1' _ _ hp q.1, q.2⟩
      rcases List.mem_cons.mp hp with rfl | hp
      · exact keep _ hDI (N _ (.head _))
      rcases List.mem_cons.mp hp with rfl | hp
      · exact ⟨hi1, zI.2⟩
      rcases List.mem_cons.mp hp with rfl | hp
      · exact keep _ (Ne.symm hIL) (N _ (.tail _ (.tail _ (.head _))))
      rcases List.mem_cons.mp hp with rfl | hp
      · exact keep _ (Ne.symm hIc) (N _ (.tail _ (.tail _ (.tail _ (.head _)))))
      · exact keep _ (hTI' p hp) (N p (.tail _ (.tail _ (.tail _ (.tail _ hp)))))
    have hil : h.IsList l vs.toArray := ⟨_, F.keep _ _ hl, rfl, c0, rfl⟩
    refine lit_fin (s := { s with heap := h, toks := tk }) rfl rfl hit zI.1 hil fun h1 jj' hi1 hk1' hsz1 => ⟨rfl, ?_⟩
    obtain ⟨F1, N1⟩ := go h1 jj' hi1 hk1'
    clear F N zI go hil F5 N5 hit
    repeat' ((fail_if_success (with_reducible show wpAny _ _ (call (Value.builtin _) _ _) _ _ _)); (fail_if_success (with_reducible show wpAny _ _ (call (Value.ref _) _ _) _ _ _)); (first | (k_unfold; (try dsimp only)) | walk1 | (dsimp only; walk1)))
    refine callWith_kw0 ?_
    walk1
    have hmo' : ∀ a ∈ bs, ∀ b ∈ bs, ix a < ix b → od b < od a := fun a ha b hb q => by have := hmo a ha b hb q; rw [if_pos rfl] at this; exact this
    have Nt : News g L' h1 tps := fun p hp => N1 p (.tail _ (.tail _ (.tail _ (.tail _ hp))))
    have hb2 : 2 ≤ bs.length := by (first | lia | omega)
    refine sort_tups (D := D) (bs := bs) (rs := fun a => - fk r ix a) (b := true) (kw := [(Str.ofString "reverse", .bool true)]) (N1 _ (.head _)).1 hb2 (by (first | lia | omega)) (hTI.tups Nt hTD) (nodup_of_map hLS.best.nodup) (od_ne hLS.inj fun a ha b hb q => by have := hmo' a ha b hb q; (first | lia | omega)) (fun a ha b hb => tupLt_dn (N := vs.length) (by (first | lia | omega)) (fun b hb => hLS.ix_lt hb) hLS.inj hmo' hr hre ha hb) (fun a ha b hb hne q => fk_ne (N := vs.length) (r := r) (by (first | lia | omega)) (fun b hb => hLS.ix_lt hb) hLS.inj a ha b hb hne (Int.neg_inj.mp q)) ?so1 (nk_2 D true) fun h2 tk2 cs c2 hcp hcs hl2 hk2 hsz2 => ?_
    case so1 => (unfold argsOk; kernel_rfl)
    have F2 := fr_but F1 hk2 (N1 _ (.head _)).2.1 (N1 _ (.head _)).2.2
    have N2 : News g L' h2 ((D, listOf (refs cs).toArray c2) :: (L, oL) :: (L' + 1, cell) :: tps) := fun p hp => by
      rcases List.mem_cons.mp hp with rfl | hp
      · exact ⟨hl2, (N1 _ (.head _)).2⟩
      rcases List.mem_cons.mp hp with rfl | hp
      · have z := N1 _ (.tail _ (.tail _ (.head _)))
        exact ⟨hk2 _ _ (Ne.symm hDL) z.1, z.2⟩
      rcases List.mem_cons.mp hp with rfl | hp
      · have z := N1 _ (.tail _ (.tail _ (.tail _ (.head _))))
        exact ⟨hk2 _ _ (Ne.symm hDc) z.1, z.2⟩
      · exact ⟨hk2 _ _ (hTD p hp) (Nt p hp).1, (Nt p hp).2⟩
    have hcl : cs.length = bs.length := hcp.length_eq
    have hfin := hLS.fin (by (first | lia | omega)) hcp (hcs.imp fun {a b} q => by rw [if_pos rfl] at q; (first | lia | omega))
    have hTc := hTI.sub (cs := cs) fun b hb => hcp.mem_iff.mp hb
    clear F1 N1 Nt
    dsimp only
    walk1
    walk1
    refine' eval_comp (cl := []) ?cl2 rfl ?nm2 ?_ ?hs2
    case cl2 => with_unfolding_all rfl
    case nm2 => decide +kernel
    case hs2 => (intro _; rfl)
    walk1
    have hout : (List.range cs.length).map (fun k => vs.getD (ix (cs.getD k 0)) Value.none) = ((ord r vs.length).take n.toNat).map (fun i => vs.getD i Value.none) := by
      have e1 : (List.range cs.length).map (fun k => vs.getD (ix (cs.getD k 0)) Value.none) = ((List.range cs.length).map (fun k => cs.getD k 0)).map (fun b => vs.getD (ix b) Value.none) := by rw [List.map_map]; rfl
      have e2 : cs.map (fun b => vs.getD (ix b) Value.none) = (cs.map ix).map (fun i => vs.getD i Value.none) := by rw [List.map_map]; rfl
      rw [e1, range_map_getD, e2, hfin]
      congr 1
      rw [hbk, zal.get]
      rw [List.take_eq_take_iff, ord_len]
      (first | lia | omega)
    have hDs := (N2 _ (.head _)).1
    refine' comp_tups (s := { s with heap := h2, toks := tk2 }) (l := D) (as := cs) (c0 := c2) (fun k => vs.getD (ix (cs.getD k 0)) Value.none) ?c1 ?c2 ?c3 ?c4 ?c5 ?c6 ?c7
    case c1 => rfl
    case c2 => exact hDs
    case c3 => (first | lia | omega)
    case c4 => decide +kernel
    case c5 => rfl
    case c6 =>
      intro k a h5 tk5 m5 hka hns5 st5 Q5 E5 hQ5
      obtain ⟨t9, u9, tl9, ⟨x9, y9, e9, hv9⟩, hm9⟩ := hTc a (List.mem_of_getElem? hka)
      injection e9 with ex e9
      injection e9 with _ e9
      subst e9
      subst ex
      have z9 := st5 _ _ (N2 _ (.tail _ (.tail _ (.tail _ hm9)))).1
      refine assign2 (s := { s with heap := h5, toks := tk5 }) rfl ⟨_, z9, rfl, 0, rfl⟩ rfl rfl rfl hns5 fun h6 tk6 ns6 kp6 => ?_
      refine wpAny_Name (wpAny_loadName_local rfl rfl ns6 rfl ?_) (by decide)
      have ek : cs.getD k 0 = a := by rw [List.getD_eq_getElem?_getD, hka]; rfl
      have ev : vs.getD (ix (cs.getD k 0)) Value.none = .str (S (ix a)) t9 := by rw [ek, List.getD_eq_getElem?_getD, hv9]; rfl
      have := hQ5 h6 tk6 _ ns6 kp6
      rw [ev] at this
      exact this
    case c7 =>
      intro h7 tk7 mC c7 hnC hl7 st7
      refine post_eval (s := { s with heap := h2, toks := tk2 }) hnC fun h8 hk8 hsz8 => ?_
      rw [hout] at hl7
      have hsz : ∀ b o, h2.get? b = some o → b ≠ h2.objs.size + 2 := fun b o e => neN (by have := ltN (Heap.lt_size e); (first | lia | omega))
      refine ret h8 _ _ c7 (fun b o e => hk8 _ _ (hsz _ _ (F2.keep _ _ e)) (st7 _ _ (F2.keep _ _ e))) (hk8 _ _ (hsz _ _ (N2 _ (.tail _ (.head _))).1) (st7 _ _ (N2 _ (.tail _ (.head _))).1)) (hk8 _ _ (neN (by (first | lia | omega))) hl7) ?_ ?_
      · cases q : g.get? (h2.objs.size + 1) with
        | none => rfl
        | some o => have := ltN (Heap.lt_size (F2.keep _ _ q)); (first | lia | omega)
      · have h0 : L < h2.objs.size := Heap.lt_size (N2 (L, oL) (.tail _ (.head _))).1
        refine neN ?_
        dsimp only
        (first | lia | omega)
  )
end Mine
end
theorem Mine.start_X1NL : True := by
  w_top off
  trivial
section
open PySem PySem.W PySem.Calls PyProof.Rows
set_option maxRecDepth 100000
set_option maxHeartbeats 8000000
namespace Mine
variable {w : World}
theorem nl_heap_n {g : Heap} {s : Shared} {Q : Flow → Shared → Prop} {dp un : Nat} {gd : Option (List Code)} {env1 : Env} {mean : ExcName → Option Value} {mg mb : Str → Option Value}
   {oc : Value} {od : Option Addr} {osl : Array (Option Value)} {name qual : Str} {params : Arguments} {body tail : List Stmt} {scope : Scope} {dV kV doc pm cdv ct : Value} {an : Option Addr}
   {L L' c src l c0 : Nat} {oL cell : Obj} {n : Int} {tn : Tok} {vs : List Value} {S : Nat → Str} {r : Nat → Int} {rest : List (Addr × Obj)} {m : Str → Option Value}
   (hK : (hd.heap_39 w.params).lookup 82 = some ⟨oc, od, .func (fnOf name qual params body scope dV kV doc pm an cdv ct), osl⟩) (ht : body.drop 2 = tail)
   (X : (hd.heap_39 w.params).In g) (T : Top hd.view_39 (looseW hd.view_39 [Str.ofString "nsmallest", Str.ofString "nlargest"]) mean mg mb g)
   (F : Fr g L' s.heap (fun y => if y = Str.ofString "iterable" then some (.ref src) else if y = Str.ofString "n" then some (.int n tn) else m y)) (N : News g L' s.heap ((L, oL) :: (c, cell) :: rest)) 
   (hc : c = L' + 1) (hcell : cell.data = .cell (some .none))
   (hf1 : env1.frame = some L) (hk1 : env1.scope.kind = .function) (hoL : ∀ vs, oL.data ≠ .fields vs) (hcL : c ≠ L) 
   (hdp : dp + 6 < recursionLimit) (hun : un + 360 < cLine)
   (hl : g.get? l = some (listOf vs.toArray c0)) (hN : vs.length < 64) (hN2 : vs.length = 0 ∨ 2 ≤ vs.length) (hn1 : n ≠ 1) (hn0 : -1 ≤ n) (hn : n < 64)
   (hkey : ∀ i v, vs[i]? = some v → ∃ t, v = Value.str (S i) t)
   (hr : ∀ i j, i < vs.length → j < vs.length → strLt (S i) (S j) = decide (r j < r i)) (hre : ∀ i j, i < vs.length → j < vs.length → (S i = S j ↔ r i = r j))
   (hsrc : ∀ (A : Around) (Q E : Value → Shared → Prop) tk, (∀ h' (I : Nat), Fr g L' h' (fun y => if y = Str.ofString "iterable" then some (.ref src) else if y = Str.ofString "n" then some (.int n tn) else m y) → News g L' h' [(L, oL), (c, cell), (I, litObj (.ref l) 0)] → I ≠ L → I ≠ c → s.heap.objs.size ≤ h'.objs.size → Q (.ref I) { s with heap := h', toks := tk }) →
     wpAny (model PySem.Challenge.rw_mq0307_01.row.prog w) A (call (.builtin "iter") [.ref src]) Q E { s with toks := tk })
   (ret : ∀ h' tk' (R : Nat) cc, Stays g h' → h'.get? L = some oL → h'.get? R = some (listOf (((ord r vs.length).take n.toNat).map fun i => vs.getD i Value.none).toArray cc) → g.get? R = none → R ≠ L → Q (.ret (.ref R)) { s with heap := h', toks := tk' }) :
   wpAny (model PySem.Challenge.rw_mq0307_01.row.prog w) ((AR dp un gd [env1]).deeper (envOfC qual scope L' 82 cdv)) (execs tail (envOfC qual scope L' 82 cdv)) Q (fun _ _ => False) s := by
  subst hc
  w_strict (
  revert X
  k_fill
  intro X
  have e := lk_inj hK (by k_is : (hd.heap_39 w.params).lookup 82 = some ⟨_, _, .func (fnOf _ _ _ _ _ _ _ _ _ _ _ _), _⟩)
  injection e with e1 e2 e3 e4
  injection e3 with e3
  injection e3 with e5 e6 e7 e8 e9 e10 e11 e12 e13 e14 e15 e16 e17 e18
  injection e8 with e8
  subst_vars
  clear hK e10 e11
  simp only [List.drop_succ_cons, List.drop_zero]
  (try dsimp only) 
  (try k_fold)
  k_with_none
  repeat' ((fail_if_success (with_reducible show wpAny _ _ (call (Value.ref _) _ _) _ _ _)); (fail_if_success (with_reducible show wpAny _ _ (call (Value.builtin _) _ _) _ _ _));  (first | (k_unfold; (try dsimp only)) | walk1 | (dsimp only; walk1)))
  refine hsrc _ _ _ _ fun h1 I F1 N1 hIL hIc hsz1 => ?_
  clear F N
  repeat' ((fail_if_success (with_reducible show wpAny _ _ (exec (Stmt.Assign _ (PySem.Expr.ListComp _ _ _ _) _) _) _ _ _)); walk1)
  refine' exec_assign_comp (cl := []) ?sw ?cl rfl ?nm ?_ ?hs
  case sw => with_unfolding_all rfl
  case cl => with_unfolding_all rfl
  case nm => decide +kernel
  case hs => (intro _; rfl)
  repeat' ((fail_if_success (with_reducible show wpAny _ _ (call (Value.type "zip") _ _) _ _ _));  (first | (k_unfold; (try dsimp only)) | walk1 | (dsimp only; walk1)))
  rename_i a1 F2 N2 a4
  refine' zip_comp (L := L) (oL := oL) (cA := L' + 1) (cell := cell) (l := l) (c0 := c0) (vs := vs) (g := g) (fun k o => ∃ t u, vs[k]? = some (.str (S k) t) ∧ o = tupObj [.str (S k) t, .int (-(k : Int)) u]) ?q0 ?z1 ?z2 ?y1 ?y2 ?y3 hIL hIc hl ?q1 ?q2 ?q3 ?z3 ?q4 ?q5 ?q6 ?z4 ?z5
  case q0 => rfl
  case y1 => exact a1
  case y2 => exact F2
  case y3 => exact N2
  case q1 => rfl
  case q2 => rfl
  case q3 => rfl
  case q4 => rfl
  case q5 => rfl
  case q6 => rfl
  case z1 => exact small_dn hn0 hn
  case z2 => (rw [rs_dn]; split <;> (first | lia | omega))
  case z3 => decide +kernel
  case z4 =>
    intro C k v h tk mC u hk hv hnC hi he stg hnL hhL hhc Q' E' hQ'
    obtain ⟨t, rfl⟩ := hkey k v hv
    repeat' ((fail_if_success (with_reducible show wpAny _ _ (eval (PySem.Expr.Name _ _) _) _ _ _)); walk1)
    refine wpAny_Name (wpAny_loadName_local rfl rfl hnC he ?_) (by decide)
    repeat' ((fail_if_success (with_reducible show wpAny _ _ (eval (PySem.Expr.Name _ _) _) _ _ _)); walk1)
    refine wpAny_Name (wpAny_loadName_local rfl rfl hnC hi ?_) (by decide)
    walk1
    refine wpAny_newObj_type (hQ' _ _ _ _ (fun b o e => Heap.get?_push_of_some _ e) (Nat.le_refl _) (Heap.get?_push_size _ rfl) ⟨t, u, hv, ?_⟩)
    have e0 : (0 : Int) + (k : Int) * -1 = -(k : Int) := by omega
    rw [e0]; rfl
  case z5 =>
    intro h3 tk3 as D c3 f3 j3 F3 N3 hDI hDL hDc hal hap haq hao hj1 hj2
    have hrs : (Builtin.Range.rangeSize 0 (-n) (-1)).toNat = n.toNat := by rw [rs_dn]; split <;> (first | lia | omega)
    have hgs : ∀ q ∈ as, q ≠ I ∧ q ≠ L' ∧ g.get? q = none := fun q hq => by
      have h0 := (haq q hq).1
      dsimp only at h0
      have i1 : I < _ := ltN (Heap.lt_size (N2 (I, litObj (.ref l) 0) (.tail _ (.tail _ (.head _)))).1)
      have i2 := ltN F2.ns.lt
      refine ⟨neN (by (first | lia | omega)), neN (by (first | lia | omega)), ?_⟩
      cases q' : g.get? q with
      | none => rfl
      | some o => have := ltN (Heap.lt_size (F2.keep _ _ q')); (first | lia | omega)
    clear F2 N2 a1 a4 
    refine' nl_heap2_n (w := w) (L := L) (L' := L') (c := L' + 1) (D := D) (I := I) (l := l) (c0 := c0) (c3 := c3) (j3 := j3) (oL := oL) (cell := cell) (n := n) (tn := tn) (vs := vs) (S := S) (r := r) (m := fun y => if y = Str.ofString "iterable" then some (.ref src) else m y) (as := as) (f3 := f3) ?w1 ?w2 X T ?w3 N3 rfl hDI hDL hDc hIL hIc ?w4 hap ?w5 ?w6 ?w7 ?w8 hf1 hk1 hoL hcL hdp hun hl hN hN2 hn1 hn0 hn hkey hr hre ?w9
    case w1 => k_is
    case w2 => rfl
    case w3 =>
      refine fr_as F3 fun y => ?_
      by_cases h1 : y = Str.ofString "result"
      · subst h1; rfl
      by_cases h2 : y = Str.ofString "it"
      · subst h2; rfl
      by_cases h3 : y = Str.ofString "iterable"
      · subst h3; rfl
      simp only [if_neg h1, if_neg h2, if_neg h3]
    case w4 => rw [hal, hrs]
    case w5 => exact fun q hq => ⟨(haq q hq).2, hgs q hq⟩
    case w6 =>
      intro k q hq
      obtain ⟨o, ho, t, u, hv, rfl⟩ := hao k q hq
      exact ⟨t, u, hv, ho⟩
    case w7 => exact fun q => hj1 (by have := rs_dn (n := n); split at this <;> (first | lia | omega))
    case w8 => exact fun q => hj2 (by have := rs_dn (n := n); split at this <;> (first | lia | omega))
    case w9 => exact fun h' tk' R cc a b c d e => ret h' tk' R cc a b c d e
  )
end Mine
end
theorem Mine.start_X3NL : True := by
  w_top off
  trivial
section
open PySem PySem.W PySem.Calls PyProof.Rows
set_option maxRecDepth 100000
set_option maxHeartbeats 8000000
namespace Mine
variable {w : World}
theorem nl_list_n {g : Heap} {s : Shared} {Q : Flow → Shared → Prop} {dp un : Nat} {gd : Option (List Code)} {env1 : Env} {mean : ExcName → Option Value} {mg mb : Str → Option Value}
   {oc : Value} {od : Option Addr} {osl : Array (Option Value)} {name qual : Str} {params : Arguments} {body tail tail2 : List Stmt} {scope : Scope} {dV kV doc pm cdv ct : Value} {an : Option Addr}
   {L L' c l c0 : Nat} {oL cell : Obj} {n : Int} {tn : Tok} {vs : List Value} {S : Nat → Str} {r : Nat → Int} {m : Str → Option Value}
   (hK : (hd.heap_39 w.params).lookup 82 = some ⟨oc, od, .func (fnOf name qual params body scope dV kV doc pm an cdv ct), osl⟩) (ht : body.drop 1 = tail)
   (X : (hd.heap_39 w.params).In g) (T : Top hd.view_39 (looseW hd.view_39 [Str.ofString "nsmallest", Str.ofString "nlargest"]) mean mg mb g)
   (F : Fr g L' s.heap (fun y => if y = Str.ofString "iterable" then some (.ref l) else if y = Str.ofString "n" then some (.int n tn) else m y)) (N : News g L' s.heap [(L, oL), (c, cell)]) 
   (hc : c = L' + 1) (hcell : cell.data = .cell (some .none))
   (hf1 : env1.frame = some L) (hk1 : env1.scope.kind = .function) (hoL : ∀ vs, oL.data ≠ .fields vs) (hcL : c ≠ L) 
   (hdp : dp + 8 < recursionLimit) (hun : un + 480 < cLine)
   (hl : g.get? l = some (listOf vs.toArray c0)) (hN : vs.length < 64) (hN2 : 2 ≤ vs.length) (hn0 : -1 ≤ n) (hn : n < 64)
   (hkey : ∀ i v, vs[i]? = some v → ∃ t, v = Value.str (S i) t)
   (hr : ∀ i j, i < vs.length → j < vs.length → strLt (S i) (S j) = decide (r j < r i))
   (ht2 : body.drop 2 = tail2)
   (k : n < vs.length → ∀ h' tk' ts, Fr g L' h' (fun y => if y = Str.ofString "iterable" then some (.ref l) else if y = Str.ofString "n" then some (.int n tn) else if y = Str.ofString "size" then some (.int vs.length ts) else m y) → News g L' h' [(L, oL), (c, cell)] →
     wpAny (model PySem.Challenge.rw_mq0307_01.row.prog w) ((AR dp un gd [env1]).deeper (envOfC qual scope L' 82 cdv)) (execs tail2 (envOfC qual scope L' 82 cdv)) Q (fun _ _ => False) { s with heap := h', toks := tk' })
   (ret : ∀ h' tk' (R : Nat) cc, Stays g h' → h'.get? L = some oL → h'.get? R = some (listOf (((ord r vs.length).take n.toNat).map fun i => vs.getD i Value.none).toArray cc) → g.get? R = none → R ≠ L → Q (.ret (.ref R)) { s with heap := h', toks := tk' }) :
   wpAny (model PySem.Challenge.rw_mq0307_01.row.prog w) ((AR dp un gd [env1]).deeper (envOfC qual scope L' 82 cdv)) (execs tail (envOfC qual scope L' 82 cdv)) Q (fun _ _ => False) s := by
  subst hc
  w_strict (
  revert X
  k_fill
  intro X
  have e := lk_inj hK (by k_is : (hd.heap_39 w.params).lookup 82 = some ⟨_, _, .func (fnOf _ _ _ _ _ _ _ _ _ _ _ _), _⟩)
  injection e with e1 e2 e3 e4
  injection e3 with e3
  injection e3 with e5 e6 e7 e8 e9 e10 e11 e12 e13 e14 e15 e16 e17 e18
  injection e8 with e8
  subst_vars
  clear hK e10 e11
  simp only [List.drop_succ_cons, List.drop_zero]
  (try dsimp only) 
  (try k_fold)
  k_with_none
  walk1
  refine wpAny_Try_except ?_
  repeat' ((fail_if_success (with_reducible show wpAny _ _ (call (Value.ref _) _ _) _ _ _)); (fail_if_success (with_reducible show wpAny _ _ (call (Value.builtin _) _ _) _ _ _));  (first | (k_unfold; (try dsimp only)) | walk1 | (dsimp only; walk1)))
  have hil : s.heap.IsList l vs.toArray := ⟨_, F.keep _ _ hl, rfl, c0, rfl⟩
  refine len_list hil (by simp only [List.size_toArray]; (first | lia | omega)) ?_
  clear hil
  repeat' ((fail_if_success (with_reducible show wpAny _ _ (truthy _) _ _ _)); (fail_if_success (with_reducible show wpAny _ _ (call (Value.builtin _) _ _) _ _ _));  (first | (k_unfold; (try dsimp only)) | walk1 | (dsimp only; walk1)))
  rename Fr _ _ _ _ => F1
  rename News _ _ _ _ => N1
  rename Heap => h1
  refine wpAny_truthy_bool ?_
  by_cases hge : (vs.length : Int) ≤ n
  · rw [if_pos (by simpa using hge)]
    repeat' ((fail_if_success (with_reducible show wpAny _ _ (call (Value.builtin _) _ _) _ _ _));  (first | (k_unfold; (try dsimp only)) | walk1 | (dsimp only; walk1)))
    show wpAny _ _ (call (Value.builtin "sorted") [Value.ref l] [(Str.ofString "key", .none), (Str.ofString "reverse", .bool true)]) _ _ _
    have szl : ∀ b o, h1.get? b = some o → b < h1.objs.size := fun b o e => Heap.lt_size e
    refine sorted_call (vs := vs) (tree := fun x => nk_tree x true) ⟨_, F1.keep _ _ hl, rfl, c0, rfl⟩ hN ?s2 ?s3 ?s4 ?_
    case s2 => (unfold argsOk; kernel_rfl)
    case s3 => (intro x; unfold argsOk; kernel_rfl)
    case s4 => exact fun x => nk_4 x true
    intro D h2 hD hDl st2 hsz2
    dsimp only at hD st2 hsz2 ⊢
    have neD : ∀ b o, h1.get? b = some o → b ≠ D := fun b o e q => by have := ltN (szl b o e); rw [q, hD] at this; (first | lia | omega)
    have hDg : g.get? D = none := by
      cases q : g.get? D with
      | none => rfl
      | some o => exact absurd rfl (neD _ _ (F1.keep _ _ q))
    have hDL' : D ≠ L' := fun q => by obtain ⟨o, _, _, ho, _⟩ := F1.ns; exact neD _ _ ho q.symm
    have hSA : StrsAre S vs := hkey
    refine nk_sort (b := true) (r := fun i => - r i) (κ := oneType') hDl hN2 hN ?kind ?cmp ?fin
    case kind => exact fun h tk _ Q' E' hq => strs_kind hSA hN2 hq
    case cmp =>
      intro i j h tk C _ hi hj hC
      refine strs_lt hSA hi hj ?_
      have := hC tk
      rw [show decide (- r i < - r j) = decide (r j < r i) from by rw [decide_eq_decide]; omega, ← hr i j hi hj] at this
      exact this
    case fin =>
      intro h3 tk3 q c3 hqp hqs hl3 hk3 hsz3
      refine ⟨rfl, ?_⟩
      have eq : q = ord r vs.length := ord_unique hqp (hqs.imp fun {a b} q => by unfold SL turned at *; simp only [if_true] at q; omega)
      have up : Stays h1 h3 := fun b o e => hk3 b o (neD b o e) (st2 b o e)
      have F3 : Fr g L' h3 _ := ⟨F1.ns.keeps up, fun b o e => up b o (F1.keep b o e), F1.above⟩
      have N3 : News g L' h3 [(D, listOf (q.map fun i => vs.getD i Value.none).toArray c3), (L, oL), (L' + 1, cell)] := fun p hp => by
        rcases List.mem_cons.mp hp with rfl | hp
        · exact ⟨hl3, hDL', hDg⟩
        · exact ⟨up _ _ (N1 p hp).1, (N1 p hp).2⟩
      clear F1 N1
      repeat' ((fail_if_success (with_reducible show wpAny _ _ (subscriptTail _ _ _ _) _ _ _));  (first | (k_unfold; (try dsimp only)) | walk1 | (dsimp only; walk1)))
      refine kba_turn (value' := PySem.Expr.Name (Str.ofString "x") ⟨0, 0, 0, 0⟩) (fun _ => rfl) ?_
      refine kmk_slice (s := { s with heap := h3, toks := tk3 }) (lo := none) (hi := some n) F3 N3 ⟨_, (N3 _ (.head _)).1, rfl, c3, rfl⟩ IsPart.none (IsPart.int _ _) ?sl ?su (fun _ => rfl) ?sz
      case su => with_unfolding_all rfl
      case sz => (rw [List.size_toArray, List.length_map, hqp.length_eq, List.length_range, sizeLine_eq]; (first | lia | omega))
      intro D2 h4 F4 N4 hlt4
      have e4 : slicePick (q.map fun i => vs.getD i Value.none).toArray none (some n) none = (((ord r vs.length).take n.toNat).map fun i => vs.getD i Value.none).toArray := by
        have en : n = ((n.toNat : Nat) : Int) := by (first | lia | omega)
        rw [en, slicePick_upto', Int.toNat_natCast, eq, List.map_take]
      have z := N4 _ (.head _)
      rw [e4] at z
      exact ret h4 _ D2 _ F4.keep (N4 _ (.tail _ (.tail _ (.head _)))).1 z.1 z.2.2 (Nat.ne_of_gt (hlt4 (L, oL) (.tail _ (.head _))))
  · rw [if_neg (by simpa using hge)]
    repeat' ((fail_if_success (with_reducible show wpAny _ _ (execs (_ :: _) _) _ _ _)); (first | (k_unfold; (try dsimp only)) | walk1 | (dsimp only; walk1)))
    refine' k (by (first | lia | omega)) h1 tk ?ts (fr_as F1 ?fa) N1
    case fa =>
      intro y
      by_cases h1 : y = Str.ofString "size"
      · subst h1; exact rfl
      by_cases h2 : y = Str.ofString "iterable"
      · subst h2; rfl
      by_cases h3 : y = Str.ofString "n"
      · subst h3; rfl
      simp only [if_neg h1, if_neg h2, if_neg h3]
  )
end Mine
end
theorem Mine.start_X4NL : True := by
  w_top off
  trivial
section
open PySem PySem.W PySem.Calls PyProof.Rows
set_option maxRecDepth 100000
set_option maxHeartbeats 8000000
namespace Mine
variable {w : World}
theorem nl_one_n {g : Heap} {s : Shared} {Q : Flow → Shared → Prop} {dp un : Nat} {gd : Option (List Code)} {env1 : Env} {mean : ExcName → Option Value} {mg mb : Str → Option Value}
   {oc : Value} {od : Option Addr} {osl : Array (Option Value)} {name qual : Str} {params : Arguments} {body tail : List Stmt} {scope : Scope} {dV kV doc pm cdv ct : Value} {an : Option Addr}
   {L L' c src l c0 : Nat} {oL cell : Obj} {n : Int} {tn : Tok} {vs : List Value} {S : Nat → Str} {r : Nat → Int} {rest : List (Addr × Obj)} {m : Str → Option Value}
   (hK : (hd.heap_39 w.params).lookup 82 = some ⟨oc, od, .func (fnOf name qual params body scope dV kV doc pm an cdv ct), osl⟩) (ht : body.drop 0 = tail)
   (X : (hd.heap_39 w.params).In g) (T : Top hd.view_39 (looseW hd.view_39 [Str.ofString "nsmallest", Str.ofString "nlargest"]) mean mg mb g)
   (F : Fr g L' s.heap (fun y => if y = Str.ofString "iterable" then some (.ref src) else if y = Str.ofString "n" then some (.int n tn) else m y)) (N : News g L' s.heap ((L, oL) :: (c, cell) :: rest)) 
   (hc : c = L' + 1) (hcell : cell.data = .cell (some .none))
   (hf1 : env1.frame = some L) (hk1 : env1.scope.kind = .function) (hoL : ∀ vs, oL.data ≠ .fields vs) (hcL : c ≠ L) 
   (hdp : dp + 8 < recursionLimit) (hun : un + 480 < cLine)
   (hl : g.get? l = some (listOf vs.toArray c0)) (hN : vs.length < 64) (hn1 : n = 1)
   (hkey : ∀ i v, vs[i]? = some v → ∃ t, v = Value.str (S i) t)
   (hr : ∀ i j, i < vs.length → j < vs.length → strLt (S i) (S j) = decide (r j < r i))
   (hsrc : ∀ (A : Around) (Q E : Value → Shared → Prop) tk, (∀ h' (I : Nat), Fr g L' h' (fun y => if y = Str.ofString "iterable" then some (.ref src) else if y = Str.ofString "n" then some (.int n tn) else m y) → News g L' h' [(L, oL), (c, cell), (I, litObj (.ref l) 0)] → I ≠ L → I ≠ c → s.heap.objs.size ≤ h'.objs.size → Q (.ref I) { s with heap := h', toks := tk }) →
     wpAny (model PySem.Challenge.rw_mq0307_01.row.prog w) A (call (.builtin "iter") [.ref src]) Q E { s with toks := tk })
   (ret : ∀ h' tk' (R : Nat) cc, Stays g h' → h'.get? L = some oL → h'.get? R = some (listOf (((ord r vs.length).take n.toNat).map fun i => vs.getD i Value.none).toArray cc) → g.get? R = none → R ≠ L → Q (.ret (.ref R)) { s with heap := h', toks := tk' }) :
   wpAny (model PySem.Challenge.rw_mq0307_01.row.prog w) ((AR dp un gd [env1]).deeper (envOfC qual scope L' 82 cdv)) (execs tail (envOfC qual scope L' 82 cdv)) Q (fun _ _ => False) s := by
  subst hc
  subst hn1
  w_strict (
  revert X
  k_fill
  intro X
  have e := lk_inj hK (by k_is : (hd.heap_39 w.params).lookup 82 = some ⟨_, _, .func (fnOf _ _ _ _ _ _ _ _ _ _ _ _), _⟩)
  injection e with e1 e2 e3 e4
  injection e3 with e3
  injection e3 with e5 e6 e7 e8 e9 e10 e11 e12 e13 e14 e15 e16 e17 e18
  injection e8 with e8
  subst_vars
  clear hK e10 e11
  simp only [List.drop_succ_cons, List.drop_zero]
  (try dsimp only) 
  (try k_fold)
  k_with_none
  repeat' ((fail_if_success (with_reducible show wpAny _ _ (call (Value.ref _) _ _) _ _ _)); (fail_if_success (with_reducible show wpAny _ _ (call (Value.builtin _) _ _) _ _ _));  (first | (k_unfold; (try dsimp only)) | walk1 | (dsimp only; walk1)))
  refine hsrc _ _ _ _ fun h1 I F1 N1 hIL hIc hsz1 => ?_
  clear F N
  repeat' ((fail_if_success (with_reducible show wpAny _ _ (call (Value.ref _) _ _) _ _ _)); (fail_if_success (with_reducible show wpAny _ _ (call (Value.builtin _) _ _) _ _ _));  (first | (k_unfold; (try dsimp only)) | walk1 | (dsimp only; walk1)))
  rename Fr _ _ _ _ => F2
  rename News _ _ _ _ => N2
  rename Heap => h2
  refine call_object ?_
  have F3 := F2.push objObj
  have N3 := News.push F2 N2 objObj
  have sz2 : ∀ b o, h2.get? b = some o → b < h2.objs.size := fun b o e => Heap.lt_size e
  have hOI : h2.objs.size ≠ I := Nat.ne_of_gt (sz2 _ _ (N2 (I, litObj (.ref l) 0) (by simp)).1)
  dsimp only
  generalize hO : h2.objs.size = O at N3 sz2 hOI ⊢
  generalize h2.push objObj = h3 at F3 N3 ⊢
  clear F2 N2 hO sz2
  repeat' ((fail_if_success (with_reducible show wpAny _ _ (call (Value.ref _) _ _) _ _ _)); (fail_if_success (with_reducible show wpAny _ _ (call (Value.builtin _) _ _) _ _ _));  (first | (k_unfold; (try dsimp only)) | walk1 | (dsimp only; walk1)))
  rename Fr _ _ _ _ => F4
  rename News _ _ _ _ => N4
  rename Heap => h4
  show wpAny _ _ (call (Value.builtin "max") [Value.ref I] [(Str.ofString "default", .ref O), (Str.ofString "key", .none)]) _ _ _
  have zI := N4 (I, litObj (.ref l) 0) (by simp)
  have NI : News g L' h4 [(I, litObj (.ref l) 0)] := fun p hp => by rw [List.mem_singleton.mp hp]; exact zI
  have st := stays_ground F4 NI
  obtain ⟨o4, es4, ep4, ho4, r4⟩ := F4.ns
  have hL4 : (hideAll h4 [I]).get? L' = some o4 := hideAll_get _ ho4 fun q => zI.2.1 (List.mem_singleton.mp q).symm
  have hLL4 : (hideAll h4 [I]).get? L = some oL := hideAll_get _ (N4 (L, oL) (by simp)).1 fun q => hIL (List.mem_singleton.mp q).symm
  have hkp : ∀ h5, Stays (hideAll h4 [I]) h5 → Fr g L' h5 _ ∧ News g L' h5 [(O, objObj), (L, oL), (L' + 1, cell)] := fun h5 st5 => by
    have kp : ∀ a o, a ≠ I → h4.get? a = some o → h5.get? a = some o := fun a o ha e => st5 a o (hideAll_get _ e fun q => ha (List.mem_singleton.mp q))
    refine ⟨fr_but F4 kp zI.2.1 zI.2.2, fun p hp => ?_⟩
    have z := N4 p (by simp only [List.mem_cons, List.not_mem_nil, or_false] at hp ⊢; rcases hp with q | q | q <;> simp [q])
    refine ⟨kp _ _ ?_ z.1, z.2⟩
    simp only [List.mem_cons, List.not_mem_nil, or_false] at hp
    rcases hp with q | q | q
    · rw [q]; exact hOI
    · rw [q]; exact Ne.symm hIL
    · rw [q]; exact Ne.symm hIc
  have gL := (N4 (L, oL) (by simp)).2.2
  refine max_call_n (s := { s with heap := h4, toks := tk }) (g := hideAll h4 [I]) (l := l) (vs := vs) (c0 := c0) (gr_of (k := 4) X T st (no_self F4) ⟨o4, es4, ep4, hL4, r4⟩ hLL4 hoL gL rfl rfl hf1 hk1 (by (first | lia | omega)) (by (first | lia | omega))) (stays_hide _ _) (st _ _ hl) (hideAll_none _ (.head _)) zI.1 (Nat.le_of_eq (hideAll_size _ _)) hkey (fun i j hi hj => hr j i hj hi) ?R0 ?R
  case R0 =>
    intro h0 h5 tk5 st5 hsz5
    obtain ⟨F5, N5⟩ := hkp h5 st5
    clear F4 N4 NI zI hkp ho4
    repeat' ((fail_if_success (with_reducible show wpAny _ _ (call (Value.ref _) _ _) _ _ _)); (first | (k_unfold; (try dsimp only)) | walk1 | (dsimp only; walk1)))
    rename Fr _ _ _ _ => F6
    rename News _ _ _ _ => N6
    rename_i l6 l7
    have e0 : (((ord r vs.length).take (1 : Int).toNat).map fun i => vs.getD i Value.none) = [] := by
      rw [List.eq_nil_of_length_eq_zero (l := ord r vs.length) (by rw [ord_len, h0])]; rfl
    rw [e0] at ret
    exact ret _ _ _ 0 F6.keep (N6 _ (.tail _ (.tail _ (.head _)))).1 (N6 _ (.head _)).1 (N6 _ (.head _)).2.2 (Nat.ne_of_gt l7.2.1)
  case R =>
    intro b v h5 tk5 hv hb st5 hsz5
    obtain ⟨F5, N5⟩ := hkp h5 st5
    clear F4 N4 NI zI hkp ho4
    have e1 : (((ord r vs.length).take (1 : Int).toNat).map fun i => vs.getD i Value.none) = [v] := by
      show (((ord r vs.length).take 1).map fun i => vs.getD i Value.none) = [v]
      rw [least_take hb, List.map_singleton, List.getD_eq_getElem?_getD, hv]; rfl
    rw [e1] at ret
    obtain ⟨t, rfl⟩ := hkey b v hv
    all_goals repeat' ((fail_if_success (with_reducible show wpAny _ _ (call (Value.ref _) _ _) _ _ _)); (first | (k_unfold; (try dsimp only)) | walk1 | (dsimp only; walk1)))
    all_goals refine wpAny_is_other rfl (by intro x; cases x) ?_
    all_goals repeat' ((fail_if_success (with_reducible show wpAny _ _ (call (Value.ref _) _ _) _ _ _)); (first | (k_unfold; (try dsimp only)) | walk1 | (dsimp only; walk1)))
    all_goals (
      rename Fr _ _ _ _ => F6
      rename News _ _ _ _ => N6
      rename_i l6 l7
      exact ret _ _ _ 0 F6.keep (N6 _ (.tail _ (.tail _ (.head _)))).1 (N6 _ (.head _)).1 (N6 _ (.head _)).2.2 (Nat.ne_of_gt l7.2.1))
  )
-- nl_not1
end Mine
end
theorem Mine.start_X5NL : True := by
  w_top off
  trivial
section
open PySem PySem.W PySem.Calls PyProof.Rows
set_option maxRecDepth 100000
set_option maxHeartbeats 8000000
namespace Mine
variable {w : World}
theorem nl_call_ln {g : Heap} {s : Shared} {Q E : Value → Shared → Prop} {dp un : Nat} {gd : Option (List Code)} {env1 : Env} {mean : ExcName → Option Value} {mg mb : Str → Option Value}
   {L l c0 : Nat} {oL : Obj} {n : Int} {tn : Tok} {vs : List Value} {S : Nat → Str} {r : Nat → Int}
   (X : (hd.heap_39 w.params).In g) (T : Top hd.view_39 (looseW hd.view_39 [Str.ofString "nsmallest", Str.ofString "nlargest"]) mean mg mb g)
   (hg : Stays g s.heap) (hgs : g.objs.size ≤ s.heap.objs.size) (hLg : g.get? L = none) (hL : s.heap.get? L = some oL) (hoL : ∀ vs, oL.data ≠ .fields vs)
   (hf1 : env1.frame = some L) (hk1 : env1.scope.kind = .function) 
   (hdp : dp + 9 < recursionLimit) (hun : un + 540 < cLine)
   (hl : g.get? l = some (listOf vs.toArray c0)) (hN : vs.length < 64) (hN2 : 2 ≤ vs.length) (hn0 : -1 ≤ n) (hn : n < 64)
   (hkey : ∀ i v, vs[i]? = some v → ∃ t, v = Value.str (S i) t)
   (hr : ∀ i j, i < vs.length → j < vs.length → strLt (S i) (S j) = decide (r j < r i)) (hre : ∀ i j, i < vs.length → j < vs.length → (S i = S j ↔ r i = r j))
   (ret : ∀ h' tk' (R : Nat) cc sl, Stays g h' → h'.get? L = some { oL with slots := sl } → h'.get? R = some (listOf (((ord r vs.length).take n.toNat).map fun i => vs.getD i Value.none).toArray cc) → g.get? R = none → R ≠ L → Q (.ref R) { s with heap := h', toks := tk' }) :
   wpAny (model PySem.Challenge.rw_mq0307_01.row.prog w) (AR dp un gd [env1]) (call (.ref 82) [.int n tn, .ref l]) Q E s := by
  w_strict (
  revert X
  k_fill
  intro X
  refine' enterC (g := g) (binds := [(Str.ofString "n", .int n tn), (Str.ofString "iterable", .ref l), (Str.ofString "key", .none)]) ?k0 ?k1 X hg hgs ?k2 ?k3 ?k4 ?k5 ?k6 ?_ ?k7 ?k8 ?k9
  case k0 => exact Nat.lt_of_le_of_lt (Nat.le_add_right _ _) hdp
  case k1 => exact T.nolimit
  case k2 => k_is
  case k3 => k_is
  case k4 => exact BindsTo.of_defaults rfl (hg _ _ (X _ _ (by k_is))) rfl rfl rfl
  case k5 => rfl
  case k6 => decide +kernel
  case k7 => rfl
  case k8 => rfl
  case k9 => rfl
  intro h1 tk1 cells F N hC st1
  obtain ⟨cell, rfl, hcell⟩ := (show CellsAre _ [(Str.ofString "key", s.heap.objs.size + 1)] cells from hC).one
  replace hcell : cell.data = .cell (some .none) := hcell
  have hLlt : L < s.heap.objs.size := Heap.lt_size hL
  generalize hL' : s.heap.objs.size = L' at *
  have hcL : L' + 1 ≠ L := by (first | lia | omega)
  have N' : News g L' h1 [(L, oL), (L' + 1, cell)] := fun p hp => by
    rcases List.mem_cons.mp hp with rfl | hp
    · exact ⟨st1 _ _ hL, neN (by (first | lia | omega)), hLg⟩
    · exact N p hp
  replace F : Fr g L' h1 (fun y => if y = Str.ofString "iterable" then some (.ref l) else if y = Str.ofString "n" then some (.int n tn) else (fun _ => none) y) := fr_as F fun y => rfl
  clear N hC
  (try dsimp only at F)
  by_cases hn1 : n = 1
  · refine' nl_one_n (w := w) (L := L) (L' := L') (src := l) (l := l) (c0 := c0) (oL := oL) (cell := cell) (n := n) (tn := tn) (vs := vs) (S := S) (r := r) (m := fun _ => none) (rest := []) ?w1 rfl X T F N' rfl hcell hf1 hk1 hoL hcL (by (first | lia | omega)) (by (first | lia | omega)) hl hN hn1 hkey hr ?w2 ?w3
    case w1 => k_is
    case w2 => exact src_list (s := { s with heap := h1, toks := tk1 }) F N' hl
    case w3 => exact fun h' tk' R cc a b c d e => ret h' tk' R cc oL.slots a b c d e
  refine' nl_not1 (w := w) (m := fun _ => none) ?v1 rfl X T F N' hn1 rfl fun tk2 => ?_
  case v1 => k_is
  refine' nl_list_n (w := w) (L := L) (L' := L') (l := l) (c0 := c0) (oL := oL) (cell := cell) (n := n) (tn := tn) (vs := vs) (S := S) (r := r) (m := fun _ => none) ?u1 rfl X T F N' rfl hcell hf1 hk1 hoL hcL (by (first | lia | omega)) (by (first | lia | omega)) hl hN hN2 hn0 hn hkey hr rfl ?u2 ?u3
  case u1 => k_is
  case u3 => exact fun h' tk' R cc a b c d e => ret h' tk' R cc oL.slots a b c d e
  case u2 =>
    intro hlt h2 tk3 ts F2 N2
    refine' nl_heap_n (w := w) (L := L) (L' := L') (src := l) (l := l) (c0 := c0) (oL := oL) (cell := cell) (n := n) (tn := tn) (vs := vs) (S := S) (r := r) (m := fun y => if y = Str.ofString "size" then some (.int vs.length ts) else none) (rest := []) ?t1 rfl X T F2 N2 rfl hcell hf1 hk1 hoL hcL (by (first | lia | omega)) (by (first | lia | omega)) hl hN (.inr hN2) hn1 hn0 hn hkey hr hre ?t2 ?t3
    case t1 => k_is
    case t2 => exact src_list (s := { s with heap := h2, toks := tk3 }) F2 N2 hl
    case t3 => exact fun h' tk' R cc a b c d e => ret h' tk' R cc oL.slots a b c d e
  )
theorem nl_call_in {g : Heap} {s : Shared} {Q E : Value → Shared → Prop} {dp un : Nat} {gd : Option (List Code)} {env1 : Env} {mean : ExcName → Option Value} {mg mb : Str → Option Value}
   {L l it c0 : Nat} {oL : Obj} {n : Int} {tn : Tok} {vs : List Value} {S : Nat → Str} {r : Nat → Int}
   (X : (hd.heap_39 w.params).In g) (T : Top hd.view_39 (looseW hd.view_39 [Str.ofString "nsmallest", Str.ofString "nlargest"]) mean mg mb g)
   (hg : Stays g s.heap) (hgs : g.objs.size ≤ s.heap.objs.size) (hLg : g.get? L = none) (hL : s.heap.get? L = some oL) (hoL : ∀ vs, oL.data ≠ .fields vs) (hIg : g.get? it = none) (hI : s.heap.get? it = some (litObj (.ref l) 0)) (hIL : it ≠ L)
   (hf1 : env1.frame = some L) (hk1 : env1.scope.kind = .function) 
   (hdp : dp + 9 < recursionLimit) (hun : un + 540 < cLine)
   (hl : g.get? l = some (listOf vs.toArray c0)) (hN : vs.length < 64) (hN2 : vs.length = 0 ∨ 2 ≤ vs.length) (hn0 : -1 ≤ n) (hn : n < 64)
   (hkey : ∀ i v, vs[i]? = some v → ∃ t, v = Value.str (S i) t)
   (hr : ∀ i j, i < vs.length → j < vs.length → strLt (S i) (S j) = decide (r j < r i)) (hre : ∀ i j, i < vs.length → j < vs.length → (S i = S j ↔ r i = r j))
   (ret : ∀ h' tk' (R : Nat) cc sl, Stays g h' → h'.get? L = some { oL with slots := sl } → h'.get? R = some (listOf (((ord r vs.length).take n.toNat).map fun i => vs.getD i Value.none).toArray cc) → g.get? R = none → R ≠ L → Q (.ref R) { s with heap := h', toks := tk' }) :
   wpAny (model PySem.Challenge.rw_mq0307_01.row.prog w) (AR dp un gd [env1]) (call (.ref 82) [.int n tn, .ref it]) Q E s := by
  w_strict (
  revert X
  k_fill
  intro X
  refine' enterC (g := g) (binds := [(Str.ofString "n", .int n tn), (Str.ofString "iterable", .ref it), (Str.ofString "key", .none)]) ?k0 ?k1 X hg hgs ?k2 ?k3 ?k4 ?k5 ?k6 ?_ ?k7 ?k8 ?k9
  case k0 => exact Nat.lt_of_le_of_lt (Nat.le_add_right _ _) hdp
  case k1 => exact T.nolimit
  case k2 => k_is
  case k3 => k_is
  case k4 => exact BindsTo.of_defaults rfl (hg _ _ (X _ _ (by k_is))) rfl rfl rfl
  case k5 => rfl
  case k6 => decide +kernel
  case k7 => rfl
  case k8 => rfl
  case k9 => rfl
  intro h1 tk1 cells F N hC st1
  obtain ⟨cell, rfl, hcell⟩ := (show CellsAre _ [(Str.ofString "key", s.heap.objs.size + 1)] cells from hC).one
  replace hcell : cell.data = .cell (some .none) := hcell
  have hLlt : L < s.heap.objs.size := Heap.lt_size hL
  have hIlt : it < s.heap.objs.size := Heap.lt_size hI
  generalize hL' : s.heap.objs.size = L' at *
  have hcL : L' + 1 ≠ L := by (first | lia | omega)
  have hIc : it ≠ L' + 1 := by (first | lia | omega)
  have N' : News g L' h1 [(L, oL), (L' + 1, cell), (it, litObj (.ref l) 0)] := fun p hp => by
    simp only [List.mem_cons, List.not_mem_nil, or_false] at hp
    rcases hp with rfl | rfl | rfl
    · exact ⟨st1 _ _ hL, neN (by (first | lia | omega)), hLg⟩
    · exact N _ (.head _)
    · exact ⟨st1 _ _ hI, neN (by (first | lia | omega)), hIg⟩
  replace F : Fr g L' h1 (fun y => if y = Str.ofString "iterable" then some (.ref it) else if y = Str.ofString "n" then some (.int n tn) else (fun _ => none) y) := fr_as F fun y => rfl
  clear N hC
  (try dsimp only at F)
  by_cases hn1 : n = 1
  · refine' nl_one_n (w := w) (L := L) (L' := L') (src := it) (l := l) (c0 := c0) (oL := oL) (cell := cell) (n := n) (tn := tn) (vs := vs) (S := S) (r := r) (m := fun _ => none) (rest := [(it, litObj (.ref l) 0)]) ?w1 rfl X T F N' rfl hcell hf1 hk1 hoL hcL (by (first | lia | omega)) (by (first | lia | omega)) hl hN hn1 hkey hr ?w2 ?w3
    case w1 => k_is
    case w2 => exact src_it (s := { s with heap := h1, toks := tk1 }) F N' hIL hIc
    case w3 => exact fun h' tk' R cc a b c d e => ret h' tk' R cc oL.slots a b c d e
  refine' nl_not1 (w := w) (m := fun _ => none) ?v1 rfl X T F N' hn1 rfl fun tk2 => ?_
  case v1 => k_is
  refine' nl_try (w := w) (kv := .none) (L := L) (L' := L') (oL := oL) (cell := cell) (n := n) (tn := tn) ?u1 rfl X T F N' hf1 hk1 hoL hcL hIL rfl ?u2
  case u1 => k_is
  case u2 =>
    intro h2 tk3 sl F2 N2
    refine' nl_heap_n (w := w) (L := L) (L' := L') (src := it) (l := l) (c0 := c0) (oL := { oL with slots := sl }) (cell := cell) (n := n) (tn := tn) (vs := vs) (S := S) (r := r) (m := fun _ => none) (rest := [(it, litObj (.ref l) 0)]) ?t1 rfl X T F2 N2 rfl hcell hf1 hk1 hoL hcL (by (first | lia | omega)) (by (first | lia | omega)) hl hN hN2 hn1 hn0 hn hkey hr hre ?t2 ?t3
    case t1 => k_is
    case t2 => exact src_it (s := { s with heap := h2, toks := tk3 }) F2 N2 hIL hIc
    case t3 => exact fun h' tk' R cc a b c d e => ret h' tk' R cc sl a b c d e
  )
end Mine
end
theorem Mine.start_V1 : True := by
  w_top off
  trivial
section
set_option maxRecDepth 100000
set_option maxHeartbeats 4000000
open PySem
namespace Mine
noncomputable def enc : Nat → List Nat → Nat
  | 0, _ => 0
  | _ + 1, [] => 0
  | k + 1, a :: l => (a + 1) * 256 ^ k + enc k l
theorem enc_lt : ∀ (k : Nat) (l : List Nat), (∀ a ∈ l, a < 254) → enc k l < 256 ^ k
  | 0, _, _ => Nat.one_pos
  | k + 1, [], _ => Nat.pow_pos (by decide)
  | k + 1, a :: l, h => by
    have h1 := enc_lt k l fun x hx => h x (.tail _ hx)
    have h2 := h a (.head _)
    have h3 : (a + 2) * 256 ^ k ≤ 256 * 256 ^ k := Nat.mul_le_mul_right _ (by (first | lia | omega))
    have h4 : (a + 2) * 256 ^ k = (a + 1) * 256 ^ k + 256 ^ k := by rw [show a + 2 = (a + 1) + 1 from rfl, Nat.succ_mul]
    show (a + 1) * 256 ^ k + enc k l < 256 ^ (k + 1)
    rw [Nat.pow_succ, Nat.mul_comm (256 ^ k) 256]
    (first | lia | omega)
theorem enc_iff : ∀ (k : Nat) (l l' : List Nat), l.length ≤ k → l'.length ≤ k → (∀ a ∈ l, a < 254) → (∀ a ∈ l', a < 254) → (l < l' ↔ enc k l < enc k l')
  | 0, [], [], _, _, _, _ => by simp [enc]
  | 0, _ :: _, _, h, _, _, _ => by simp at h
  | 0, _, _ :: _, _, h, _, _ => by simp at h
  | k + 1, [], [], _, _, _, _ => by simp [enc]
  | k + 1, [], b :: l', _, _, _, _ => by
    have h3 : 0 < (b + 1) * 256 ^ k := Nat.mul_pos (by (first | lia | omega)) (Nat.pow_pos (by decide))
    refine ⟨fun _ => ?_, fun _ => by simp⟩
    show 0 < (b + 1) * 256 ^ k + enc k l'
    (first | lia | omega)
  | k + 1, a :: l, [], _, _, _, _ => by
    refine ⟨fun h => by simp at h, fun h => ?_⟩
    exact absurd h (Nat.not_lt_zero _)
  | k + 1, a :: l, b :: l', h1, h2, h3, h4 => by
    have ih := enc_iff k l l' (by simpa using h1) (by simpa using h2) (fun x hx => h3 x (.tail _ hx)) (fun x hx => h4 x (.tail _ hx))
    have e1 := enc_lt k l fun x hx => h3 x (.tail _ hx)
    have e2 := enc_lt k l' fun x hx => h4 x (.tail _ hx)
    rw [List.cons_lt_cons_iff, ih]
    show _ ↔ (a + 1) * 256 ^ k + enc k l < (b + 1) * 256 ^ k + enc k l'
    have step : ∀ x y : Nat, x < y → (x + 1) * 256 ^ k + 256 ^ k ≤ (y + 1) * 256 ^ k := fun x y hxy => by
      rw [← Nat.succ_mul]; exact Nat.mul_le_mul_right _ (by (first | lia | omega))
    rcases Nat.lt_trichotomy a b with h | h | h
    · have := step a b h
      constructor
      · intro _; (first | lia | omega)
      · intro _; exact .inl h
    · subst h
      constructor
      · rintro (q | q)
        · (first | lia | omega)
        · (first | lia | omega)
      · intro q; exact .inr ⟨rfl, by (first | lia | omega)⟩
    · have := step b a h
      constructor
      · rintro (q | q) <;> (first | lia | omega)
      · intro q; (first | lia | omega)
noncomputable def T256 : List Nat := [2162688, 2228224, 2236672, 2236928, 2237184, 2237440, 2237696, 2237952, 2238208, 2238464, 2238720, 2238976, 2239232, 2239488, 2239744, 2240000, 2240256, 2240512, 2240768, 2241024, 2241280, 2241536, 2241792, 2242048, 2242304, 2242560, 2242816, 2243072, 2243328, 2243584, 2243840, 2244096, 2244352, 2244608, 2244864, 2245120, 2245376, 2245632, 2245888, 2246144, 2246400, 2246656, 2246912, 2247168, 2247424, 2247680, 2247936, 2248192, 2248448, 2248704, 2248960, 2249216, 2249472, 2249728, 2249984, 2250240, 2250496, 2250752, 2251008, 2251264, 2251520, 2251776, 2252032, 2252288, 2252544, 2252545, 2252609, 2252610, 2252611, 2252612, 2252613, 2252614, 2252615, 2252616, 2252617, 2252618, 2252619, 2252620, 2252621, 2252622, 2252623, 2252624, 2252625, 2252626, 2252627, 2252628, 2252629, 2252630, 2252631, 2252632, 2252633, 2252634, 2252635, 2252636, 2252637, 2252638, 2252639, 2252640, 2252704, 2252800, 2253056, 2253312, 2253568, 2253824, 2254080, 2254336, 2254592, 2254848, 2255104, 2255360, 2255616, 2255872, 2256128, 2256384, 2256640, 2256896, 2257152, 2257408, 2257664, 2257920, 2258176, 2258432, 2258688, 2258944, 2259200, 2259456, 2259712, 2259968, 2260224, 2260480, 2260736, 2293760, 2359296, 2424832, 2490368, 2555904, 2621440, 2686976, 2752512, 2818048, 2883584, 2949120, 3014656, 3080192, 3145728, 3211264, 3276800, 3342336, 3407872, 3473408, 3538944, 3604480, 3670016, 3735552, 3801088, 3866624, 3932160, 3997696, 4063232, 4128768, 4194304, 4259840, 4325376, 4390912, 4456448, 4521984, 4587520, 4653056, 4718592, 4784128, 4849664, 4915200, 4980736, 5046272, 5111808, 5177344, 5242880, 5308416, 5373952, 5439488, 5505024, 5570560, 5636096, 5701632, 5767168, 5832704, 5898240, 5963776, 6029312, 6094848, 6160384, 6225920, 6242304, 6242560, 6242816, 6243072, 6243328, 6243584, 6243840, 6244096, 6244352, 6244608, 6244864, 6245120, 6245376, 6245632, 6245888, 6246144, 6246400, 6246656, 6246912, 6247168, 6247424, 6247680, 6247936, 6248192, 6248448, 6248704, 6248960, 6249216, 6249472, 6249728, 6249984, 6250240, 6250496, 6266880, 6291456, 6356992, 6422528, 6488064, 6553600, 6619136, 6684672, 6750208, 6815744, 6881280, 6946816, 7012352, 7077888, 7143424, 7208960, 7274496, 7340032, 7405568, 7471104, 7536640, 7602176, 7667712, 7733248, 7798784, 7864320, 7929856, 7995392, 8060928, 8126464, 8192000, 8257536, 8323072]
noncomputable def tOk : Bool := (List.range 257).all fun k => decide (T256.getD k 0 < T256.getD (k + 1) 0)
theorem tOk_ok : tOk = true := by decide +kernel
theorem T_step {k : Nat} (h : k < 257) : T256.getD k 0 < T256.getD (k + 1) 0 := of_decide_eq_true (List.all_eq_true.mp tOk_ok k (List.mem_range.mpr h))
theorem T_mono {i : Nat} : ∀ {j : Nat}, i < j → j ≤ 257 → T256.getD i 0 < T256.getD j 0
  | 0, h, _ => by (first | lia | omega)
  | j + 1, h, hj => by
    have h1 := T_step (k := j) (by (first | lia | omega))
    by_cases e : i = j
    · subst e; exact h1
    · exact Nat.lt_trans (T_mono (i := i) (j := j) (by (first | lia | omega)) (by (first | lia | omega))) h1
theorem unc_tab {c : Int} (h0 : -128 ≤ c) (h1 : c ≤ 511) : (enc 3 (unc c).cps.toList = T256.getD (lrank c).toNat 0 ∧ 0 ≤ lrank c ∧ lrank c ≤ 257) ∧ (unc c).cps.toList.length ≤ 3 ∧ ∀ a ∈ (unc c).cps.toList, a < 254 :=
  code_all (P := fun c => (enc 3 (unc c).cps.toList = T256.getD (lrank c).toNat 0 ∧ 0 ≤ lrank c ∧ lrank c ≤ 257) ∧ (unc c).cps.toList.length ≤ 3 ∧ ∀ a ∈ (unc c).cps.toList, a < 254) (by decide +kernel) h0 h1
/-- the writings stand in the order of the ranks -/
theorem unc_lt {c d : Int} (hc0 : -128 ≤ c) (hc1 : c ≤ 511) (hd0 : -128 ≤ d) (hd1 : d ≤ 511) : strLt (unc c) (unc d) = decide (lrank c < lrank d) := by
  obtain ⟨⟨a1, a2, a3⟩, a4, a5⟩ := unc_tab hc0 hc1
  obtain ⟨⟨b1, b2, b3⟩, b4, b5⟩ := unc_tab hd0 hd1
  unfold strLt
  rw [decide_eq_decide, enc_iff 3 _ _ a4 b4 a5 b5, a1, b1]
  rcases Int.lt_trichotomy (lrank c) (lrank d) with h | h | h
  · have := T_mono (i := (lrank c).toNat) (j := (lrank d).toNat) (by (first | lia | omega)) (by (first | lia | omega))
    exact ⟨fun _ => h, fun _ => this⟩
  · rw [h]; constructor <;> intro q <;> (first | lia | omega)
  · have := T_mono (i := (lrank d).toNat) (j := (lrank c).toNat) (by (first | lia | omega)) (by (first | lia | omega))
    constructor <;> intro q <;> (first | lia | omega)
theorem enc_inj : ∀ (k : Nat) (l l' : List Nat), l.length ≤ k → l'.length ≤ k → (∀ a ∈ l, a < 254) → (∀ a ∈ l', a < 254) → enc k l = enc k l' → l = l' := by
  intro k l l' h1 h2 h3 h4 h
  have a := enc_iff k l l' h1 h2 h3 h4
  have b := enc_iff k l' l h2 h1 h4 h3
  have n1 : ¬ l < l' := fun q => by have := a.mp q; (first | lia | omega)
  have n2 : ¬ l' < l := fun q => by have := b.mp q; (first | lia | omega)
  exact List.le_antisymm n2 n1
theorem unc_eq {c d : Int} (hc0 : -128 ≤ c) (hc1 : c ≤ 511) (hd0 : -128 ≤ d) (hd1 : d ≤ 511) : unc c = unc d ↔ lrank c = lrank d := by
  obtain ⟨⟨a1, a2, a3⟩, a4, a5⟩ := unc_tab hc0 hc1
  obtain ⟨⟨b1, b2, b3⟩, b4, b5⟩ := unc_tab hd0 hd1
  constructor
  · intro h
    rw [h] at a1
    rw [a1] at b1
    rcases Int.lt_trichotomy (lrank c) (lrank d) with q | q | q
    · have := T_mono (i := (lrank c).toNat) (j := (lrank d).toNat) (by (first | lia | omega)) (by (first | lia | omega)); (first | lia | omega)
    · exact q
    · have := T_mono (i := (lrank d).toNat) (j := (lrank c).toNat) (by (first | lia | omega)) (by (first | lia | omega)); (first | lia | omega)
  · intro h
    rw [h, ← b1] at a1
    have := enc_inj 3 _ _ a4 b4 a5 b5 a1
    have e : (unc c).cps = (unc d).cps := Array.toList_inj.mp this
    cases hu : unc c; cases hv : unc d
    rw [hu, hv] at e; cases e; rfl
end Mine
end
theorem Mine.start_L2 : True := by
  w_top off
  trivial
section
open PySem PySem.W PySem.Calls PyProof.Rows
set_option maxRecDepth 100000
set_option maxHeartbeats 4000000
namespace Mine
section
variable {w : World} {E : Value → Shared → Prop} {s : Shared} {g : Heap}
theorem back_call {L R : Addr} {its : List Addr} {h0 h' : Heap} {m : Str → Option Value} {news : List (Addr × Obj)} {oL oR : Obj} {sl : Array (Option Value)} (F : Fr g L h0 m) (N : News g L h0 news)
    (hits : ∀ p ∈ news, p.1 ∉ its) (hgi : ∀ a ∈ its, g.get? a = none) (st : Stays (hideAll h0 (L :: its)) h') (hL0 : h0.get? L = some oL) (hL' : h'.get? L = some { oL with slots := sl })
    (hR : h'.get? R = some oR) (hRg : (hideAll h0 (L :: its)).get? R = none) (hRL : R ≠ L) : Fr g L h' m ∧ News g L h' ((R, oR) :: news) ∧ ∀ p ∈ news, p.1 ≠ R := by
  have gL := no_self F
  have kp : ∀ b o, b ≠ L → b ∉ its → h0.get? b = some o → h'.get? b = some o := fun b o x y e => st b o (hideAll_get _ e fun q => (List.mem_cons.mp q).elim x y)
  have kg : ∀ b o, g.get? b = some o → h'.get? b = some o := fun b o e => kp b o (fun q => by rw [q, gL] at e; cases e) (fun q => by rw [hgi _ q] at e; cases e) (F.keep b o e)
  have hn : ∀ p ∈ news, p.1 ≠ R := fun p hp q => by
    have := hideAll_get (L :: its) (N p hp).1 fun x => (List.mem_cons.mp x).elim (N p hp).2.1 (hits p hp)
    rw [q, hRg] at this; cases this
  obtain ⟨o, es, ep, ho, hd, hr⟩ := F.ns
  have e : o = oL := by rw [hL0] at ho; exact (Option.some.inj ho).symm
  refine ⟨⟨⟨{ oL with slots := sl }, es, ep, hL', by rw [← e]; exact hd, hr⟩, kg, F.above⟩, fun p hp => ?_, hn⟩
  rcases List.mem_cons.mp hp with rfl | hp
  · refine ⟨hR, hRL, ?_⟩
    cases q : g.get? R with
    | none => rfl
    | some o =>
      by_cases y : R ∈ its
      · rw [hgi _ y] at q; cases q
      · have := hideAll_get (L :: its) (F.keep _ _ q) fun x => (List.mem_cons.mp x).elim hRL y
        rw [hRg] at this; cases this
  · exact ⟨kp _ _ (N p hp).2.1 (hits p hp) (N p hp).1, (N p hp).2⟩
theorem stays_hideL {L : Addr} {its : List Addr} {h0 : Heap} {m : Str → Option Value} (F : Fr g L h0 m) (hgi : ∀ a ∈ its, g.get? a = none) : Stays g (hideAll h0 (L :: its)) := fun b o e =>
  hideAll_get _ (F.keep b o e) fun q => by
    rcases List.mem_cons.mp q with q | q
    · rw [q, no_self F] at e; cases e
    · rw [hgi _ q] at e; cases e
theorem ns_step_lk {Q : Value → Shared → Prop} {dp un : Nat} {gd : Option (List Code)} {env1 : Env} {mean : ExcName → Option Value} {mg mb : Str → Option Value} {m : Str → Option Value} {news : List (Addr × Obj)}
   {L l c0 : Nat} {n : Int} {tn : Tok} {vs : List Value} {S : Nat → Str} {r : Nat → Int}
   (X : (hd.heap_39 w.params).In g) (T : Top hd.view_39 (looseW hd.view_39 [Str.ofString "nsmallest", Str.ofString "nlargest"]) mean mg mb g)
   (F : Fr g L s.heap m) (N : News g L s.heap news) (hl : (l, listOf vs.toArray c0) ∈ news)
   (hf1 : env1.frame = some L) (hk1 : env1.scope.kind = .function) (hdp : dp + 9 < recursionLimit) (hun : un + 540 < cLine)
   (hN : vs.length < 64) (hN2 : 2 ≤ vs.length) (hn0 : -1 ≤ n) (hn : n < 64)
   (hval : ∀ v ∈ vs, (∃ i t, v = Value.int i t) ∨ (∃ x t, v = Value.str x t))
   (hkey : ∀ i v, vs[i]? = some v → PureSpec 3 w 103 [v] (fun t => .str (S i) t))
   (hr : ∀ i j, i < vs.length → j < vs.length → strLt (S i) (S j) = decide (r i < r j)) (hre : ∀ i j, i < vs.length → j < vs.length → (S i = S j ↔ r i = r j))
   (ret : ∀ h' tk' (R : Nat) cc, Fr g L h' m → News g L h' ((R, listOf (((ord r vs.length).take n.toNat).map fun i => vs.getD i Value.none).toArray cc) :: news) → (∀ p ∈ news, p.1 ≠ R) → Q (.ref R) { s with heap := h', toks := tk' }) :
   wpAny (model PySem.Challenge.rw_mq0307_01.row.prog w) (AR dp un gd [env1]) (call (.ref 76) [.int n tn, .ref l] [(Str.ofString "key", .ref 103)]) Q E s := by
  obtain ⟨oL, es, ep, hL, hd, hr0⟩ := id F.ns
  have hgi' : ∀ a ∈ ([] : List Addr), g.get? a = none := (fun a ha => nomatch ha)
  have hits : ∀ p ∈ news, p.1 ∉ ([] : List Addr) := (fun p hp q => nomatch q)
  have st := stays_hideL (its := []) F hgi'
  refine ns_call_lk (g := hideAll s.heap (L :: [])) (L := L) (l := l) (c0 := c0) (oL := oL) (vs := vs) (S := S) (r := r) (X.keeps st) (T.keeps st) (stays_hide _ _) (Nat.le_of_eq (hideAll_size _ _)) (hideAll_none _ (.head _)) hL (isDict_nf hd) hf1 hk1 hdp hun (hideAll_get _ (N _ hl).1 fun x => (List.mem_cons.mp x).elim (N _ hl).2.1 (hits _ hl)) hN hN2 hn0 hn hval hkey hr hre fun h' tk' R cc sl a1 a2 a3 a4 a5 => ?_
  obtain ⟨F', N', hne'⟩ := back_call F N hits hgi' a1 hL a2 a3 a4 a5
  exact ret h' tk' R cc F' N' hne'
theorem ns_step_ik {Q : Value → Shared → Prop} {dp un : Nat} {gd : Option (List Code)} {env1 : Env} {mean : ExcName → Option Value} {mg mb : Str → Option Value} {m : Str → Option Value} {news : List (Addr × Obj)}
   {L l it c0 : Nat} {n : Int} {tn : Tok} {vs : List Value} {S : Nat → Str} {r : Nat → Int}
   (X : (hd.heap_39 w.params).In g) (T : Top hd.view_39 (looseW hd.view_39 [Str.ofString "nsmallest", Str.ofString "nlargest"]) mean mg mb g)
   (F : Fr g L s.heap m) (N : News g L s.heap news) (hl : (l, listOf vs.toArray c0) ∈ news)
   (hI : s.heap.get? it = some (litObj (.ref l) 0)) (hgi : g.get? it = none) (hIL : it ≠ L) (hne : ∀ p ∈ news, p.1 ≠ it)
   (hf1 : env1.frame = some L) (hk1 : env1.scope.kind = .function) (hdp : dp + 9 < recursionLimit) (hun : un + 540 < cLine)
   (hN : vs.length < 64) (hN2 : vs.length = 0 ∨ 2 ≤ vs.length) (hn0 : -1 ≤ n) (hn : n < 64)
   (hval : ∀ v ∈ vs, (∃ i t, v = Value.int i t) ∨ (∃ x t, v = Value.str x t))
   (hkey : ∀ i v, vs[i]? = some v → PureSpec 3 w 103 [v] (fun t => .str (S i) t))
   (hr : ∀ i j, i < vs.length → j < vs.length → strLt (S i) (S j) = decide (r i < r j)) (hre : ∀ i j, i < vs.length → j < vs.length → (S i = S j ↔ r i = r j))
   (ret : ∀ h' tk' (R : Nat) cc, Fr g L h' m → News g L h' ((R, listOf (((ord r vs.length).take n.toNat).map fun i => vs.getD i Value.none).toArray cc) :: news) → (∀ p ∈ news, p.1 ≠ R) → Q (.ref R) { s with heap := h', toks := tk' }) :
   wpAny (model PySem.Challenge.rw_mq0307_01.row.prog w) (AR dp un gd [env1]) (call (.ref 76) [.int n tn, .ref it] [(Str.ofString "key", .ref 103)]) Q E s := by
  obtain ⟨oL, es, ep, hL, hd, hr0⟩ := id F.ns
  have hgi' : ∀ a ∈ ([it] : List Addr), g.get? a = none := (fun a ha => by rw [List.mem_singleton.mp ha]; exact hgi)
  have hits : ∀ p ∈ news, p.1 ∉ ([it] : List Addr) := (fun p hp q => hne p hp (List.mem_singleton.mp q))
  have st := stays_hideL (its := [it]) F hgi'
  refine ns_call_ik (g := hideAll s.heap (L :: [it])) (L := L) (l := l) (it := it) (c0 := c0) (oL := oL) (vs := vs) (S := S) (r := r) (X.keeps st) (T.keeps st) (stays_hide _ _) (Nat.le_of_eq (hideAll_size _ _)) (hideAll_none _ (.head _)) hL (isDict_nf hd) (hideAll_none _ (.tail _ (.head _))) hI hIL hf1 hk1 hdp hun (hideAll_get _ (N _ hl).1 fun x => (List.mem_cons.mp x).elim (N _ hl).2.1 (hits _ hl)) hN hN2 hn0 hn hval hkey hr hre fun h' tk' R cc sl a1 a2 a3 a4 a5 => ?_
  obtain ⟨F', N', hne'⟩ := back_call F N hits hgi' a1 hL a2 a3 a4 a5
  exact ret h' tk' R cc F' N' hne'
theorem ns_step_ln {Q : Value → Shared → Prop} {dp un : Nat} {gd : Option (List Code)} {env1 : Env} {mean : ExcName → Option Value} {mg mb : Str → Option Value} {m : Str → Option Value} {news : List (Addr × Obj)}
   {L l c0 : Nat} {n : Int} {tn : Tok} {vs : List Value} {S : Nat → Str} {r : Nat → Int}
   (X : (hd.heap_39 w.params).In g) (T : Top hd.view_39 (looseW hd.view_39 [Str.ofString "nsmallest", Str.ofString "nlargest"]) mean mg mb g)
   (F : Fr g L s.heap m) (N : News g L s.heap news) (hl : (l, listOf vs.toArray c0) ∈ news)
   (hf1 : env1.frame = some L) (hk1 : env1.scope.kind = .function) (hdp : dp + 9 < recursionLimit) (hun : un + 540 < cLine)
   (hN : vs.length < 64) (hN2 : 2 ≤ vs.length) (hn0 : -1 ≤ n) (hn : n < 64)
   (hkey : ∀ i v, vs[i]? = some v → ∃ t, v = Value.str (S i) t)
   (hr : ∀ i j, i < vs.length → j < vs.length → strLt (S i) (S j) = decide (r i < r j)) (hre : ∀ i j, i < vs.length → j < vs.length → (S i = S j ↔ r i = r j))
   (ret : ∀ h' tk' (R : Nat) cc, Fr g L h' m → News g L h' ((R, listOf (((ord r vs.length).take n.toNat).map fun i => vs.getD i Value.none).toArray cc) :: news) → (∀ p ∈ news, p.1 ≠ R) → Q (.ref R) { s with heap := h', toks := tk' }) :
   wpAny (model PySem.Challenge.rw_mq0307_01.row.prog w) (AR dp un gd [env1]) (call (.ref 76) [.int n tn, .ref l]) Q E s := by
  obtain ⟨oL, es, ep, hL, hd, hr0⟩ := id F.ns
  have hgi' : ∀ a ∈ ([] : List Addr), g.get? a = none := (fun a ha => nomatch ha)
  have hits : ∀ p ∈ news, p.1 ∉ ([] : List Addr) := (fun p hp q => nomatch q)
  have st := stays_hideL (its := []) F hgi'
  refine ns_call_ln (g := hideAll s.heap (L :: [])) (L := L) (l := l) (c0 := c0) (oL := oL) (vs := vs) (S := S) (r := r) (X.keeps st) (T.keeps st) (stays_hide _ _) (Nat.le_of_eq (hideAll_size _ _)) (hideAll_none _ (.head _)) hL (isDict_nf hd) hf1 hk1 hdp hun (hideAll_get _ (N _ hl).1 fun x => (List.mem_cons.mp x).elim (N _ hl).2.1 (hits _ hl)) hN hN2 hn0 hn hkey hr hre fun h' tk' R cc sl a1 a2 a3 a4 a5 => ?_
  obtain ⟨F', N', hne'⟩ := back_call F N hits hgi' a1 hL a2 a3 a4 a5
  exact ret h' tk' R cc F' N' hne'
theorem ns_step_in {Q : Value → Shared → Prop} {dp un : Nat} {gd : Option (List Code)} {env1 : Env} {mean : ExcName → Option Value} {mg mb : Str → Option Value} {m : Str → Option Value} {news : List (Addr × Obj)}
   {L l it c0 : Nat} {n : Int} {tn : Tok} {vs : List Value} {S : Nat → Str} {r : Nat → Int}
   (X : (hd.heap_39 w.params).In g) (T : Top hd.view_39 (looseW hd.view_39 [Str.ofString "nsmallest", Str.ofString "nlargest"]) mean mg mb g)
   (F : Fr g L s.heap m) (N : News g L s.heap news) (hl : (l, listOf vs.toArray c0) ∈ news)
   (hI : s.heap.get? it = some (litObj (.ref l) 0)) (hgi : g.get? it = none) (hIL : it ≠ L) (hne : ∀ p ∈ news, p.1 ≠ it)
   (hf1 : env1.frame = some L) (hk1 : env1.scope.kind = .function) (hdp : dp + 9 < recursionLimit) (hun : un + 540 < cLine)
   (hN : vs.length < 64) (hN2 : vs.length = 0 ∨ 2 ≤ vs.length) (hn0 : -1 ≤ n) (hn : n < 64)
   (hkey : ∀ i v, vs[i]? = some v → ∃ t, v = Value.str (S i) t)
   (hr : ∀ i j, i < vs.length → j < vs.length → strLt (S i) (S j) = decide (r i < r j)) (hre : ∀ i j, i < vs.length → j < vs.length → (S i = S j ↔ r i = r j))
   (ret : ∀ h' tk' (R : Nat) cc, Fr g L h' m → News g L h' ((R, listOf (((ord r vs.length).take n.toNat).map fun i => vs.getD i Value.none).toArray cc) :: news) → (∀ p ∈ news, p.1 ≠ R) → Q (.ref R) { s with heap := h', toks := tk' }) :
   wpAny (model PySem.Challenge.rw_mq0307_01.row.prog w) (AR dp un gd [env1]) (call (.ref 76) [.int n tn, .ref it]) Q E s := by
  obtain ⟨oL, es, ep, hL, hd, hr0⟩ := id F.ns
  have hgi' : ∀ a ∈ ([it] : List Addr), g.get? a = none := (fun a ha => by rw [List.mem_singleton.mp ha]; exact hgi)
  have hits : ∀ p ∈ news, p.1 ∉ ([it] : List Addr) := (fun p hp q => hne p hp (List.mem_singleton.mp q))
  have st := stays_hideL (its := [it]) F hgi'
  refine ns_call_in (g := hideAll s.heap (L :: [it])) (L := L) (l := l) (it := it) (c0 := c0) (oL := oL) (vs := vs) (S := S) (r := r) (X.keeps st) (T.keeps st) (stays_hide _ _) (Nat.le_of_eq (hideAll_size _ _)) (hideAll_none _ (.head _)) hL (isDict_nf hd) (hideAll_none _ (.tail _ (.head _))) hI hIL hf1 hk1 hdp hun (hideAll_get _ (N _ hl).1 fun x => (List.mem_cons.mp x).elim (N _ hl).2.1 (hits _ hl)) hN hN2 hn0 hn hkey hr hre fun h' tk' R cc sl a1 a2 a3 a4 a5 => ?_
  obtain ⟨F', N', hne'⟩ := back_call F N hits hgi' a1 hL a2 a3 a4 a5
  exact ret h' tk' R cc F' N' hne'
theorem nl_step_lk {Q : Value → Shared → Prop} {dp un : Nat} {gd : Option (List Code)} {env1 : Env} {mean : ExcName → Option Value} {mg mb : Str → Option Value} {m : Str → Option Value} {news : List (Addr × Obj)}
   {L l c0 : Nat} {n : Int} {tn : Tok} {vs : List Value} {S : Nat → Str} {r : Nat → Int}
   (X : (hd.heap_39 w.params).In g) (T : Top hd.view_39 (looseW hd.view_39 [Str.ofString "nsmallest", Str.ofString "nlargest"]) mean mg mb g)
   (F : Fr g L s.heap m) (N : News g L s.heap news) (hl : (l, listOf vs.toArray c0) ∈ news)
   (hf1 : env1.frame = some L) (hk1 : env1.scope.kind = .function) (hdp : dp + 9 < recursionLimit) (hun : un + 540 < cLine)
   (hN : vs.length < 64) (hN2 : 2 ≤ vs.length) (hn0 : -1 ≤ n) (hn : n < 64)
   (hval : ∀ v ∈ vs, (∃ i t, v = Value.int i t) ∨ (∃ x t, v = Value.str x t))
   (hkey : ∀ i v, vs[i]? = some v → PureSpec 3 w 103 [v] (fun t => .str (S i) t))
   (hr : ∀ i j, i < vs.length → j < vs.length → strLt (S i) (S j) = decide (r j < r i)) (hre : ∀ i j, i < vs.length → j < vs.length → (S i = S j ↔ r i = r j))
   (ret : ∀ h' tk' (R : Nat) cc, Fr g L h' m → News g L h' ((R, listOf (((ord r vs.length).take n.toNat).map fun i => vs.getD i Value.none).toArray cc) :: news) → (∀ p ∈ news, p.1 ≠ R) → Q (.ref R) { s with heap := h', toks := tk' }) :
   wpAny (model PySem.Challenge.rw_mq0307_01.row.prog w) (AR dp un gd [env1]) (call (.ref 82) [.int n tn, .ref l] [(Str.ofString "key", .ref 103)]) Q E s := by
  obtain ⟨oL, es, ep, hL, hd, hr0⟩ := id F.ns
  have hgi' : ∀ a ∈ ([] : List Addr), g.get? a = none := (fun a ha => nomatch ha)
  have hits : ∀ p ∈ news, p.1 ∉ ([] : List Addr) := (fun p hp q => nomatch q)
  have st := stays_hideL (its := []) F hgi'
  refine nl_call_lk (g := hideAll s.heap (L :: [])) (L := L) (l := l) (c0 := c0) (oL := oL) (vs := vs) (S := S) (r := r) (X.keeps st) (T.keeps st) (stays_hide _ _) (Nat.le_of_eq (hideAll_size _ _)) (hideAll_none _ (.head _)) hL (isDict_nf hd) hf1 hk1 hdp hun (hideAll_get _ (N _ hl).1 fun x => (List.mem_cons.mp x).elim (N _ hl).2.1 (hits _ hl)) hN hN2 hn0 hn hval hkey hr hre fun h' tk' R cc sl a1 a2 a3 a4 a5 => ?_
  obtain ⟨F', N', hne'⟩ := back_call F N hits hgi' a1 hL a2 a3 a4 a5
  exact ret h' tk' R cc F' N' hne'
theorem nl_step_ik {Q : Value → Shared → Prop} {dp un : Nat} {gd : Option (List Code)} {env1 : Env} {mean : ExcName → Option Value} {mg mb : Str → Option Value} {m : Str → Option Value} {news : List (Addr × Obj)}
   {L l it c0 : Nat} {n : Int} {tn : Tok} {vs : List Value} {S : Nat → Str} {r : Nat → Int}
   (X : (hd.heap_39 w.params).In g) (T : Top hd.view_39 (looseW hd.view_39 [Str.ofString "nsmallest", Str.ofString "nlargest"]) mean mg mb g)
   (F : Fr g L s.heap m) (N : News g L s.heap news) (hl : (l, listOf vs.toArray c0) ∈ news)
   (hI : s.heap.get? it = some (litObj (.ref l) 0)) (hgi : g.get? it = none) (hIL : it ≠ L) (hne : ∀ p ∈ news, p.1 ≠ it)
   (hf1 : env1.frame = some L) (hk1 : env1.scope.kind = .function) (hdp : dp + 9 < recursionLimit) (hun : un + 540 < cLine)
   (hN : vs.length < 64) (hN2 : vs.length = 0 ∨ 2 ≤ vs.length) (hn0 : -1 ≤ n) (hn : n < 64)
   (hval : ∀ v ∈ vs, (∃ i t, v = Value.int i t) ∨ (∃ x t, v = Value.str x t))
   (hkey : ∀ i v, vs[i]? = some v → PureSpec 3 w 103 [v] (fun t => .str (S i) t))
   (hr : ∀ i j, i < vs.length → j < vs.length → strLt (S i) (S j) = decide (r j < r i)) (hre : ∀ i j, i < vs.length → j < vs.length → (S i = S j ↔ r i = r j))
   (ret : ∀ h' tk' (R : Nat) cc, Fr g L h' m → News g L h' ((R, listOf (((ord r vs.length).take n.toNat).map fun i => vs.getD i Value.none).toArray cc) :: news) → (∀ p ∈ news, p.1 ≠ R) → Q (.ref R) { s with heap := h', toks := tk' }) :
   wpAny (model PySem.Challenge.rw_mq0307_01.row.prog w) (AR dp un gd [env1]) (call (.ref 82) [.int n tn, .ref it] [(Str.ofString "key", .ref 103)]) Q E s := by
  obtain ⟨oL, es, ep, hL, hd, hr0⟩ := id F.ns
  have hgi' : ∀ a ∈ ([it] : List Addr), g.get? a = none := (fun a ha => by rw [List.mem_singleton.mp ha]; exact hgi)
  have hits : ∀ p ∈ news, p.1 ∉ ([it] : List Addr) := (fun p hp q => hne p hp (List.mem_singleton.mp q))
  have st := stays_hideL (its := [it]) F hgi'
  refine nl_call_ik (g := hideAll s.heap (L :: [it])) (L := L) (l := l) (it := it) (c0 := c0) (oL := oL) (vs := vs) (S := S) (r := r) (X.keeps st) (T.keeps st) (stays_hide _ _) (Nat.le_of_eq (hideAll_size _ _)) (hideAll_none _ (.head _)) hL (isDict_nf hd) (hideAll_none _ (.tail _ (.head _))) hI hIL hf1 hk1 hdp hun (hideAll_get _ (N _ hl).1 fun x => (List.mem_cons.mp x).elim (N _ hl).2.1 (hits _ hl)) hN hN2 hn0 hn hval hkey hr hre fun h' tk' R cc sl a1 a2 a3 a4 a5 => ?_
  obtain ⟨F', N', hne'⟩ := back_call F N hits hgi' a1 hL a2 a3 a4 a5
  exact ret h' tk' R cc F' N' hne'
theorem nl_step_ln {Q : Value → Shared → Prop} {dp un : Nat} {gd : Option (List Code)} {env1 : Env} {mean : ExcName → Option Value} {mg mb : Str → Option Value} {m : Str → Option Value} {news : List (Addr × Obj)}
   {L l c0 : Nat} {n : Int} {tn : Tok} {vs : List Value} {S : Nat → Str} {r : Nat → Int}
   (X : (hd.heap_39 w.params).In g) (T : Top hd.view_39 (looseW hd.view_39 [Str.ofString "nsmallest", Str.ofString "nlargest"]) mean mg mb g)
   (F : Fr g L s.heap m) (N : News g L s.heap news) (hl : (l, listOf vs.toArray c0) ∈ news)
   (hf1 : env1.frame = some L) (hk1 : env1.scope.kind = .function) (hdp : dp + 9 < recursionLimit) (hun : un + 540 < cLine)
   (hN : vs.length < 64) (hN2 : 2 ≤ vs.length) (hn0 : -1 ≤ n) (hn : n < 64)
   (hkey : ∀ i v, vs[i]? = some v → ∃ t, v = Value.str (S i) t)
   (hr : ∀ i j, i < vs.length → j < vs.length → strLt (S i) (S j) = decide (r j < r i)) (hre : ∀ i j, i < vs.length → j < vs.length → (S i = S j ↔ r i = r j))
   (ret : ∀ h' tk' (R : Nat) cc, Fr g L h' m → News g L h' ((R, listOf (((ord r vs.length).take n.toNat).map fun i => vs.getD i Value.none).toArray cc) :: news) → (∀ p ∈ news, p.1 ≠ R) → Q (.ref R) { s with heap := h', toks := tk' }) :
   wpAny (model PySem.Challenge.rw_mq0307_01.row.prog w) (AR dp un gd [env1]) (call (.ref 82) [.int n tn, .ref l]) Q E s := by
  obtain ⟨oL, es, ep, hL, hd, hr0⟩ := id F.ns
  have hgi' : ∀ a ∈ ([] : List Addr), g.get? a = none := (fun a ha => nomatch ha)
  have hits : ∀ p ∈ news, p.1 ∉ ([] : List Addr) := (fun p hp q => nomatch q)
  have st := stays_hideL (its := []) F hgi'
  refine nl_call_ln (g := hideAll s.heap (L :: [])) (L := L) (l := l) (c0 := c0) (oL := oL) (vs := vs) (S := S) (r := r) (X.keeps st) (T.keeps st) (stays_hide _ _) (Nat.le_of_eq (hideAll_size _ _)) (hideAll_none _ (.head _)) hL (isDict_nf hd) hf1 hk1 hdp hun (hideAll_get _ (N _ hl).1 fun x => (List.mem_cons.mp x).elim (N _ hl).2.1 (hits _ hl)) hN hN2 hn0 hn hkey hr hre fun h' tk' R cc sl a1 a2 a3 a4 a5 => ?_
  obtain ⟨F', N', hne'⟩ := back_call F N hits hgi' a1 hL a2 a3 a4 a5
  exact ret h' tk' R cc F' N' hne'
theorem nl_step_in {Q : Value → Shared → Prop} {dp un : Nat} {gd : Option (List Code)} {env1 : Env} {mean : ExcName → Option Value} {mg mb : Str → Option Value} {m : Str → Option Value} {news : List (Addr × Obj)}
   {L l it c0 : Nat} {n : Int} {tn : Tok} {vs : List Value} {S : Nat → Str} {r : Nat → Int}
   (X : (hd.heap_39 w.params).In g) (T : Top hd.view_39 (looseW hd.view_39 [Str.ofString "nsmallest", Str.ofString "nlargest"]) mean mg mb g)
   (F : Fr g L s.heap m) (N : News g L s.heap news) (hl : (l, listOf vs.toArray c0) ∈ news)
   (hI : s.heap.get? it = some (litObj (.ref l) 0)) (hgi : g.get? it = none) (hIL : it ≠ L) (hne : ∀ p ∈ news, p.1 ≠ it)
   (hf1 : env1.frame = some L) (hk1 : env1.scope.kind = .function) (hdp : dp + 9 < recursionLimit) (hun : un + 540 < cLine)
   (hN : vs.length < 64) (hN2 : vs.length = 0 ∨ 2 ≤ vs.length) (hn0 : -1 ≤ n) (hn : n < 64)
   (hkey : ∀ i v, vs[i]? = some v → ∃ t, v = Value.str (S i) t)
   (hr : ∀ i j, i < vs.length → j < vs.length → strLt (S i) (S j) = decide (r j < r i)) (hre : ∀ i j, i < vs.length → j < vs.length → (S i = S j ↔ r i = r j))
   (ret : ∀ h' tk' (R : Nat) cc, Fr g L h' m → News g L h' ((R, listOf (((ord r vs.length).take n.toNat).map fun i => vs.getD i Value.none).toArray cc) :: news) → (∀ p ∈ news, p.1 ≠ R) → Q (.ref R) { s with heap := h', toks := tk' }) :
   wpAny (model PySem.Challenge.rw_mq0307_01.row.prog w) (AR dp un gd [env1]) (call (.ref 82) [.int n tn, .ref it]) Q E s := by
  obtain ⟨oL, es, ep, hL, hd, hr0⟩ := id F.ns
  have hgi' : ∀ a ∈ ([it] : List Addr), g.get? a = none := (fun a ha => by rw [List.mem_singleton.mp ha]; exact hgi)
  have hits : ∀ p ∈ news, p.1 ∉ ([it] : List Addr) := (fun p hp q => hne p hp (List.mem_singleton.mp q))
  have st := stays_hideL (its := [it]) F hgi'
  refine nl_call_in (g := hideAll s.heap (L :: [it])) (L := L) (l := l) (it := it) (c0 := c0) (oL := oL) (vs := vs) (S := S) (r := r) (X.keeps st) (T.keeps st) (stays_hide _ _) (Nat.le_of_eq (hideAll_size _ _)) (hideAll_none _ (.head _)) hL (isDict_nf hd) (hideAll_none _ (.tail _ (.head _))) hI hIL hf1 hk1 hdp hun (hideAll_get _ (N _ hl).1 fun x => (List.mem_cons.mp x).elim (N _ hl).2.1 (hits _ hl)) hN hN2 hn0 hn hkey hr hre fun h' tk' R cc sl a1 a2 a3 a4 a5 => ?_
  obtain ⟨F', N', hne'⟩ := back_call F N hits hgi' a1 hL a2 a3 a4 a5
  exact ret h' tk' R cc F' N' hne'
end
end Mine
end
theorem Mine.start_L3 : True := by
  w_top off
  trivial
section
open PySem PySem.W PySem.Calls PyProof.Rows
set_option maxRecDepth 100000
set_option maxHeartbeats 4000000
namespace Mine
noncomputable def SS (ns : List Int) (i : Nat) : Str := unc (lcode (ns.getD i 0))
noncomputable def rr (tn : Int) (ns : List Int) (i : Nat) : Int := tn * lrank (lcode (ns.getD i 0))
theorem lkey_kind (n : Int) (t : Tok) : (∃ i u, lkey n t = Value.int i u) ∨ ∃ x u, lkey n t = Value.str x u := by
  unfold lkey; split
  · exact .inr ⟨_, _, rfl⟩
  · exact .inl ⟨_, _, rfl⟩
section
variable {w : World}
theorem unctrl_key {n : Int} {t : Tok} : PureSpec 3 w 103 [lkey n t] (fun t => .str (unc (lcode n)) t) := by
  have h0 := lcode_ge n
  have h1 := lcode_le n
  unfold lkey; split
  · rename_i h
    have e : (((lcode n).toNat : Nat) : Int) = lcode n := by (first | lia | omega)
    have := unctrl_str (w := w) (c := (lcode n).toNat) (tc := t) (by (first | lia | omega))
    rw [e] at this
    exact this
  · exact unctrl_int h0 h1
end
theorem row_val {ns : List Int} {vs : List Value} (h : RowOf ns vs) : ∀ v ∈ vs, (∃ i t, v = Value.int i t) ∨ (∃ x t, v = Value.str x t) := fun v hv => by
  obtain ⟨i, hi⟩ := List.getElem?_of_mem hv
  obtain ⟨t, rfl⟩ := h.2 i v hi
  exact lkey_kind _ _
theorem row_key {w : World} {ns : List Int} {vs : List Value} (h : RowOf ns vs) : ∀ i v, vs[i]? = some v → PureSpec 3 w 103 [v] (fun t => .str (SS ns i) t) := fun i v hv => by
  obtain ⟨t, rfl⟩ := h.2 i v hv
  exact unctrl_key
theorem ss_lt (ns : List Int) (N : Nat) : ∀ i j, i < N → j < N → strLt (SS ns i) (SS ns j) = decide (rr 1 ns i < rr 1 ns j) := fun i j _ _ => by
  unfold SS rr
  rw [unc_lt (lcode_ge _) (lcode_le _) (lcode_ge _) (lcode_le _), Int.one_mul, Int.one_mul]
theorem ss_gt (ns : List Int) (N : Nat) : ∀ i j, i < N → j < N → strLt (SS ns i) (SS ns j) = decide (rr (-1) ns j < rr (-1) ns i) := fun i j _ _ => by
  unfold SS rr
  rw [unc_lt (lcode_ge _) (lcode_le _) (lcode_ge _) (lcode_le _), decide_eq_decide]
  (first | lia | omega)
theorem ss_eq (ns : List Int) (N : Nat) (tn : Int) (h : tn = 1 ∨ tn = -1) : ∀ i j, i < N → j < N → (SS ns i = SS ns j ↔ rr tn ns i = rr tn ns j) := fun i j _ _ => by
  unfold SS rr
  rw [unc_eq (lcode_ge _) (lcode_le _) (lcode_ge _) (lcode_le _)]
  rcases h with rfl | rfl <;> (first | lia | omega)
/-- what a key reads as -/
noncomputable def keyD (n : Int) : PyData := if n.fmod 2 = 1 ∧ 0 ≤ lcode n then .str ⟨#[(lcode n).toNat]⟩ else .int (lcode n)
noncomputable def uncD (n : Int) : PyData := .str (unc (lcode n))
noncomputable def outD (f : Int → PyData) (tn : Int) (ns : List Int) (n : Int) : List PyData := ((ord (rr tn ns) ns.length).take n.toNat).map fun i => f (ns.getD i 0)
theorem lkey_reads (h : Heap) (n : Int) (t : Tok) : Reads h (lkey n t) (keyD n) [] := by
  unfold lkey keyD; split
  · exact .str _ _
  · exact .int _ _
theorem readsAll_map {h : Heap} {α : Type} (f : α → PyData) : ∀ {vs : List Value} {as : List α}, vs.length = as.length → (∀ (i : Nat) (v : Value) (a : α), vs[i]? = some v → as[i]? = some a → Reads h v (f a) []) → ReadsAll h vs (as.map f) []
  | [], [], _, _ => .nil
  | v :: vs, a :: as, hl, hx => ReadsAll.cons (as := []) (bs := []) (hx 0 v a rfl rfl) (readsAll_map f (by simpa using hl) fun i v a e1 e2 => hx (i + 1) v a (by simpa using e1) (by simpa using e2))
/-- the numbers in their order -/
noncomputable def outN (tn : Int) (ns : List Int) (n : Int) : List Int := ((ord (rr tn ns) ns.length).take n.toNat).map fun i => ns.getD i 0
theorem outD_eq (f : Int → PyData) (tn : Int) (ns : List Int) (n : Int) : outD f tn ns n = (outN tn ns n).map f := by
  unfold outD outN; rw [List.map_map]; rfl
theorem out_row {ns : List Int} {vs : List Value} (h : RowOf ns vs) (tn n : Int) : ∀ g : Heap, ReadsAll g (((ord (rr tn ns) vs.length).take n.toNat).map fun i => vs.getD i Value.none) ((outN tn ns n).map keyD) [] := fun g => by
  refine readsAll_map keyD (by simp [outN, h.1]) fun i v a e1 e2 => ?_
  unfold outN at e2
  rw [h.1, List.getElem?_map] at e1
  rw [List.getElem?_map] at e2
  cases hk : ((ord (rr tn ns) ns.length).take n.toNat)[i]? with
  | none => rw [hk] at e1; cases e1
  | some k =>
    rw [hk] at e1 e2
    have hm : k < ns.length := ord_mem.mp (List.mem_of_mem_take (List.mem_of_getElem? hk))
    have e3 : vs[k]? = some v := by
      have : vs.getD k Value.none = v := Option.some.inj e1
      rw [← this, List.getD_eq_getElem?_getD]
      rw [List.getElem?_eq_getElem (by rw [h.1]; exact hm)]; rfl
    obtain ⟨t, rfl⟩ := h.2 k v e3
    rw [← Option.some.inj e2]
    exact lkey_reads _ _ _
theorem out_shown {ns : List Int} {us : List Value} (h : ShownOf ns us) (tn n : Int) : ∀ g : Heap, ReadsAll g (((ord (rr tn ns) us.length).take n.toNat).map fun i => us.getD i Value.none) ((outN tn ns n).map uncD) [] := fun g => by
  refine readsAll_map uncD (by simp [outN, h.1]) fun i v a e1 e2 => ?_
  unfold outN at e2
  rw [h.1, List.getElem?_map] at e1
  rw [List.getElem?_map] at e2
  cases hk : ((ord (rr tn ns) ns.length).take n.toNat)[i]? with
  | none => rw [hk] at e1; cases e1
  | some k =>
    rw [hk] at e1 e2
    have hm : k < ns.length := ord_mem.mp (List.mem_of_mem_take (List.mem_of_getElem? hk))
    have e3 : us[k]? = some v := by
      have : us.getD k Value.none = v := Option.some.inj e1
      rw [← this, List.getD_eq_getElem?_getD]
      rw [List.getElem?_eq_getElem (by rw [h.1]; exact hm)]; rfl
    obtain ⟨t, rfl⟩ := h.2 k v e3
    rw [← Option.some.inj e2]
    exact .str _ _
theorem outN_len (tn : Int) (ns : List Int) (n : Int) : (outN tn ns n).length = min n.toNat ns.length := by simp [outN, ord_len]
/-- the list of the due keys -/
theorem keys_num {ns : List Int} {tn n : Int} {ys : List Value} (h : KeysAt ns (fun i => tn * lrank (lcode (ns.getD i 0))) n ys) : RowOf (outN tn ns n) ys := by
  refine ⟨by rw [h.1, outN_len], fun k v e => ?_⟩
  obtain ⟨t, rfl⟩ := h.2 k v e
  have hk : k < min n.toNat ns.length := by have := (List.getElem?_eq_some_iff.mp e).1; rw [h.1] at this; exact this
  refine ⟨t, ?_⟩
  congr 1
  have : (outN tn ns n)[k]? = some (ns.getD ((ord (rr tn ns) ns.length).getD k 0) 0) := by
    unfold outN
    have hk2 : k < (ord (rr tn ns) ns.length).length := by rw [ord_len]; (first | lia | omega)
    rw [List.getElem?_map, List.getElem?_take_of_lt (by (first | lia | omega)), List.getElem?_eq_getElem hk2]
    simp [hk2]
  rw [List.getD_eq_getElem?_getD (l := outN tn ns n), this]; rfl
theorem row_reads {ns : List Int} {vs : List Value} (h : RowOf ns vs) (g : Heap) : ReadsAll g vs (ns.map keyD) [] :=
  readsAll_map keyD h.1 fun i v a e1 e2 => by
    obtain ⟨t, rfl⟩ := h.2 i v e1
    rw [List.getD_eq_getElem?_getD, e2]
    exact lkey_reads _ _ _
theorem shown_reads {ns : List Int} {vs : List Value} (h : ShownOf ns vs) (g : Heap) : ReadsAll g vs (ns.map uncD) [] :=
  readsAll_map uncD h.1 fun i v a e1 e2 => by
    obtain ⟨t, rfl⟩ := h.2 i v e1
    rw [List.getD_eq_getElem?_getD, e2]
    exact .str _ _
end Mine
end
theorem Mine.start_L4 : True := by
  w_top off
  trivial
section
open PySem PySem.W PySem.Calls PyProof.Rows
set_option maxRecDepth 100000
set_option maxHeartbeats 4000000
namespace Mine
section
variable {prog : Program} {w : World} {A : Around} {E : Value → Shared → Prop} {s : Shared} {g : Heap}
/-- a made list that is not bound to a name -/
theorem list_made {L' tk5 c5 : Nat} {h1 h5 : Heap} {mC m : Str → Option Value} {ys : List Value} {news : List (Addr × Obj)} {Q : Value → Shared → Prop}
    (F : Fr g L' h1 m) (N : News g L' h1 news) (hC : h5.Ns (h1.objs.size + 2) mC) (hD : h5.get? (h1.objs.size + 1) = some (listOf ys.toArray c5)) (st : Stays h1 h5)
    (hQ : ∀ (h6 : Heap) (R : Nat), Fr g L' h6 m → News g L' h6 ((R, listOf ys.toArray c5) :: news) → (∀ p ∈ news, p.1 ≠ R) → Q (.ref R) { s with heap := h6, toks := tk5 }) :
    compPost (model prog w) A E none Q (.ref (h1.objs.size + 1)) (h1.objs.size + 2) (.ok .next) { s with heap := h5, toks := tk5 } := by
  have hL1 := ltN F.ns.lt
  have lt1 : ∀ (b : Nat) o, h1.get? b = some o → b < h1.objs.size := fun b o e => ltN (Heap.lt_size e)
  have gne : ∀ (b : Nat) o, h1.get? b = some o → b ≠ h1.objs.size + 2 := fun b o e => neN (by have := lt1 b o e; (first | lia | omega))
  refine post_eval (s := s) hC fun h6 kp6 sz6 => ?_
  have kp : Stays h1 h6 := fun b o e => kp6 b o (gne _ _ e) (st _ _ e)
  refine hQ h6 _ (fr_stays F kp) (fun p hp => ?_) (fun p hp q => ?_)
  · rcases List.mem_cons.mp hp with rfl | hp
    · refine ⟨kp6 _ _ (neN (by (first | lia | omega))) hD, neN (by (first | lia | omega)), ?_⟩
      cases q : g.get? (h1.objs.size + 1) with
      | none => rfl
      | some o => have := lt1 _ _ (F.keep _ _ q); (first | lia | omega)
    · exact ⟨kp _ _ (N p hp).1, (N p hp).2⟩
  · have := lt1 _ _ (N p hp).1
    rw [q] at this; (first | lia | omega)
theorem gr_fr {k dp un : Nat} {gd : Option (List Code)} {env1 : Env} {L : Addr} {h : Heap} {m : Str → Option Value} {mean : ExcName → Option Value} {mg mb : Str → Option Value}
    (X : (hd.heap_39 w.params).In g) (T : Top hd.view_39 (looseW hd.view_39 [Str.ofString "nsmallest", Str.ofString "nlargest"]) mean mg mb g) (F : Fr g L h m)
    (hf1 : env1.frame = some L) (hk1 : env1.scope.kind = .function) (hdp : dp + k < recursionLimit) (hun : un + 60 * k < cLine) : Gr k w (AR dp un gd [env1]) h := by
  obtain ⟨oL, es, ep, hL, hd, _⟩ := F.ns
  exact gr_law X T F.keep hL (isDict_nf hd) (no_self F) hf1 hk1 hdp hun
/-- an iterator over a list of the ledger -/
theorem iter_step {L l c0 : Nat} {vs : List Value} {m : Str → Option Value} {news : List (Addr × Obj)} {Q : Value → Shared → Prop} (F : Fr g L s.heap m) (N : News g L s.heap news) (hl : (l, listOf vs.toArray c0) ∈ news)
    (hQ : ∀ h' (it : Nat), Fr g L h' m → News g L h' news → h'.get? it = some (litObj (.ref l) 0) → g.get? it = none → it ≠ L → (∀ p ∈ news, p.1 ≠ it) → Q (.ref it) { s with heap := h' }) :
    wpAny (model prog w) A (call (.builtin "iter") [.ref l]) Q E s := by
  refine iter_of (wpAny_pyIter_list (items := vs.toArray) ⟨_, (N _ hl).1, rfl, c0, rfl⟩ ?_)
  have NP := News.push F N (litObj (.ref l) 0)
  have z := NP _ (.head _)
  exact hQ _ _ (F.push (litObj (.ref l) 0)) (fun p hp => NP p (.tail _ hp)) z.1 z.2.2 z.2.1 fun p hp => Nat.ne_of_lt (Heap.lt_size (N p hp).1)
theorem news_pick {L : Addr} {h : Heap} {p : Addr × Obj} {news rest : List (Addr × Obj)} (N : News g L h news) (hm : p ∈ news) (R : News g L h rest) : News g L h (p :: rest) := fun q hq => by
  rcases List.mem_cons.mp hq with rfl | hq
  · exact N _ hm
  · exact R q hq
/-- a new object of the ledger -/
theorem news_new {L R : Addr} {h h' : Heap} {m : Str → Option Value} {news : List (Addr × Obj)} {o : Obj} (F : Fr g L h m) (N : News g L h news) (st : Stays h h') (hR : h'.get? R = some o) (hRn : h.get? R = none) :
    Fr g L h' m ∧ News g L h' ((R, o) :: news) := by
  refine ⟨fr_stays F st, fun p hp => ?_⟩
  rcases List.mem_cons.mp hp with rfl | hp
  · refine ⟨hR, fun q => ?_, ?_⟩
    · obtain ⟨oo, _, _, ho, _⟩ := F.ns
      dsimp only at q
      rw [q, ho] at hRn; cases hRn
    · cases q : g.get? R with
      | none => rfl
      | some x => rw [F.keep _ _ q] at hRn; cases hRn
  · exact ⟨st _ _ (N p hp).1, (N p hp).2⟩
end
theorem keyD_lay (n : Int) : (keyD n).canLay0 = true := by
  unfold keyD; split
  · have := lcode_le n
    simp only [PyData.canLay0, PyData.strOk]
    simp; (first | lia | omega)
  · rfl
theorem unc_ok {c : Int} (h0 : -128 ≤ c) (h1 : c ≤ 511) : PyData.strOk (unc c) = true :=
  code_all (P := fun c => PyData.strOk (unc c) = true) (by decide +kernel) h0 h1
theorem uncD_lay (n : Int) : (uncD n).canLay0 = true := by
  unfold uncD
  simp only [PyData.canLay0]
  exact unc_ok (lcode_ge n) (lcode_le n)
theorem keyD_dep (n : Int) : (keyD n).depth = 0 := by unfold keyD; split <;> rfl
theorem uncD_dep (n : Int) : (uncD n).depth = 0 := rfl
theorem map_lay {f : Int → PyData} (h : ∀ n, (f n).canLay0 = true) : ∀ ns : List Int, PyData.canLayAll0 (ns.map f) = true
  | [] => rfl
  | n :: ns => by simp [PyData.canLayAll0, h n, map_lay h ns]
theorem map_dep {f : Int → PyData} (h : ∀ n, (f n).depth = 0) : ∀ ns : List Int, PyData.depthAll (ns.map f) = 0
  | [] => rfl
  | n :: ns => by simp [PyData.depthAll, h n, map_dep h ns]
theorem shaped1 {f : Int → PyData} (h : ∀ n, (f n).canLay0 = true) (h' : ∀ n, (f n).depth = 0) (ns : List Int) : SeqAt.shaped (.list (ns.map f)) = true := by
  simp [SeqAt.shaped, PyData.canLay0, PyData.depth, map_lay h, map_dep h']
theorem shaped3 {f : Int → PyData} (h : ∀ n, (f n).canLay0 = true) (h' : ∀ n, (f n).depth = 0) (ns : List Int) : SeqAt.shaped (.list [.list (ns.map f), .list (ns.map f), .list []]) = true := by
  simp [SeqAt.shaped, PyData.canLay0, PyData.canLayAll0, PyData.depth, PyData.depthAll, map_lay h, map_dep h']
theorem shaped2 {f : Int → PyData} (h : ∀ n, (f n).canLay0 = true) (h' : ∀ n, (f n).depth = 0) (ns : List Int) : SeqAt.shaped (.list [.list (ns.map f), .list (ns.map f)]) = true := by
  simp [SeqAt.shaped, PyData.canLay0, PyData.canLayAll0, PyData.depth, PyData.depthAll, map_lay h, map_dep h']
section
variable {prog : Program} {w : World} {A : Around} {E : Value → Shared → Prop} {s : Shared} {Q : Value → Shared → Prop} {a b : Value} {d : PyData} {as bs : List Addr}
theorem ne_same (ra : Reads s.heap a d as) (rb : Reads s.heap b d bs) (hd : SeqAt.shaped d = true) (hu : A.units + 64 < cLine) (h : Q (.bool false) s) : wpAny (model prog w) A (compareOp .NotEq a b) Q E s := by
  refine ne_dataH ra rb hd hd hu ?_
  rw [SeqAt.eqv_refl _ (SeqAt.canLay_of_shaped hd)]; exact h
theorem eq_same (ra : Reads s.heap a d as) (rb : Reads s.heap b d bs) (hd : SeqAt.shaped d = true) (hu : A.units + 64 < cLine) (h : Q (.bool true) s) : wpAny (model prog w) A (compareOp .Eq a b) Q E s := by
  refine eq_dataH ra rb hd hd hu ?_
  rw [SeqAt.eqv_refl _ (SeqAt.canLay_of_shaped hd)]; exact h
end
theorem reads1 {h : Heap} {a n : Nat} {o : List Value} {D : List PyData} (ha : h.get? a = some (listOf o.toArray n)) (ho : ReadsAll h o D []) : Reads h (.ref a) (.list D) [a] := Reads.list ha rfl rfl ho
theorem reads2 {h : Heap} {a b1 b2 n n1 n2 : Nat} {o1 o2 : List Value} {D1 D2 : List PyData} (ha : h.get? a = some (listOf [.ref b1, .ref b2].toArray n)) (h1 : h.get? b1 = some (listOf o1.toArray n1)) (h2 : h.get? b2 = some (listOf o2.toArray n2))
    (r1 : ReadsAll h o1 D1 []) (r2 : ReadsAll h o2 D2 []) : ∃ as, Reads h (.ref a) (.list [.list D1, .list D2]) as :=
  ⟨_, Reads.list ha rfl rfl (.cons (reads1 h1 r1) (.cons (reads1 h2 r2) .nil))⟩
theorem reads3 {h : Heap} {a b1 b2 b3 n n1 n2 n3 : Nat} {o1 o2 o3 : List Value} {D1 D2 D3 : List PyData} (ha : h.get? a = some (listOf [.ref b1, .ref b2, .ref b3].toArray n)) (h1 : h.get? b1 = some (listOf o1.toArray n1)) (h2 : h.get? b2 = some (listOf o2.toArray n2)) (h3 : h.get? b3 = some (listOf o3.toArray n3))
    (r1 : ReadsAll h o1 D1 []) (r2 : ReadsAll h o2 D2 []) (r3 : ReadsAll h o3 D3 []) : ∃ as, Reads h (.ref a) (.list [.list D1, .list D2, .list D3]) as :=
  ⟨_, Reads.list ha rfl rfl (.cons (reads1 h1 r1) (.cons (reads1 h2 r2) (.cons (reads1 h3 r3) .nil)))⟩
end Mine
end
theorem Mine.start_L8 : True := by
  w_top off
  trivial
section
open PySem PySem.W PySem.Calls PyProof.Rows
set_option maxRecDepth 100000
set_option maxHeartbeats 8000000
namespace Mine
theorem law_s8 {w : World} {g : Heap} {s : Shared} {Q : Flow → Shared → Prop} {E : Value → Shared → Prop} {dp un : Nat} {gd : Option (List Code)} {mean : ExcName → Option Value} {mg mb : Str → Option Value} {A : Around}
   {oc : Value} {od : Option Addr} {osl : Array (Option Value)} {name qual : Str} {params : Arguments} {body tail : List Stmt} {scope : Scope} {dV kV doc pm cdv ct : Value} {an : Option Addr}
   {L f l rw c0 c1 : Nat} {cd : Value} {n : Int} {tn : Tok} {vs row : List Value} {ns : List Int} {m : Str → Option Value}
   {a1 b11 b12 b13 a2 b21 b22 b23 a3 b31 b32 a4 b41 b42 k11 k12 k13 k21 k22 k23 k31 k32 k41 k42 : Nat} {o11 o12 o21 o22 o31 o32 o41 o42 : List Value}
   (hK : (hd.heap_39 w.params).lookup 134 = some ⟨oc, od, .func (fnOf name qual params body scope dV kV doc pm an cdv ct), osl⟩) (ht : body.drop 8 = tail) (hA : A = AR dp un gd [envOf qual scope L f cd])
   (X : (hd.heap_39 w.params).In g) (T : Top hd.view_39 (looseW hd.view_39 [Str.ofString "nsmallest", Str.ofString "nlargest"]) mean mg mb g)
   (F : Fr g L s.heap (fun y => if y = Str.ofString "greatest_shown" then some (.ref a4) else if y = Str.ofString "least_shown" then some (.ref a3) else if y = Str.ofString "greatest" then some (.ref a2) else if y = Str.ofString "least" then some (.ref a1) else if y = Str.ofString "row" then some (.ref rw) else if y = Str.ofString "wish" then some (.int n tn) else if y = Str.ofString "drawn" then some (.ref l) else m y))
   (N : News g L s.heap [(l, listOf vs.toArray c0), (rw, listOf row.toArray c1), (a1, listOf [.ref b11, .ref b12, .ref b13].toArray 0), (b11, listOf o11.toArray k11), (b12, listOf o12.toArray k12), (b13, listOf ([] : List Value).toArray k13),
      (a2, listOf [.ref b21, .ref b22, .ref b23].toArray 0), (b21, listOf o21.toArray k21), (b22, listOf o22.toArray k22), (b23, listOf ([] : List Value).toArray k23),
      (a3, listOf [.ref b31, .ref b32].toArray 0), (b31, listOf o31.toArray k31), (b32, listOf o32.toArray k32), (a4, listOf [.ref b41, .ref b42].toArray 0), (b41, listOf o41.toArray k41), (b42, listOf o42.toArray k42)])
   (hi : IntsAre vs ns) (hrow : RowOf ns row) (hN : ns.length < 64) (hn0 : -1 ≤ n) (hn : n < 64)
   (h11 : ∀ g, ReadsAll g o11 ((outN 1 ns n).map keyD) []) (h12 : ∀ g, ReadsAll g o12 ((outN 1 ns n).map keyD) []) 
   (h21 : ∀ g, ReadsAll g o21 ((outN (-1) ns n).map keyD) []) (h22 : ∀ g, ReadsAll g o22 ((outN (-1) ns n).map keyD) []) 
   (h31 : ∀ g, ReadsAll g o31 ((outN 1 ns n).map uncD) []) (h32 : ∀ g, ReadsAll g o32 ((outN 1 ns n).map uncD) [])
   (h41 : ∀ g, ReadsAll g o41 ((outN (-1) ns n).map uncD) []) (h42 : ∀ g, ReadsAll g o42 ((outN (-1) ns n).map uncD) [])
   (hdp : dp + 12 < recursionLimit) (hun : un + 720 < cLine)
   (ret : ∀ h' tk' m', Fr g L h' m' → Q (.ret (.bool true)) { s with heap := h', toks := tk' }) :
   wpAny (model PySem.Challenge.rw_mq0307_01.row.prog w) A (execs tail (envOf qual scope L f cd)) Q E s := by
  w_strict (
  revert X
  k_fill
  intro X
  have e := lk_inj hK (by k_is : (hd.heap_39 w.params).lookup 134 = some ⟨_, _, .func (fnOf _ _ _ _ _ _ _ _ _ _ _ _), _⟩)
  injection e with e1 e2 e3 e4
  injection e3 with e3
  injection e3 with e5 e6 e7 e8 e9 e10 e11 e12 e13 e14 e15 e16 e17 e18
  injection e8 with e8
  subst_vars
  clear hK e10 e11
  simp only [List.drop_succ_cons, List.drop_zero]
  (try dsimp only) 
  (try k_fold)
  k_with_none
  repeat' ((fail_if_success (with_reducible show wpAny _ _ (call (Value.ref _) _ _) _ _ _)); (first | (k_unfold; (try dsimp only)) | walk1 | (dsimp only; walk1)))
  refine law_due (gr_fr (k := 5) X T F rfl rfl (by (first | lia | omega)) (by (first | lia | omega))) (N (l, listOf vs.toArray c0) (by repeat (first | exact List.Mem.head _ | apply List.Mem.tail))).1 hi hN hn0 hn (.inl rfl) fun h1 tk1 F1a y1 st1 hf1 hfn1 hk1 => ?_
  obtain ⟨F1, N1⟩ := news_new F N st1 hf1 hfn1
  clear F N st1 hf1 hfn1
  have hrow1 := keys_num hk1
  clear hk1
  (try dsimp only at F1 N1)
  repeat' ((fail_if_success (with_reducible show wpAny _ _ (call (Value.ref _) _ _) _ _ _)); (first | (k_unfold; (try dsimp only)) | walk1 | (dsimp only; walk1)))
  rename Fr _ _ _ _ => F2
  rename News _ _ _ _ => N2
  rename Heap => h2
  refine law_due (gr_fr (k := 5) X T F2 rfl rfl (by (first | lia | omega)) (by (first | lia | omega))) (N2 (l, listOf vs.toArray c0) (by repeat (first | exact List.Mem.head _ | apply List.Mem.tail))).1 hi hN hn0 hn (.inr rfl) fun h3 tk3 F2a y2 st3 hf3 hfn3 hk3 => ?_
  obtain ⟨F3, N3⟩ := news_new F2 N2 st3 hf3 hfn3
  clear F2 N2 st3 hf3 hfn3
  have hrow2 := keys_num hk3
  clear hk3
  (try dsimp only at F3 N3)
  repeat' ((fail_if_success (with_reducible show wpAny _ _ (compareOp _ _ _) _ _ _)); (first | (k_unfold; (try dsimp only)) | walk1 | (dsimp only; walk1)))
  rename Fr _ _ _ _ => F4
  rename News _ _ _ _ => N4
  rename Heap => h4
  rename_i ha la hb lla lb llb
  obtain ⟨as1, ra1⟩ := reads3 (N4 (a1, listOf [.ref b11, .ref b12, .ref b13].toArray 0) (by repeat (first | exact List.Mem.head _ | apply List.Mem.tail))).1 (N4 (b11, listOf o11.toArray k11) (by repeat (first | exact List.Mem.head _ | apply List.Mem.tail))).1 (N4 (b12, listOf o12.toArray k12) (by repeat (first | exact List.Mem.head _ | apply List.Mem.tail))).1 (N4 (b13, listOf ([] : List Value).toArray k13) (by repeat (first | exact List.Mem.head _ | apply List.Mem.tail))).1 (h11 _) (h12 _) .nil
  obtain ⟨as2, ra2⟩ := reads3 (N4 _ (.head _)).1 (N4 (F1a, listOf y1.toArray 0) (by repeat (first | exact List.Mem.head _ | apply List.Mem.tail))).1 (N4 (F1a, listOf y1.toArray 0) (by repeat (first | exact List.Mem.head _ | apply List.Mem.tail))).1 (N4 _ (.tail _ (.head _))).1 (row_reads hrow1 _) (row_reads hrow1 _) .nil
  refine ne_same ra1 ra2 (shaped3 keyD_lay keyD_dep _) (by show un + 64 < _; (first | lia | omega)) ?_
  clear ra1 ra2
  repeat' ((fail_if_success (with_reducible show wpAny _ _ (compareOp _ _ _) _ _ _)); (first | (k_unfold; (try dsimp only)) | walk1 | (dsimp only; walk1)))
  rename Fr _ _ _ _ => F5
  rename News _ _ _ _ => N5
  rename Heap => h5
  rename_i lc hc llc ld lld
  obtain ⟨as1, ra1⟩ := reads3 (N5 (a2, listOf [.ref b21, .ref b22, .ref b23].toArray 0) (by repeat (first | exact List.Mem.head _ | apply List.Mem.tail))).1 (N5 (b21, listOf o21.toArray k21) (by repeat (first | exact List.Mem.head _ | apply List.Mem.tail))).1 (N5 (b22, listOf o22.toArray k22) (by repeat (first | exact List.Mem.head _ | apply List.Mem.tail))).1 (N5 (b23, listOf ([] : List Value).toArray k23) (by repeat (first | exact List.Mem.head _ | apply List.Mem.tail))).1 (h21 _) (h22 _) .nil
  obtain ⟨as2, ra2⟩ := reads3 (N5 _ (.head _)).1 (N5 (F2a, listOf y2.toArray 0) (by repeat (first | exact List.Mem.head _ | apply List.Mem.tail))).1 (N5 (F2a, listOf y2.toArray 0) (by repeat (first | exact List.Mem.head _ | apply List.Mem.tail))).1 (N5 _ (.tail _ (.head _))).1 (row_reads hrow2 _) (row_reads hrow2 _) .nil
  refine ne_same ra1 ra2 (shaped3 keyD_lay keyD_dep _) (by show un + 64 < _; (first | lia | omega)) ?_
  clear ra1 ra2
  repeat' ((fail_if_success (with_reducible show wpAny _ _ (compareOp _ _ _) _ _ _)); (fail_if_success (with_reducible show wpAny _ _ (eval (PySem.Expr.ListComp _ _ _ _) _) _ _ _)); (first | (k_unfold; (try dsimp only)) | walk1 | (dsimp only; walk1)))
  refine' eval_comp (cl := []) ?cl1 rfl ?nm1 ?_ ?hs1
  case cl1 => with_unfolding_all rfl
  case nm1 => decide +kernel
  case hs1 => (intro _; rfl)
  walk1
  refine' comp_list (l := F1a) (vs := y1) (c0 := 0) (fun k y => ∃ t, y = Value.str (unc (lcode ((outN 1 ns n).getD k 0))) t) ?c11 ?c21 ?c31 ?c41 ?c51 ?c61 ?c71
  case c11 => rfl
  case c21 => exact (N5 (F1a, listOf y1.toArray 0) (by repeat (first | exact List.Mem.head _ | apply List.Mem.tail))).1
  case c31 => (have := hrow1.1; rw [outN_len] at this; (first | lia | omega))
  case c41 => decide +kernel
  case c51 => rfl
  case c61 =>
    intro k a p6 tk6 m6 hka hns6 st6 Q6 E6 hQ6
    have hC : ∀ b o, h5.get? b = some o → b ≠ h5.objs.size + 2 := fun b o e => neN (by have := ltN (Heap.lt_size e); (first | lia | omega))
    refine wpAny_assign_Name (wpAny_storeName_local rfl hns6 (fun p7 ns7 sb7 => ?_) rfl)
    have st7 : Stays h5 p7 := fun b o e => sb7.extBut b o (hC b o e) (st6 b o e)
    have G7 := fr_stays F5 st7
    have M7 := news_stays N5 st7
    clear F5 N5
    dsimp only
    walk1
    walk1
    walk1
    repeat' ((fail_if_success (with_reducible show wpAny _ _ (eval (PySem.Expr.Name _ _) _) _ _ _)); walk1)
    refine wpAny_Name (wpAny_loadName_local rfl rfl ns7 (if_pos rfl) ?_) (by decide)
    walk1
    (try dsimp only)
    refine ⟨X.keeps G7.keep, ?_⟩
    obtain ⟨ta, rfl⟩ := hrow1.2 k a hka
    refine unctrl_key _ _ _ _ (gr_fr (k := 3) X T G7 rfl rfl (by (first | lia | omega)) (by (first | lia | omega))).less' fun p8 tk8 t8 st8 sz8 => ?_
    exact hQ6 _ p8 _ _ ⟨_, rfl⟩ (ns7.keeps st8) (fun c o hc e => st8 _ _ (sb7.extBut c o hc e))
  case c71 =>
  intro h6x h6tk h6m h6c z1 z1l z1r h6n h6R h6st
  refine list_made F5 N5 h6n h6R h6st fun h6 U1 F6 N6 hne1 => ?_
  clear F5 N5 h6n h6R h6st h6x
  repeat' ((fail_if_success (with_reducible show wpAny _ _ (compareOp _ _ _) _ _ _)); (fail_if_success (with_reducible show wpAny _ _ (eval (PySem.Expr.ListComp _ _ _ _) _) _ _ _)); (first | (k_unfold; (try dsimp only)) | walk1 | (dsimp only; walk1)))
  rename Fr _ _ _ _ => F7
  rename News _ _ _ _ => N7
  rename Heap => h7
  rename_i le he lle lf llf
  obtain ⟨as1, ra1⟩ := reads2 (N7 (a3, listOf [.ref b31, .ref b32].toArray 0) (by repeat (first | exact List.Mem.head _ | apply List.Mem.tail))).1 (N7 (b31, listOf o31.toArray k31) (by repeat (first | exact List.Mem.head _ | apply List.Mem.tail))).1 (N7 (b32, listOf o32.toArray k32) (by repeat (first | exact List.Mem.head _ | apply List.Mem.tail))).1 (h31 _) (h32 _)
  have hs1 : ShownOf (outN 1 ns n) z1 := ⟨by rw [z1l, hrow1.1], z1r⟩
  obtain ⟨as2, ra2⟩ := reads2 (b1 := U1) (b2 := U1) (o1 := z1) (o2 := z1) (N7 _ (.head _)).1 (N7 (U1, listOf z1.toArray h6c) (by repeat (first | exact List.Mem.head _ | apply List.Mem.tail))).1 (N7 (U1, listOf z1.toArray h6c) (by repeat (first | exact List.Mem.head _ | apply List.Mem.tail))).1 (shown_reads hs1 _) (shown_reads hs1 _)
  refine ne_same ra1 ra2 (shaped2 uncD_lay uncD_dep _) (by show un + 64 < _; (first | lia | omega)) ?_
  clear ra1 ra2
  repeat' ((fail_if_success (with_reducible show wpAny _ _ (compareOp _ _ _) _ _ _)); (fail_if_success (with_reducible show wpAny _ _ (eval (PySem.Expr.ListComp _ _ _ _) _) _ _ _)); (first | (k_unfold; (try dsimp only)) | walk1 | (dsimp only; walk1)))
  refine' eval_comp (cl := []) ?cl2 rfl ?nm2 ?_ ?hs2
  case cl2 => with_unfolding_all rfl
  case nm2 => decide +kernel
  case hs2 => (intro _; rfl)
  walk1
  refine' comp_list (l := F2a) (vs := y2) (c0 := 0) (fun k y => ∃ t, y = Value.str (unc (lcode ((outN (-1) ns n).getD k 0))) t) ?c12 ?c22 ?c32 ?c42 ?c52 ?c62 ?c72
  case c12 => rfl
  case c22 => exact (N7 (F2a, listOf y2.toArray 0) (by repeat (first | exact List.Mem.head _ | apply List.Mem.tail))).1
  case c32 => (have := hrow2.1; rw [outN_len] at this; (first | lia | omega))
  case c42 => decide +kernel
  case c52 => rfl
  case c62 =>
    intro k a p6 tk6 m6 hka hns6 st6 Q6 E6 hQ6
    have hC : ∀ b o, h7.get? b = some o → b ≠ h7.objs.size + 2 := fun b o e => neN (by have := ltN (Heap.lt_size e); (first | lia | omega))
    refine wpAny_assign_Name (wpAny_storeName_local rfl hns6 (fun p7 ns7 sb7 => ?_) rfl)
    have st7 : Stays h7 p7 := fun b o e => sb7.extBut b o (hC b o e) (st6 b o e)
    have G7 := fr_stays F7 st7
    have M7 := news_stays N7 st7
    clear F7 N7
    dsimp only
    walk1
    walk1
    walk1
    repeat' ((fail_if_success (with_reducible show wpAny _ _ (eval (PySem.Expr.Name _ _) _) _ _ _)); walk1)
    refine wpAny_Name (wpAny_loadName_local rfl rfl ns7 (if_pos rfl) ?_) (by decide)
    walk1
    (try dsimp only)
    refine ⟨X.keeps G7.keep, ?_⟩
    obtain ⟨ta, rfl⟩ := hrow2.2 k a hka
    refine unctrl_key _ _ _ _ (gr_fr (k := 3) X T G7 rfl rfl (by (first | lia | omega)) (by (first | lia | omega))).less' fun p8 tk8 t8 st8 sz8 => ?_
    exact hQ6 _ p8 _ _ ⟨_, rfl⟩ (ns7.keeps st8) (fun c o hc e => st8 _ _ (sb7.extBut c o hc e))
  case c72 =>
  intro h8x h8tk h8m h8c z2 z2l z2r h8n h8R h8st
  refine list_made F7 N7 h8n h8R h8st fun h8 U2 F8 N8 hne2 => ?_
  clear F7 N7 h8n h8R h8st h8x
  repeat' ((fail_if_success (with_reducible show wpAny _ _ (compareOp _ _ _) _ _ _)); (fail_if_success (with_reducible show wpAny _ _ (eval (PySem.Expr.ListComp _ _ _ _) _) _ _ _)); (first | (k_unfold; (try dsimp only)) | walk1 | (dsimp only; walk1)))
  rename Fr _ _ _ _ => F9
  rename News _ _ _ _ => N9
  rename Heap => h9
  rename_i lg hg llg lh llh
  obtain ⟨as1, ra1⟩ := reads2 (N9 (a4, listOf [.ref b41, .ref b42].toArray 0) (by repeat (first | exact List.Mem.head _ | apply List.Mem.tail))).1 (N9 (b41, listOf o41.toArray k41) (by repeat (first | exact List.Mem.head _ | apply List.Mem.tail))).1 (N9 (b42, listOf o42.toArray k42) (by repeat (first | exact List.Mem.head _ | apply List.Mem.tail))).1 (h41 _) (h42 _)
  have hs2 : ShownOf (outN (-1) ns n) z2 := ⟨by rw [z2l, hrow2.1], z2r⟩
  obtain ⟨as2, ra2⟩ := reads2 (b1 := U2) (b2 := U2) (o1 := z2) (o2 := z2) (N9 _ (.head _)).1 (N9 (U2, listOf z2.toArray h8c) (by repeat (first | exact List.Mem.head _ | apply List.Mem.tail))).1 (N9 (U2, listOf z2.toArray h8c) (by repeat (first | exact List.Mem.head _ | apply List.Mem.tail))).1 (shown_reads hs2 _) (shown_reads hs2 _)
  refine ne_same ra1 ra2 (shaped2 uncD_lay uncD_dep _) (by show un + 64 < _; (first | lia | omega)) ?_
  clear ra1 ra2
  repeat' ((fail_if_success (with_reducible show wpAny _ _ (compareOp _ _ _) _ _ _)); (fail_if_success (with_reducible show wpAny _ _ (eval (PySem.Expr.ListComp _ _ _ _) _) _ _ _)); (first | (k_unfold; (try dsimp only)) | walk1 | (dsimp only; walk1)))
  refine' eval_comp (cl := []) ?cl3 rfl ?nm3 ?_ ?hs3
  case cl3 => with_unfolding_all rfl
  case nm3 => decide +kernel
  case hs3 => (intro _; rfl)
  walk1
  refine' comp_list (l := l) (vs := vs) (c0 := c0) (fun k y => ∃ t, y = lkey (ns.getD k 0) t) ?c13 ?c23 ?c33 ?c43 ?c53 ?c63 ?c73
  case c13 => rfl
  case c23 => exact (N9 (l, listOf vs.toArray c0) (by repeat (first | exact List.Mem.head _ | apply List.Mem.tail))).1
  case c33 => (have := hi.length; (first | lia | omega))
  case c43 => decide +kernel
  case c53 => rfl
  case c63 =>
    intro k a p6 tk6 m6 hka hns6 st6 Q6 E6 hQ6
    have hC : ∀ b o, h9.get? b = some o → b ≠ h9.objs.size + 2 := fun b o e => neN (by have := ltN (Heap.lt_size e); (first | lia | omega))
    refine wpAny_assign_Name (wpAny_storeName_local rfl hns6 (fun p7 ns7 sb7 => ?_) rfl)
    have st7 : Stays h9 p7 := fun b o e => sb7.extBut b o (hC b o e) (st6 b o e)
    have G7 := fr_stays F9 st7
    have M7 := news_stays N9 st7
    clear F9 N9
    dsimp only
    walk1
    walk1
    walk1
    repeat' ((fail_if_success (with_reducible show wpAny _ _ (eval (PySem.Expr.Name _ _) _) _ _ _)); walk1)
    refine wpAny_Name (wpAny_loadName_local rfl rfl ns7 (if_pos rfl) ?_) (by decide)
    walk1
    (try dsimp only)
    refine ⟨X.keeps G7.keep, ?_⟩
    obtain ⟨ta, rfl⟩ := (fun k a e => ints_at hi e) k a hka
    refine law_key_spec _ _ _ _ (gr_fr (k := 3) X T G7 rfl rfl (by (first | lia | omega)) (by (first | lia | omega))).less' fun p8 tk8 t8 st8 sz8 => ?_
    exact hQ6 _ p8 _ _ ⟨_, rfl⟩ (ns7.keeps st8) (fun c o hc e => st8 _ _ (sb7.extBut c o hc e))
  case c73 =>
  intro h10x h10tk h10m h10c z3 z3l z3r h10n h10R h10st
  refine list_made F9 N9 h10n h10R h10st fun h10 U3 F10 N10 hne3 => ?_
  clear F9 N9 h10n h10R h10st h10x
  repeat' ((fail_if_success (with_reducible show wpAny _ _ (compareOp _ _ _) _ _ _)); (fail_if_success (with_reducible show wpAny _ _ (eval (PySem.Expr.ListComp _ _ _ _) _) _ _ _)); (first | (k_unfold; (try dsimp only)) | walk1 | (dsimp only; walk1)))
  obtain ⟨as1, ra1⟩ : ∃ as, Reads h10 (.ref rw) (.list (ns.map keyD)) as := ⟨_, reads1 (N10 (rw, listOf row.toArray c1) (by repeat (first | exact List.Mem.head _ | apply List.Mem.tail))).1 (row_reads hrow _)⟩
  have hr3 : RowOf ns z3 := ⟨by rw [z3l, hi.length], z3r⟩
  obtain ⟨as2, ra2⟩ : ∃ as, Reads h10 (.ref U3) (.list (ns.map keyD)) as := ⟨_, reads1 (N10 _ (.head _)).1 (row_reads hr3 _)⟩
  refine eq_same ra1 ra2 (shaped1 keyD_lay keyD_dep _) (by show un + 64 < _; (first | lia | omega)) ?_
  exact ret _ _ _ F10
  )
end Mine
end
theorem Mine.start_L5 : True := by
  w_top off
  trivial
section
open PySem PySem.W PySem.Calls PyProof.Rows
set_option maxRecDepth 100000
set_option maxHeartbeats 8000000
namespace Mine
theorem law_s4 {w : World} {g : Heap} {s : Shared} {Q : Flow → Shared → Prop} {E : Value → Shared → Prop} {dp un : Nat} {gd : Option (List Code)} {mean : ExcName → Option Value} {mg mb : Str → Option Value} {A : Around}
   {oc : Value} {od : Option Addr} {osl : Array (Option Value)} {name qual : Str} {params : Arguments} {body tail : List Stmt} {scope : Scope} {dV kV doc pm cdv ct : Value} {an : Option Addr}
   {L f l rw sw c0 c1 c2 : Nat} {cd : Value} {n : Int} {tn : Tok} {vs row sh : List Value} {ns : List Int} {m : Str → Option Value}
   (hK : (hd.heap_39 w.params).lookup 134 = some ⟨oc, od, .func (fnOf name qual params body scope dV kV doc pm an cdv ct), osl⟩) (ht : body.drop 4 = tail) (hA : A = AR dp un gd [envOf qual scope L f cd])
   (X : (hd.heap_39 w.params).In g) (T : Top hd.view_39 (looseW hd.view_39 [Str.ofString "nsmallest", Str.ofString "nlargest"]) mean mg mb g)
   (F : Fr g L s.heap (fun y => if y = Str.ofString "shown" then some (.ref sw) else if y = Str.ofString "row" then some (.ref rw) else if y = Str.ofString "wish" then some (.int n tn) else if y = Str.ofString "drawn" then some (.ref l) else m y))
   (N : News g L s.heap [(l, listOf vs.toArray c0), (rw, listOf row.toArray c1), (sw, listOf sh.toArray c2)])
   (hi : IntsAre vs ns) (hrow : RowOf ns row) (hsh : ShownOf ns sh) (hN : ns.length < 64) (hN2 : 2 ≤ ns.length) (hn0 : -1 ≤ n) (hn : n < 64)
   (hdp : dp + 12 < recursionLimit) (hun : un + 720 < cLine)
   (ret : ∀ h' tk' m', Fr g L h' m' → Q (.ret (.bool true)) { s with heap := h', toks := tk' }) :
   wpAny (model PySem.Challenge.rw_mq0307_01.row.prog w) A (execs tail (envOf qual scope L f cd)) Q E s := by
  w_strict (
  revert X
  k_fill
  intro X
  have e := lk_inj hK (by k_is : (hd.heap_39 w.params).lookup 134 = some ⟨_, _, .func (fnOf _ _ _ _ _ _ _ _ _ _ _ _), _⟩)
  injection e with e1 e2 e3 e4
  injection e3 with e3
  injection e3 with e5 e6 e7 e8 e9 e10 e11 e12 e13 e14 e15 e16 e17 e18
  injection e8 with e8
  subst_vars
  clear hK e10 e11
  simp only [List.drop_succ_cons, List.drop_zero]
  (try dsimp only) 
  (try k_fold)
  k_with_none
  have hrl : row.length = ns.length := hrow.1
  have hsl : sh.length = ns.length := hsh.1
  repeat' ((fail_if_success (with_reducible show wpAny _ _ (call (Value.ref _) _ _) _ _ _)); (fail_if_success (with_reducible show wpAny _ _ (call (Value.builtin _) _ _) _ _ _)); (first | (k_unfold; (try dsimp only)) | walk1 | (dsimp only; walk1)))
  rename Fr _ _ _ _ => Fc
  rename News _ _ _ _ => Nc
  show wpAny _ _ (call (Value.ref 76) [Value.int n tn, Value.ref rw] [(Str.ofString "key", .ref 103)]) _ _ _
  refine ns_step_lk (S := SS ns) (r := rr 1 ns) (l := rw) (c0 := c1) (vs := row) X T Fc Nc (by repeat (first | exact List.Mem.head _ | apply List.Mem.tail)) rfl rfl (by (first | lia | omega)) (by (first | lia | omega)) (by (first | lia | omega)) (by (first | lia | omega)) hn0 hn (row_val hrow) (row_key hrow) (ss_lt ns _) (ss_eq ns _ 1 (.inl rfl)) fun h1 tk1 b11 k11 F1 N1 hne1' => ?_
  have ho11 : ∀ g, ReadsAll g (((ord (rr 1 ns) row.length).take n.toNat).map fun i => row.getD i Value.none) ((outN 1 ns n).map keyD) [] := out_row hrow 1 n
  generalize (((ord (rr 1 ns) row.length).take n.toNat).map fun i => row.getD i Value.none) = o11 at ho11 N1
  clear Fc Nc hne1' 
  (try dsimp only)
  repeat' ((fail_if_success (with_reducible show wpAny _ _ (call (Value.ref _) _ _) _ _ _)); (fail_if_success (with_reducible show wpAny _ _ (call (Value.builtin _) _ _) _ _ _)); (fail_if_success (with_reducible show wpAny _ _ (exec (Stmt.Assign _ _ _) _) _ _ _)); (first | (k_unfold; (try dsimp only)) | walk1 | (dsimp only; walk1)))
  rename Fr _ _ _ _ => Fc
  rename News _ _ _ _ => Nc
  refine iter_step (l := rw) (c0 := c1) (vs := row) Fc Nc (by repeat (first | exact List.Mem.head _ | apply List.Mem.tail)) fun hi2 it2 Fi Ni hI2 hgi2 hIL2 hne2 => ?_
  clear Fc Nc
  (try dsimp only)
  repeat' ((fail_if_success (with_reducible show wpAny _ _ (call (Value.ref _) _ _) _ _ _)); (fail_if_success (with_reducible show wpAny _ _ (exec (Stmt.Assign _ _ _) _) _ _ _)); (first | (k_unfold; (try dsimp only)) | walk1 | (dsimp only; walk1)))
  rename Fr _ _ _ _ => Fc
  rename News _ _ _ _ => Nc
  show wpAny _ _ (call (Value.ref 76) [Value.int n tn, Value.ref it2] [(Str.ofString "key", .ref 103)]) _ _ _
  refine ns_step_ik (S := SS ns) (r := rr 1 ns) (l := rw) (it := it2) (c0 := c1) (vs := row) X T Fc Nc (by repeat (first | exact List.Mem.head _ | apply List.Mem.tail)) hI2 hgi2 hIL2 hne2 rfl rfl (by (first | lia | omega)) (by (first | lia | omega)) (by (first | lia | omega)) (.inr (by (first | lia | omega))) hn0 hn (row_val hrow) (row_key hrow) (ss_lt ns _) (ss_eq ns _ 1 (.inl rfl)) fun h2 tk2 b12 k12 F2 N2 hne2' => ?_
  have ho12 : ∀ g, ReadsAll g (((ord (rr 1 ns) row.length).take n.toNat).map fun i => row.getD i Value.none) ((outN 1 ns n).map keyD) [] := out_row hrow 1 n
  generalize (((ord (rr 1 ns) row.length).take n.toNat).map fun i => row.getD i Value.none) = o12 at ho12 N2
  clear Fc Nc hne2' hI2 hgi2 hIL2 hne2
  (try dsimp only)
  repeat' ((fail_if_success (with_reducible show wpAny _ _ (call (Value.ref _) _ _) _ _ _)); (fail_if_success (with_reducible show wpAny _ _ (call (Value.builtin _) _ _) _ _ _)); (fail_if_success (with_reducible show wpAny _ _ (exec (Stmt.Assign _ _ _) _) _ _ _)); (first | (k_unfold; (try dsimp only)) | walk1 | (dsimp only; walk1)))
  rename Fr _ _ _ _ => Fc
  rename News _ _ _ _ => Nc
  rename_i lE3 hE3 llE3
  refine iter_step (l := lE3) (c0 := 0) (vs := ([] : List Value)) Fc Nc (by repeat (first | exact List.Mem.head _ | apply List.Mem.tail)) fun hi3 it3 Fi Ni hI3 hgi3 hIL3 hne3 => ?_
  clear Fc Nc
  (try dsimp only)
  repeat' ((fail_if_success (with_reducible show wpAny _ _ (call (Value.ref _) _ _) _ _ _)); (fail_if_success (with_reducible show wpAny _ _ (exec (Stmt.Assign _ _ _) _) _ _ _)); (first | (k_unfold; (try dsimp only)) | walk1 | (dsimp only; walk1)))
  rename Fr _ _ _ _ => Fc
  rename News _ _ _ _ => Nc
  show wpAny _ _ (call (Value.ref 76) [Value.int n tn, Value.ref it3] [(Str.ofString "key", .ref 103)]) _ _ _
  refine ns_step_ik (S := SS ns) (r := rr 1 ns) (l := lE3) (it := it3) (c0 := 0) (vs := ([] : List Value)) X T Fc Nc (by repeat (first | exact List.Mem.head _ | apply List.Mem.tail)) hI3 hgi3 hIL3 hne3 rfl rfl (by (first | lia | omega)) (by (first | lia | omega)) (by decide) (.inl rfl) hn0 hn (fun v hv => nomatch hv) (fun i v e => nomatch e) (fun i j h => absurd h (Nat.not_lt_zero _)) (fun i j h => absurd h (Nat.not_lt_zero _)) fun h3 tk3 b13 k13 F3 N3 hne3' => ?_
  have eE3 : (((ord (rr 1 ns) ([] : List Value).length).take n.toNat).map fun i => ([] : List Value).getD i Value.none) = [] := by
    rw [List.eq_nil_of_length_eq_zero (l := ord _ ([] : List Value).length) (by rw [ord_len]; rfl)]; simp
  rw [eE3] at N3
  clear Fc Nc hne3' hI3 hgi3 hIL3 hne3
  (try dsimp only)
  repeat' ((fail_if_success (with_reducible show wpAny _ _ (call (Value.ref _) _ _) _ _ _)); (fail_if_success (with_reducible show wpAny _ _ (call (Value.builtin _) _ _) _ _ _)); (fail_if_success (with_reducible show wpAny _ _ (exec (Stmt.Assign _ _ _) _) _ _ _)); (first | (k_unfold; (try dsimp only)) | walk1 | (dsimp only; walk1)))
  rename_i a1 hAa1 lla1 hBa1 FBa1 NBa1
  repeat' ((fail_if_success (with_reducible show wpAny _ _ (call (Value.ref _) _ _) _ _ _)); (fail_if_success (with_reducible show wpAny _ _ (call (Value.builtin _) _ _) _ _ _)); (first | (k_unfold; (try dsimp only)) | walk1 | (dsimp only; walk1)))
  rename Fr _ _ _ _ => Fc
  rename News _ _ _ _ => Nc
  show wpAny _ _ (call (Value.ref 82) [Value.int n tn, Value.ref rw] [(Str.ofString "key", .ref 103)]) _ _ _
  refine nl_step_lk (S := SS ns) (r := rr (-1) ns) (l := rw) (c0 := c1) (vs := row) X T Fc Nc (by repeat (first | exact List.Mem.head _ | apply List.Mem.tail)) rfl rfl (by (first | lia | omega)) (by (first | lia | omega)) (by (first | lia | omega)) (by (first | lia | omega)) hn0 hn (row_val hrow) (row_key hrow) (ss_gt ns _) (ss_eq ns _ (-1) (.inr rfl)) fun h4 tk4 b21 k21 F4 N4 hne4' => ?_
  have ho21 : ∀ g, ReadsAll g (((ord (rr (-1) ns) row.length).take n.toNat).map fun i => row.getD i Value.none) ((outN (-1) ns n).map keyD) [] := out_row hrow (-1) n
  generalize (((ord (rr (-1) ns) row.length).take n.toNat).map fun i => row.getD i Value.none) = o21 at ho21 N4
  clear Fc Nc hne4' 
  (try dsimp only)
  repeat' ((fail_if_success (with_reducible show wpAny _ _ (call (Value.ref _) _ _) _ _ _)); (fail_if_success (with_reducible show wpAny _ _ (call (Value.builtin _) _ _) _ _ _)); (fail_if_success (with_reducible show wpAny _ _ (exec (Stmt.Assign _ _ _) _) _ _ _)); (first | (k_unfold; (try dsimp only)) | walk1 | (dsimp only; walk1)))
  rename Fr _ _ _ _ => Fc
  rename News _ _ _ _ => Nc
  refine iter_step (l := rw) (c0 := c1) (vs := row) Fc Nc (by repeat (first | exact List.Mem.head _ | apply List.Mem.tail)) fun hi5 it5 Fi Ni hI5 hgi5 hIL5 hne5 => ?_
  clear Fc Nc
  (try dsimp only)
  repeat' ((fail_if_success (with_reducible show wpAny _ _ (call (Value.ref _) _ _) _ _ _)); (fail_if_success (with_reducible show wpAny _ _ (exec (Stmt.Assign _ _ _) _) _ _ _)); (first | (k_unfold; (try dsimp only)) | walk1 | (dsimp only; walk1)))
  rename Fr _ _ _ _ => Fc
  rename News _ _ _ _ => Nc
  show wpAny _ _ (call (Value.ref 82) [Value.int n tn, Value.ref it5] [(Str.ofString "key", .ref 103)]) _ _ _
  refine nl_step_ik (S := SS ns) (r := rr (-1) ns) (l := rw) (it := it5) (c0 := c1) (vs := row) X T Fc Nc (by repeat (first | exact List.Mem.head _ | apply List.Mem.tail)) hI5 hgi5 hIL5 hne5 rfl rfl (by (first | lia | omega)) (by (first | lia | omega)) (by (first | lia | omega)) (.inr (by (first | lia | omega))) hn0 hn (row_val hrow) (row_key hrow) (ss_gt ns _) (ss_eq ns _ (-1) (.inr rfl)) fun h5 tk5 b22 k22 F5 N5 hne5' => ?_
  have ho22 : ∀ g, ReadsAll g (((ord (rr (-1) ns) row.length).take n.toNat).map fun i => row.getD i Value.none) ((outN (-1) ns n).map keyD) [] := out_row hrow (-1) n
  generalize (((ord (rr (-1) ns) row.length).take n.toNat).map fun i => row.getD i Value.none) = o22 at ho22 N5
  clear Fc Nc hne5' hI5 hgi5 hIL5 hne5
  (try dsimp only)
  repeat' ((fail_if_success (with_reducible show wpAny _ _ (call (Value.ref _) _ _) _ _ _)); (fail_if_success (with_reducible show wpAny _ _ (call (Value.builtin _) _ _) _ _ _)); (fail_if_success (with_reducible show wpAny _ _ (exec (Stmt.Assign _ _ _) _) _ _ _)); (first | (k_unfold; (try dsimp only)) | walk1 | (dsimp only; walk1)))
  rename Fr _ _ _ _ => Fc
  rename News _ _ _ _ => Nc
  rename_i lE6 hE6 llE6
  refine iter_step (l := lE6) (c0 := 0) (vs := ([] : List Value)) Fc Nc (by repeat (first | exact List.Mem.head _ | apply List.Mem.tail)) fun hi6 it6 Fi Ni hI6 hgi6 hIL6 hne6 => ?_
  clear Fc Nc
  (try dsimp only)
  repeat' ((fail_if_success (with_reducible show wpAny _ _ (call (Value.ref _) _ _) _ _ _)); (fail_if_success (with_reducible show wpAny _ _ (exec (Stmt.Assign _ _ _) _) _ _ _)); (first | (k_unfold; (try dsimp only)) | walk1 | (dsimp only; walk1)))
  rename Fr _ _ _ _ => Fc
  rename News _ _ _ _ => Nc
  show wpAny _ _ (call (Value.ref 82) [Value.int n tn, Value.ref it6] [(Str.ofString "key", .ref 103)]) _ _ _
  refine nl_step_ik (S := SS ns) (r := rr (-1) ns) (l := lE6) (it := it6) (c0 := 0) (vs := ([] : List Value)) X T Fc Nc (by repeat (first | exact List.Mem.head _ | apply List.Mem.tail)) hI6 hgi6 hIL6 hne6 rfl rfl (by (first | lia | omega)) (by (first | lia | omega)) (by decide) (.inl rfl) hn0 hn (fun v hv => nomatch hv) (fun i v e => nomatch e) (fun i j h => absurd h (Nat.not_lt_zero _)) (fun i j h => absurd h (Nat.not_lt_zero _)) fun h6 tk6 b23 k23 F6 N6 hne6' => ?_
  have eE6 : (((ord (rr (-1) ns) ([] : List Value).length).take n.toNat).map fun i => ([] : List Value).getD i Value.none) = [] := by
    rw [List.eq_nil_of_length_eq_zero (l := ord _ ([] : List Value).length) (by rw [ord_len]; rfl)]; simp
  rw [eE6] at N6
  clear Fc Nc hne6' hI6 hgi6 hIL6 hne6
  (try dsimp only)
  repeat' ((fail_if_success (with_reducible show wpAny _ _ (call (Value.ref _) _ _) _ _ _)); (fail_if_success (with_reducible show wpAny _ _ (call (Value.builtin _) _ _) _ _ _)); (fail_if_success (with_reducible show wpAny _ _ (exec (Stmt.Assign _ _ _) _) _ _ _)); (first | (k_unfold; (try dsimp only)) | walk1 | (dsimp only; walk1)))
  rename_i a2 hAa2 lla2 hBa2 FBa2 NBa2
  repeat' ((fail_if_success (with_reducible show wpAny _ _ (call (Value.ref _) _ _) _ _ _)); (fail_if_success (with_reducible show wpAny _ _ (call (Value.builtin _) _ _) _ _ _)); (first | (k_unfold; (try dsimp only)) | walk1 | (dsimp only; walk1)))
  rename Fr _ _ _ _ => Fc
  rename News _ _ _ _ => Nc
  show wpAny _ _ (call (Value.ref 76) [Value.int n tn, Value.ref sw]) _ _ _
  refine ns_step_ln (S := SS ns) (r := rr 1 ns) (l := sw) (c0 := c2) (vs := sh) X T Fc Nc (by repeat (first | exact List.Mem.head _ | apply List.Mem.tail)) rfl rfl (by (first | lia | omega)) (by (first | lia | omega)) (by (first | lia | omega)) (by (first | lia | omega)) hn0 hn (fun i v e => hsh.2 i v e) (ss_lt ns _) (ss_eq ns _ 1 (.inl rfl)) fun h7 tk7 b31 k31 F7 N7 hne7' => ?_
  have ho31 : ∀ g, ReadsAll g (((ord (rr 1 ns) sh.length).take n.toNat).map fun i => sh.getD i Value.none) ((outN 1 ns n).map uncD) [] := out_shown hsh 1 n
  generalize (((ord (rr 1 ns) sh.length).take n.toNat).map fun i => sh.getD i Value.none) = o31 at ho31 N7
  clear Fc Nc hne7' 
  (try dsimp only)
  repeat' ((fail_if_success (with_reducible show wpAny _ _ (call (Value.ref _) _ _) _ _ _)); (fail_if_success (with_reducible show wpAny _ _ (call (Value.builtin _) _ _) _ _ _)); (fail_if_success (with_reducible show wpAny _ _ (exec (Stmt.Assign _ _ _) _) _ _ _)); (first | (k_unfold; (try dsimp only)) | walk1 | (dsimp only; walk1)))
  rename Fr _ _ _ _ => Fc
  rename News _ _ _ _ => Nc
  refine iter_step (l := sw) (c0 := c2) (vs := sh) Fc Nc (by repeat (first | exact List.Mem.head _ | apply List.Mem.tail)) fun hi8 it8 Fi Ni hI8 hgi8 hIL8 hne8 => ?_
  clear Fc Nc
  (try dsimp only)
  repeat' ((fail_if_success (with_reducible show wpAny _ _ (call (Value.ref _) _ _) _ _ _)); (fail_if_success (with_reducible show wpAny _ _ (exec (Stmt.Assign _ _ _) _) _ _ _)); (first | (k_unfold; (try dsimp only)) | walk1 | (dsimp only; walk1)))
  rename Fr _ _ _ _ => Fc
  rename News _ _ _ _ => Nc
  show wpAny _ _ (call (Value.ref 76) [Value.int n tn, Value.ref it8]) _ _ _
  refine ns_step_in (S := SS ns) (r := rr 1 ns) (l := sw) (it := it8) (c0 := c2) (vs := sh) X T Fc Nc (by repeat (first | exact List.Mem.head _ | apply List.Mem.tail)) hI8 hgi8 hIL8 hne8 rfl rfl (by (first | lia | omega)) (by (first | lia | omega)) (by (first | lia | omega)) (.inr (by (first | lia | omega))) hn0 hn (fun i v e => hsh.2 i v e) (ss_lt ns _) (ss_eq ns _ 1 (.inl rfl)) fun h8 tk8 b32 k32 F8 N8 hne8' => ?_
  have ho32 : ∀ g, ReadsAll g (((ord (rr 1 ns) sh.length).take n.toNat).map fun i => sh.getD i Value.none) ((outN 1 ns n).map uncD) [] := out_shown hsh 1 n
  generalize (((ord (rr 1 ns) sh.length).take n.toNat).map fun i => sh.getD i Value.none) = o32 at ho32 N8
  clear Fc Nc hne8' hI8 hgi8 hIL8 hne8
  (try dsimp only)
  repeat' ((fail_if_success (with_reducible show wpAny _ _ (call (Value.ref _) _ _) _ _ _)); (fail_if_success (with_reducible show wpAny _ _ (call (Value.builtin _) _ _) _ _ _)); (fail_if_success (with_reducible show wpAny _ _ (exec (Stmt.Assign _ _ _) _) _ _ _)); (first | (k_unfold; (try dsimp only)) | walk1 | (dsimp only; walk1)))
  rename_i a3 hAa3 lla3 hBa3 FBa3 NBa3
  repeat' ((fail_if_success (with_reducible show wpAny _ _ (call (Value.ref _) _ _) _ _ _)); (fail_if_success (with_reducible show wpAny _ _ (call (Value.builtin _) _ _) _ _ _)); (first | (k_unfold; (try dsimp only)) | walk1 | (dsimp only; walk1)))
  rename Fr _ _ _ _ => Fc
  rename News _ _ _ _ => Nc
  show wpAny _ _ (call (Value.ref 82) [Value.int n tn, Value.ref sw]) _ _ _
  refine nl_step_ln (S := SS ns) (r := rr (-1) ns) (l := sw) (c0 := c2) (vs := sh) X T Fc Nc (by repeat (first | exact List.Mem.head _ | apply List.Mem.tail)) rfl rfl (by (first | lia | omega)) (by (first | lia | omega)) (by (first | lia | omega)) (by (first | lia | omega)) hn0 hn (fun i v e => hsh.2 i v e) (ss_gt ns _) (ss_eq ns _ (-1) (.inr rfl)) fun h9 tk9 b41 k41 F9 N9 hne9' => ?_
  have ho41 : ∀ g, ReadsAll g (((ord (rr (-1) ns) sh.length).take n.toNat).map fun i => sh.getD i Value.none) ((outN (-1) ns n).map uncD) [] := out_shown hsh (-1) n
  generalize (((ord (rr (-1) ns) sh.length).take n.toNat).map fun i => sh.getD i Value.none) = o41 at ho41 N9
  clear Fc Nc hne9' 
  (try dsimp only)
  repeat' ((fail_if_success (with_reducible show wpAny _ _ (call (Value.ref _) _ _) _ _ _)); (fail_if_success (with_reducible show wpAny _ _ (call (Value.builtin _) _ _) _ _ _)); (fail_if_success (with_reducible show wpAny _ _ (exec (Stmt.Assign _ _ _) _) _ _ _)); (first | (k_unfold; (try dsimp only)) | walk1 | (dsimp only; walk1)))
  rename Fr _ _ _ _ => Fc
  rename News _ _ _ _ => Nc
  refine iter_step (l := sw) (c0 := c2) (vs := sh) Fc Nc (by repeat (first | exact List.Mem.head _ | apply List.Mem.tail)) fun hi10 it10 Fi Ni hI10 hgi10 hIL10 hne10 => ?_
  clear Fc Nc
  (try dsimp only)
  repeat' ((fail_if_success (with_reducible show wpAny _ _ (call (Value.ref _) _ _) _ _ _)); (fail_if_success (with_reducible show wpAny _ _ (exec (Stmt.Assign _ _ _) _) _ _ _)); (first | (k_unfold; (try dsimp only)) | walk1 | (dsimp only; walk1)))
  rename Fr _ _ _ _ => Fc
  rename News _ _ _ _ => Nc
  show wpAny _ _ (call (Value.ref 82) [Value.int n tn, Value.ref it10]) _ _ _
  refine nl_step_in (S := SS ns) (r := rr (-1) ns) (l := sw) (it := it10) (c0 := c2) (vs := sh) X T Fc Nc (by repeat (first | exact List.Mem.head _ | apply List.Mem.tail)) hI10 hgi10 hIL10 hne10 rfl rfl (by (first | lia | omega)) (by (first | lia | omega)) (by (first | lia | omega)) (.inr (by (first | lia | omega))) hn0 hn (fun i v e => hsh.2 i v e) (ss_gt ns _) (ss_eq ns _ (-1) (.inr rfl)) fun h10 tk10 b42 k42 F10 N10 hne10' => ?_
  have ho42 : ∀ g, ReadsAll g (((ord (rr (-1) ns) sh.length).take n.toNat).map fun i => sh.getD i Value.none) ((outN (-1) ns n).map uncD) [] := out_shown hsh (-1) n
  generalize (((ord (rr (-1) ns) sh.length).take n.toNat).map fun i => sh.getD i Value.none) = o42 at ho42 N10
  clear Fc Nc hne10' hI10 hgi10 hIL10 hne10
  (try dsimp only)
  repeat' ((fail_if_success (with_reducible show wpAny _ _ (call (Value.ref _) _ _) _ _ _)); (fail_if_success (with_reducible show wpAny _ _ (call (Value.builtin _) _ _) _ _ _)); (fail_if_success (with_reducible show wpAny _ _ (execs _ _) _ _ _)); (first | (k_unfold; (try dsimp only)) | walk1 | (dsimp only; walk1)))
  rename_i a4 hAa4 lla4 hBa4 FBa4 NBa4
  rename Fr _ _ _ _ => Fc
  rename News _ _ _ _ => Nc
  refine' law_s8 (w := w) (n := n) (tn := tn) (vs := vs) (row := row) (ns := ns) (m := fun y => if y = Str.ofString "shown" then some (.ref sw) else m y) (l := l) (rw := rw) (c0 := c0) (c1 := c1) (a1 := a1) (b11 := b11) (b12 := b12) (b13 := b13) (a2 := a2) (b21 := b21) (b22 := b22) (b23 := b23) (a3 := a3) (b31 := b31) (b32 := b32) (a4 := a4) (b41 := b41) (b42 := b42) (k11 := k11) (k12 := k12) (k13 := k13) (k21 := k21) (k22 := k22) (k23 := k23) (k31 := k31) (k32 := k32) (k41 := k41) (k42 := k42) (o11 := o11) (o12 := o12) (o21 := o21) (o22 := o22) (o31 := o31) (o32 := o32) (o41 := o41) (o42 := o42) ?w1 ?w2 ?w3 X T ?w4 ?w5 hi hrow hN hn0 hn ho11 ho12 ho21 ho22 ho31 ho32 ho41 ho42 hdp hun ret
  case w1 => k_is
  case w2 => rfl
  case w3 => rfl
  case w4 =>
    refine fr_as Fc fun y => ?_
    by_cases h1 : y = Str.ofString "greatest_shown"
    · subst h1; rfl
    by_cases h2 : y = Str.ofString "least_shown"
    · subst h2; rfl
    by_cases h3 : y = Str.ofString "greatest"
    · subst h3; rfl
    by_cases h4 : y = Str.ofString "least"
    · subst h4; rfl
    by_cases h5 : y = Str.ofString "shown"
    · subst h5; rfl
    simp only [if_neg h1, if_neg h2, if_neg h3, if_neg h4, if_neg h5]
  case w5 =>
    exact news_pick Nc (by repeat (first | exact List.Mem.head _ | apply List.Mem.tail)) (news_pick Nc (by repeat (first | exact List.Mem.head _ | apply List.Mem.tail)) (news_pick Nc (by repeat (first | exact List.Mem.head _ | apply List.Mem.tail)) (news_pick Nc (by repeat (first | exact List.Mem.head _ | apply List.Mem.tail)) (news_pick Nc (by repeat (first | exact List.Mem.head _ | apply List.Mem.tail)) (news_pick Nc (by repeat (first | exact List.Mem.head _ | apply List.Mem.tail)) (news_pick Nc (by repeat (first | exact List.Mem.head _ | apply List.Mem.tail)) (news_pick Nc (by repeat (first | exact List.Mem.head _ | apply List.Mem.tail)) (news_pick Nc (by repeat (first | exact List.Mem.head _ | apply List.Mem.tail)) (news_pick Nc (by repeat (first | exact List.Mem.head _ | apply List.Mem.tail)) (news_pick Nc (by repeat (first | exact List.Mem.head _ | apply List.Mem.tail)) (news_pick Nc (by repeat (first | exact List.Mem.head _ | apply List.Mem.tail)) (news_pick Nc (by repeat (first | exact List.Mem.head _ | apply List.Mem.tail)) (news_pick Nc (by repeat (first | exact List.Mem.head _ | apply List.Mem.tail)) (news_pick Nc (by repeat (first | exact List.Mem.head _ | apply List.Mem.tail)) (news_pick Nc (by repeat (first | exact List.Mem.head _ | apply List.Mem.tail)) (News.nil))))))))))))))))
  )
end Mine
end
theorem Mine.start_L6 : True := by
  w_top off
  trivial
section
open PySem PySem.W PySem.Calls PyProof.Rows
set_option maxRecDepth 100000
set_option maxHeartbeats 8000000
namespace Mine
theorem law_s2 {w : World} {g : Heap} {s : Shared} {Q : Flow → Shared → Prop} {E : Value → Shared → Prop} {dp un : Nat} {gd : Option (List Code)} {mean : ExcName → Option Value} {mg mb : Str → Option Value} {A : Around}
   {oc : Value} {od : Option Addr} {osl : Array (Option Value)} {name qual : Str} {params : Arguments} {body tail : List Stmt} {scope : Scope} {dV kV doc pm cdv ct : Value} {an : Option Addr}
   {L f l c0 : Nat} {cd : Value} {n : Int} {tn : Tok} {vs : List Value} {ns : List Int} {m : Str → Option Value}
   (hK : (hd.heap_39 w.params).lookup 134 = some ⟨oc, od, .func (fnOf name qual params body scope dV kV doc pm an cdv ct), osl⟩) (ht : body.drop 2 = tail) (hA : A = AR dp un gd [envOf qual scope L f cd])
   (X : (hd.heap_39 w.params).In g) (T : Top hd.view_39 (looseW hd.view_39 [Str.ofString "nsmallest", Str.ofString "nlargest"]) mean mg mb g)
   (F : Fr g L s.heap (fun y => if y = Str.ofString "wish" then some (.int n tn) else if y = Str.ofString "drawn" then some (.ref l) else m y))
   (N : News g L s.heap [(l, listOf vs.toArray c0)])
   (hi : IntsAre vs ns) (hN : ns.length < 64) (hN2 : 2 ≤ ns.length) (hn0 : -1 ≤ n) (hn : n < 64)
   (hdp : dp + 12 < recursionLimit) (hun : un + 720 < cLine)
   (ret : ∀ h' tk' m', Fr g L h' m' → Q (.ret (.bool true)) { s with heap := h', toks := tk' }) :
   wpAny (model PySem.Challenge.rw_mq0307_01.row.prog w) A (execs tail (envOf qual scope L f cd)) Q E s := by
  w_strict (
  revert X
  k_fill
  intro X
  have e := lk_inj hK (by k_is : (hd.heap_39 w.params).lookup 134 = some ⟨_, _, .func (fnOf _ _ _ _ _ _ _ _ _ _ _ _), _⟩)
  injection e with e1 e2 e3 e4
  injection e3 with e3
  injection e3 with e5 e6 e7 e8 e9 e10 e11 e12 e13 e14 e15 e16 e17 e18
  injection e8 with e8
  subst_vars
  clear hK e10 e11
  simp only [List.drop_succ_cons, List.drop_zero]
  (try dsimp only) 
  (try k_fold)
  k_with_none
  walk1
  refine' exec_assign_comp (cl := []) ?sw1 ?cl1 rfl ?nm1 ?_ ?hs1
  case sw1 => with_unfolding_all rfl
  case cl1 => with_unfolding_all rfl
  case nm1 => decide +kernel
  case hs1 => (intro _; rfl)
  walk1
  refine' comp_list (l := l) (vs := vs) (c0 := c0) (fun k y => ∃ t, y = lkey (ns.getD k 0) t) ?c11 ?c21 ?c31 ?c41 ?c51 ?c61 ?c71
  case c11 => rfl
  case c21 => exact (N (l, listOf vs.toArray c0) (by repeat (first | exact List.Mem.head _ | apply List.Mem.tail))).1
  case c31 => (have := hi.length; (first | lia | omega))
  case c41 => decide +kernel
  case c51 => rfl
  case c61 =>
    intro k a p6 tk6 m6 hka hns6 st6 Q6 E6 hQ6
    have hC : ∀ b o, s.heap.get? b = some o → b ≠ s.heap.objs.size + 2 := fun b o e => neN (by have := ltN (Heap.lt_size e); (first | lia | omega))
    refine wpAny_assign_Name (wpAny_storeName_local rfl hns6 (fun p7 ns7 sb7 => ?_) rfl)
    have st7 : Stays s.heap p7 := fun b o e => sb7.extBut b o (hC b o e) (st6 b o e)
    have G7 := fr_stays F st7
    have M7 := news_stays N st7
    clear F N
    dsimp only
    walk1
    walk1
    walk1
    repeat' ((fail_if_success (with_reducible show wpAny _ _ (eval (PySem.Expr.Name _ _) _) _ _ _)); walk1)
    refine wpAny_Name (wpAny_loadName_local rfl rfl ns7 (if_pos rfl) ?_) (by decide)
    walk1
    (try dsimp only)
    refine ⟨X.keeps G7.keep, ?_⟩
    obtain ⟨ta, rfl⟩ := (fun k a e => ints_at hi e) k a hka
    refine law_key_spec _ _ _ _ (gr_fr (k := 3) X T G7 rfl rfl (by (first | lia | omega)) (by (first | lia | omega))).less' fun p8 tk8 t8 st8 sz8 => ?_
    exact hQ6 _ p8 _ _ ⟨_, rfl⟩ (ns7.keeps st8) (fun c o hc e => st8 _ _ (sb7.extBut c o hc e))
  case c71 =>
  intro h1x h1tk h1m h1c row row1 row2 h1n h1R h1st
  refine' list_named (s := s) ?e11 F N h1n h1R h1st ?e21 ?e31 ?e41
  case e11 => rfl
  case e21 => rfl
  case e31 => rfl
  intro h1 h1tk2 RW F1 N1 hne1 h1kp
  clear F N h1n h1R h1st h1x h1kp
  (try dsimp only)
  have hrow : RowOf ns row := ⟨by rw [row1, hi.length], row2⟩
  walk1
  refine' exec_assign_comp (cl := []) ?sw2 ?cl2 rfl ?nm2 ?_ ?hs2
  case sw2 => with_unfolding_all rfl
  case cl2 => with_unfolding_all rfl
  case nm2 => decide +kernel
  case hs2 => (intro _; rfl)
  walk1
  refine' comp_list (l := RW) (vs := row) (c0 := h1c) (fun k y => ∃ t, y = Value.str (unc (lcode (ns.getD k 0))) t) ?c12 ?c22 ?c32 ?c42 ?c52 ?c62 ?c72
  case c12 => rfl
  case c22 => exact (N1 (RW, listOf row.toArray h1c) (by repeat (first | exact List.Mem.head _ | apply List.Mem.tail))).1
  case c32 => (have := hrow.1; (first | lia | omega))
  case c42 => decide +kernel
  case c52 => rfl
  case c62 =>
    intro k a p6 tk6 m6 hka hns6 st6 Q6 E6 hQ6
    have hC : ∀ b o, h1.get? b = some o → b ≠ h1.objs.size + 2 := fun b o e => neN (by have := ltN (Heap.lt_size e); (first | lia | omega))
    refine wpAny_assign_Name (wpAny_storeName_local rfl hns6 (fun p7 ns7 sb7 => ?_) rfl)
    have st7 : Stays h1 p7 := fun b o e => sb7.extBut b o (hC b o e) (st6 b o e)
    have G7 := fr_stays F1 st7
    have M7 := news_stays N1 st7
    clear F1 N1
    dsimp only
    walk1
    walk1
    walk1
    repeat' ((fail_if_success (with_reducible show wpAny _ _ (eval (PySem.Expr.Name _ _) _) _ _ _)); walk1)
    refine wpAny_Name (wpAny_loadName_local rfl rfl ns7 (if_pos rfl) ?_) (by decide)
    walk1
    (try dsimp only)
    refine ⟨X.keeps G7.keep, ?_⟩
    obtain ⟨ta, rfl⟩ := hrow.2 k a hka
    refine unctrl_key _ _ _ _ (gr_fr (k := 3) X T G7 rfl rfl (by (first | lia | omega)) (by (first | lia | omega))).less' fun p8 tk8 t8 st8 sz8 => ?_
    exact hQ6 _ p8 _ _ ⟨_, rfl⟩ (ns7.keeps st8) (fun c o hc e => st8 _ _ (sb7.extBut c o hc e))
  case c72 =>
  intro h2x h2tk h2m h2c sh sh1 sh2 h2n h2R h2st
  refine' list_named (s := { s with heap := h1, toks := h1tk2 }) ?e12 F1 N1 h2n h2R h2st ?e22 ?e32 ?e42
  case e12 => rfl
  case e22 => rfl
  case e32 => rfl
  intro h2 h2tk2 SW F2 N2 hne2 h2kp
  clear F1 N1 h2n h2R h2st h2x h2kp
  (try dsimp only)
  have hsh : ShownOf ns sh := ⟨by rw [sh1, hrow.1], sh2⟩
  refine' law_s4 (w := w) (n := n) (tn := tn) (vs := vs) (row := row) (sh := sh) (ns := ns) (m := m) (l := l) (rw := RW) (sw := SW) (c0 := c0) (c1 := h1c) (c2 := h2c) ?w1 ?w2 ?w3 X T ?w4 ?w5 hi hrow hsh hN hN2 hn0 hn hdp hun ret
  case w1 => k_is
  case w2 => rfl
  case w3 => rfl
  case w4 => exact F2
  case w5 =>
    refine news_pick N2 (by repeat (first | exact List.Mem.head _ | apply List.Mem.tail)) (news_pick N2 (by repeat (first | exact List.Mem.head _ | apply List.Mem.tail)) (news_pick N2 (by repeat (first | exact List.Mem.head _ | apply List.Mem.tail)) News.nil))
  )
end Mine
end
theorem Mine.start_L7 : True := by
  w_top off
  trivial
section
open PySem PySem.W PySem.Calls PyProof.Rows
set_option maxRecDepth 100000
set_option maxHeartbeats 8000000
namespace Mine
theorem law_holds : PySem.Challenge.rw_mq0307_01.Holds := hd (by
  w_strict (k_go0
            (try k_fold)
            k_with_none
            (repeat' ((fail_if_success (with_reducible show wpAny _ _ (execs (Stmt.Assign _ (PySem.Expr.ListComp _ _ _ _) _ :: _) _) _ _ _)); (first | (k_unfold; (try dsimp only)) | walk1 | (dsimp only; walk1))))
            rename Top _ _ _ _ _ _ => TT
            rename Frag.In _ _ => KX
            rename Fr _ _ _ _ => FF
            rename News _ _ _ _ => NN
            rename_i xs hs hlay0 hL1 hr1 hl2 as4 as3 aL vL as0 hL ra w1 r0 hI hr hc1 hc2 K0 hD h1 lA hA5 lA3 DA wsA hA4 hIA hCA hLA l1A DD wsD h3 hID l11 h2 DS wsS hS1 hIS hCS hLS l1S hZ tkZ tZ hZZ
            refine' law_s2 (l := DD) (vs := wsD) (c0 := 0) ?w1 ?w2 ?w3 KX TT FF ?w5 hID ?w7 ?w8 ?w9 ?w10 ?w11 ?w12 ?w13
            case w1 => k_is
            case w2 => rfl
            case w3 => rfl
            case w5 =>
              intro p hp
              rw [List.mem_singleton.mp hp]
              exact NN _ (.tail _ (.head _))
            case w7 => (rw [List.length_append, hCA]; simp only [List.length_cons, List.length_nil]; (first | lia | omega))
            case w8 => (rw [List.length_append]; simp only [List.length_cons, List.length_nil]; (first | lia | omega))
            case w9 =>
              rw [Int.fmod_eq_emod_of_nonneg _ (by (first | lia | omega))]
              have := Int.emod_nonneg ((List.take 1 xs).sum + 3) (b := ((1 + 1 + 1 + 1 + 1 + (List.take (min 11 xs.length - 1) (List.drop 1 xs)).length : Nat) : Int) + 3) (by (first | lia | omega))
              (first | lia | omega)
            case w10 =>
              rw [Int.fmod_eq_emod_of_nonneg _ (by (first | lia | omega))]
              have := Int.emod_lt_of_pos ((List.take 1 xs).sum + 3) (b := ((1 + 1 + 1 + 1 + 1 + (List.take (min 11 xs.length - 1) (List.drop 1 xs)).length : Nat) : Int) + 3) (by (first | lia | omega))
              rw [hCA] at this ⊢
              (first | lia | omega)
            case w11 => decide +kernel
            case w12 => decide +kernel
            case w13 =>
              intro h' tk' m' F'
              dsimp only
              refine goodW_bool F' (by assumption) (raisesW_false ?_) ?_
              · wrow_none_raised
              · first | wrow_post | kc_post))
end Mine
end
set_option maxRecDepth 100000 in
set_option maxHeartbeats 8000000 in
theorem PySem.Challenge.cw_mq0307_01_holds : PySem.Challenge.rw_mq0307_01.Holds := by
  exact Mine.law_holds
