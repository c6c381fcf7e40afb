import PyProof.Rows.All
import Wide.All
import OpenK.AllK
import Wide.FinOn
import PySem.Challenge.RW_qj0008_01
open PySem PySem.W PyProof.Rows PySem.Calls
set_option Elab.async false
set_option maxRecDepth 100000
set_option maxHeartbeats 0
set_option rowWalk.seconds 0
namespace Mine
open_top hd for PySem.Challenge.rw_qj0008_01
abbrev Led := List (Addr × Obj)
abbrev tup2 (c : Int) (t : Tok) (k : Int) (u : Tok) : Obj := { cls := .type "tuple", data := .seq #[.int c t, .int k u] 0 }
def lexLt (c1 k1 c2 k2 : Int) : Prop := c1 < c2 ∨ (c1 = c2 ∧ k1 < k2)
def nthV : List Value → Nat → Option Value
  | [], _ => none
  | v :: _, 0 => some v
  | _ :: r, n + 1 => nthV r n
theorem nthV_eq : ∀ (l : List Value) (n : Nat), nthV l n = l[n]?
  | [], _ => rfl
  | _ :: _, 0 => rfl
  | _ :: r, n + 1 => by simpa [nthV] using nthV_eq r n
section
variable {prog : Program} {w : World} {A : Around} {E : Value → Shared → Prop} {s : Shared} {Q : Value → Shared → Prop} {a b : Addr} {c1 k1 c2 k2 : Int} {t1 u1 t2 u2 : Tok}
theorem lt_tup2 (ha : s.heap.get? a = some (tup2 c1 t1 k1 u1)) (hb : s.heap.get? b = some (tup2 c2 t2 k2 u2)) (hu : A.units < cLine)
    (h : Q (.bool (decide (c1 < c2 ∨ (c1 = c2 ∧ k1 < k2)))) s) : wpAny (model prog w) A (compareOp .Lt (.ref a) (.ref b)) Q E s := by
  have hTa : s.TypeIs (.ref a) "tuple" := (show IsTup s.heap a _ from ⟨_, ha, rfl, 0, rfl⟩).typeIs
  have hTb : s.TypeIs (.ref b) "tuple" := (show IsTup s.heap b _ from ⟨_, hb, rfl, 0, rfl⟩).typeIs
  show wpAny _ _ (richCompare .Lt (.ref a) (.ref b)) Q E s
  refine wpAny_richCompare_same_room (op := .Lt) (T := "tuple") hTa hTb F.slot_tuple_lt (wpAny_call_entry F.slot_tuple_lt hTa F.entry_tuple_lt ?_ (F.args_tuple_lt_2 _ _)) hu
  show wpAny _ _ (isInstance (.ref b) (.type "tuple") >>= _) _ _ s
  refine wpAny_bind (wpAny_isInstance hTb isSubtype_tuple_tuple ?_)
  simp only [Bool.not_true, Bool.false_eq_true, if_false]
  refine wpAny_bind (wpAny_tupleItemsOf ha rfl ?_)
  refine wpAny_bind (wpAny_tupleItemsOf hb rfl ?_)
  refine wpAny_bind ?_
  simp only [List.zip_cons_cons, List.zip_nil_right, List.forIn_cons, List.forIn_nil]
  refine wpAny_bind (wpAny_bind (wpAny_eqBool_int ?_))
  by_cases hc : c1 = c2
  · rw [show (c1 == c2) = true from by simp [hc]]
    simp only [Bool.not_true, Bool.false_eq_true, if_false]
    refine wpAny_pure ?_
    dsimp only
    refine wpAny_bind (wpAny_bind (wpAny_eqBool_int ?_))
    by_cases hk : k1 = k2
    · rw [show (k1 == k2) = true from by simp [hk]]
      simp only [Bool.not_true, Bool.false_eq_true, if_false]
      rw [decide_eq_false (by omega)] at h
      refine wpAny_pure (wpAny_pure (wpAny_pure ⟨.bool false, rfl, by simp, h⟩))
    · rw [show (k1 == k2) = false from by simp [hk]]
      simp only [Bool.not_false, if_true]
      refine wpAny_bind (wpAny_rule (wpAny_bind (wpAny_lt_int (wpAny_bind (wpAny_pure (wpAny_pure ?_))))))
      refine wpAny_pure (wpAny_pure ⟨_, rfl, by simp, ?_⟩)
      rw [show decide (k1 < k2) = decide (c1 < c2 ∨ (c1 = c2 ∧ k1 < k2)) from by apply decide_eq_decide.mpr; omega]
      exact h
  · rw [show (c1 == c2) = false from by simp [hc]]
    simp only [Bool.not_false, if_true]
    refine wpAny_bind (wpAny_rule (wpAny_bind (wpAny_lt_int (wpAny_bind (wpAny_pure (wpAny_pure ?_))))))
    refine wpAny_pure (wpAny_pure ⟨_, rfl, by simp, ?_⟩)
    rw [show decide (c1 < c2) = decide (c1 < c2 ∨ (c1 = c2 ∧ k1 < k2)) from by apply decide_eq_decide.mpr; omega]
    exact h
theorem ne_tup2_same {u3 t3 : Tok} (ha : s.heap.get? a = some (tup2 c1 t1 k1 u1)) (hb : s.heap.get? b = some (tup2 c1 t3 k1 u3)) (hu : A.units < cLine)
    (h : Q (.bool false) s) : wpAny (model prog w) A (compareOp .NotEq (.ref a) (.ref b)) Q E s := by
  have hTa : s.TypeIs (.ref a) "tuple" := (show IsTup s.heap a _ from ⟨_, ha, rfl, 0, rfl⟩).typeIs
  have hTb : s.TypeIs (.ref b) "tuple" := (show IsTup s.heap b _ from ⟨_, hb, rfl, 0, rfl⟩).typeIs
  show wpAny _ _ (richCompare .NotEq (.ref a) (.ref b)) Q E s
  refine wpAny_richCompare_same_room (op := .NotEq) (T := "tuple") hTa hTb F.slot_tuple_ne (wpAny_call_entry F.slot_tuple_ne hTa F.entry_tuple_ne ?_ (F.args_tuple_ne_2 _ _)) hu
  show wpAny _ _ (isInstance (.ref b) (.type "tuple") >>= _) _ _ s
  refine wpAny_bind (wpAny_isInstance hTb isSubtype_tuple_tuple ?_)
  simp only [Bool.not_true, Bool.false_eq_true, if_false]
  refine wpAny_bind (wpAny_tupleItemsOf ha rfl ?_)
  refine wpAny_bind (wpAny_tupleItemsOf hb rfl ?_)
  refine wpAny_bind ?_
  simp only [List.zip_cons_cons, List.zip_nil_right, List.forIn_cons, List.forIn_nil]
  refine wpAny_bind (wpAny_bind (wpAny_eqBool_int ?_))
  rw [show (c1 == c1) = true from by simp]
  simp only [Bool.not_true, Bool.false_eq_true, if_false]
  refine wpAny_pure ?_
  dsimp only
  refine wpAny_bind (wpAny_bind (wpAny_eqBool_int ?_))
  rw [show (k1 == k1) = true from by simp]
  simp only [Bool.not_true, Bool.false_eq_true, if_false]
  exact wpAny_pure (wpAny_pure (wpAny_pure ⟨.bool false, rfl, by simp, h⟩))
theorem sub_news {value slice : PySem.Expr} {h₀ : Heap} {L D : Addr} {news : Led} {its : Array Value} {n : Nat} {k : Int} {u : Tok} {v : Value} (N : News h₀ L s.heap news) (hm : (D, listOf its n) ∈ news) (h0 : 0 ≤ k) (hfit : k < 2 ^ 63) (hx : nthV its.toList k.toNat = some v) (h : Q v s)
    (hs : subscripted slice false (.ref D) (.int k u) = operate [.ref D, .int k u] (getItem (.ref D) (.int k u)) := by with_unfolding_all rfl) :
    wpAny (model prog w) A (subscriptTail value slice (.ref D) (.int k u)) Q E s :=
  have hL : s.heap.IsList D its := PySem.IsL.isList (n := n) (N _ hm).1
  tail_any hL.typeIs slot_list_getitem.lookup (wpAny_getItem_list hL h0 hfit (by rw [← Array.getElem?_toList, ← nthV_eq]; exact hx) h) hs
end
/-- all that stood stands, but at `ms` -/
def Keeps (h h' : Heap) (ms : List Nat) : Prop := ∀ (b : Nat) (o : Obj), h.get? b = some o → b ∉ ms → h'.get? b = some o

section
variable {prog : Program} {w : World} {A A₀ : Around} {E : Value → Shared → Prop} {s : Shared} {K : Frag} {L : Addr} {h₀ base : Heap} {m mg mb : Str → Option Value} {news : Led} {p : Program} {loose : List Str} {mean : ExcName → Option Value} {Q : Value → Shared → Prop}
theorem spec_code {env : Env} {outer : List Env} {R : Result → Shared → Prop} {name qual : Str} {params : Arguments} {body : List Stmt} {scope : Scope} {dV kV doc pm cdv ct oc : Value} {an od : Option Addr} {osl : Array (Option Value)} {f : Addr} {args : Args} {binds : List (Str × Value)}
    (B : Below A₀ base outer h₀) (F : Fr h₀ L s.heap m) (X₀ : K.In h₀) (N : News h₀ L s.heap news) (T : Top p loose mean mg mb h₀) (hA : A.frames = some (env :: outer)) (hf : env.frame = some L) (hke : env.scope.kind = .function)
    (ho : K.lookup f = some ⟨oc, od, .func (fnOf name qual params body scope dV kV doc pm an cdv ct), osl⟩) (hcd : codeIn K cdv qual = true) (hroom : A.depth < recursionLimit)
    (hbind : BindsTo s (fnOf name qual params body scope dV kV doc pm an cdv ct) args binds) (hloc : ∀ y ∈ binds, scope.names.lookup y.1 = some .local)
    (h : ∀ g L' h₁, Fr h₀ L g m → Fr g L' h₁ (fun y => binds.reverse.lookup y) → News g L' h₁ news → Below A base (env :: outer) g → K.In g → Top p loose mean mg mb g → Keeps s.heap g (news.map (·.1)) →
      wpAny (model prog w) (A.deeper (envOf qual scope L' f cdv)) (execs body (envOf qual scope L' f cdv))
        (fun fl s' => LeaveK h₀ L m g R (match fl with | .ret v => v | _ => .none) s')
        (fun e s' => wpAny (model prog w) (A.deeper (envOf qual scope L' f cdv)) (leaving (envOf qual scope L' f cdv) e) (fun _ s'' => R (.error e) s'') (fun e' s'' => R (.error e') s'') s')
        { s with heap := h₁, toks := s.toks + binds.length })
    (hco : scope.isCoroutine = false) (hgen : scope.isGenerator = false) (hk : scope.kind = .function)
    (hcell : ∀ x ∈ scope.names, x.2 ≠ .cell) : codeAny (model prog w) A (.call (.ref f) args) R s := by
  obtain ⟨FG, BG, st, lv⟩ := groundX (R := R) B F N hA hf hke
  refine codeAny_call_def (fd := fnOf name qual params body scope dV kV doc pm an cdv ct) (body := body) (binds := binds) hroom ((X₀.keeps F.keep) _ _ ho) rfl (T.nolimit.keeps F.keep) (codeRec_of (X₀.keeps F.keep) hcd) rfl hbind hcell hloc (fun h₁ hns hk₁ => ?_) hco hgen hk
  exact wpAny_mono (h _ s.heap.objs.size h₁ FG ⟨hns, fun b o e => hk₁ b o (of_hideAll _ e), Nat.le_of_eq (hideAll_size _ _)⟩
    (fun p hp => ⟨hk₁ _ _ (N p hp).1, Nat.ne_of_lt (Heap.lt_size (N p hp).1), hideAll_none _ (List.mem_map_of_mem hp)⟩) BG (X₀.keeps st) (T.keeps st) (fun b o e hn => hideAll_get _ e hn)) (fun fl s' hl => lv _ _ hl) fun _ _ y => y

/-- what a call hands on -/
abbrev Ret (h₀ : Heap) (L : Addr) (m : Str → Option Value) (s : Shared) (sub : Led) (ms : List Nat) (Post : Value → Led → Prop) (Q : Value → Shared → Prop) : Prop :=
  ∀ (r : Value) (sub' : Led) (h' : Heap) (tk' : Nat), Fr h₀ L h' m → News h₀ L h' sub' → Keeps s.heap h' ms → (∀ p ∈ sub', p.1 ∈ ms ∨ p ∈ sub ∨ s.heap.get? p.1 = none) → Post r sub' → Q r { s with heap := h', toks := tk' }
theorem ret_end {g : Heap} {L' : Addr} {m' : Str → Option Value} {sub sub' led : Led} {ms : List Nat} {Post : Value → Led → Prop} {h' : Heap} {tk' : Nat} {r : Value}
    (hret : Ret h₀ L m s sub ms Post Q) (N : News h₀ L s.heap sub) (hkeep : Keeps s.heap g (sub.map (·.1))) (kF : Fr h₀ L h' m) (kN : News h₀ L h' led) (F' : Fr g L' h' m') (N₁ : News g L' h' led) (hin : ∀ p ∈ sub', p ∈ led)
    (hsub : ∀ p ∈ sub, p.1 ∈ ms ∨ p ∈ led) (hp : Post r sub') : Q r { s with heap := h', toks := tk' } := by
  have N' : News g L' h' sub' := fun p hp => N₁ p (hin p hp)
  refine hret r sub' h' tk' kF (fun p hp => kN p (hin p hp)) (fun b o e hm => ?_) (fun p hp => ?_) hp
  · by_cases hb : b ∈ sub.map (·.1)
    · obtain ⟨q, hq, rfl⟩ := List.mem_map.mp hb
      rcases hsub q hq with h1 | h1
      · exact absurd h1 hm
      · have e1 := (N q hq).1
        rw [e] at e1
        rw [Option.some.inj e1]
        exact (N₁ q h1).1
    · exact F'.keep b o (hkeep b o e hb)
  · cases e : s.heap.get? p.1 with
    | none => exact .inr (.inr rfl)
    | some o =>
      by_cases hb : p.1 ∈ sub.map (·.1)
      · obtain ⟨q, hq, e2⟩ := List.mem_map.mp hb
        rcases hsub q hq with h1 | h1
        · exact .inl (e2 ▸ h1)
        · have e3 := (N₁ q h1).1
          have e4 := (N' p hp).1
          rw [e2, e4] at e3
          have e5 : p = q := Prod.ext e2.symm (Option.some.inj e3)
          exact .inr (.inl (e5 ▸ hq))
      · have e3 := hkeep _ _ e hb
        rw [(N' p hp).2.2] at e3
        cases e3
end

theorem news_ne {h₀ h : Heap} {L : Addr} {l : Led} {a b : Nat} {x y : Obj} (N : News h₀ L h l) (ha : (a, x) ∈ l) (hb : (b, y) ∈ l) (hxy : x.cls ≠ y.cls) : a ≠ b := by
  intro e
  have h1 := (N _ ha).1
  have h2 := (N _ hb).1
  dsimp only at h1 h2
  rw [e, h2] at h1
  exact hxy (congrArg Obj.cls (Option.some.inj h1).symm)
def CodeSpec (w : World) (mean : ExcName → Option Value) (mg mb : Str → Option Value) (f : Addr) (vs : List Value) (sub : Led) (ms : List Nat) (d u : Nat) (Post : Value → Led → Prop) : Prop :=
  ∀ (dp un : Nat) (gd : Option (List Code)) (cn : Str) (cs : Scope) (a : Addr) (ccd : Value) (cl : List (Str × Addr)) (outer : List Env) (A₀ : Around) (base h₀ : Heap) (L : Addr) (m : Str → Option Value) (s : Shared) (R : Result → Shared → Prop),
    Below A₀ base outer h₀ → Fr h₀ L s.heap m → (hd.heap_39 w.params).In h₀ → News h₀ L s.heap sub → Top hd.view_39 (looseW hd.view_39 [Str.ofString "Whitespace"]) mean mg mb h₀ → cs.kind = .function → dp + d < recursionLimit → un + u < cLine →
    Ret h₀ L m s sub ms Post (fun r s' => R (.ok (.ret r)) s') →
    codeAny (model PySem.Challenge.rw_qj0008_01.row.prog w) (ktrTop dp un gd cn cs L a ccd cl outer) (.call (.ref f) ⟨vs, []⟩) R s
section
variable {w : World} {mean : ExcName → Option Value} {mg mb : Str → Option Value} {f : Addr} {vs : List Value} {sub news : Led} {ms : List Nat} {d u : Nat} {Post : Value → Led → Prop}
  {dp un : Nat} {gd : Option (List Code)} {cn : Str} {cs : Scope} {a : Addr} {ccd : Value} {cl : List (Str × Addr)} {outer : List Env} {A₀ : Around} {base h₀ : Heap} {L : Addr} {m : Str → Option Value} {s : Shared}
theorem CodeSpec.use {Q E : Value → Shared → Prop} (C : CodeSpec w mean mg mb f vs sub ms d u Post)
    (B : Below A₀ base outer h₀) (F : Fr h₀ L s.heap m) (X : (hd.heap_39 w.params).In h₀) (N : News h₀ L s.heap news) (T : Top hd.view_39 (looseW hd.view_39 [Str.ofString "Whitespace"]) mean mg mb h₀) (hk : cs.kind = .function) (hin : ∀ p ∈ sub, p ∈ news) (hd : dp + d < recursionLimit) (hu : un + u < cLine)
    (ret : Ret h₀ L m s sub ms Post Q) : wpAny (model PySem.Challenge.rw_qj0008_01.row.prog w) (ktrTop dp un gd cn cs L a ccd cl outer) (call (.ref f) vs) Q E s :=
  wpAny_call (C dp un gd cn cs a ccd cl outer A₀ base h₀ L m s _ B F X (fun p hp => N p (hin p hp)) T hk hd hu ret)
theorem CodeSpec.code {R : Result → Shared → Prop} (C : CodeSpec w mean mg mb f vs sub ms d u Post)
    (B : Below A₀ base outer h₀) (F : Fr h₀ L s.heap m) (X : (hd.heap_39 w.params).In h₀) (N : News h₀ L s.heap news) (T : Top hd.view_39 (looseW hd.view_39 [Str.ofString "Whitespace"]) mean mg mb h₀) (hk : cs.kind = .function) (hin : ∀ p ∈ sub, p ∈ news) (hd : dp + d < recursionLimit) (hu : un + u < cLine)
    (ret : Ret h₀ L m s sub ms Post (fun r s' => R (.ok (.ret r)) s')) : codeAny (model PySem.Challenge.rw_qj0008_01.row.prog w) (ktrTop dp un gd cn cs L a ccd cl outer) (.call (.ref f) ⟨vs, []⟩) R s :=
  C dp un gd cn cs a ccd cl outer A₀ base h₀ L m s _ B F X (fun p hp => N p (hin p hp)) T hk hd hu ret
end
section
variable {w : World} {mean : ExcName → Option Value} {mg mb : Str → Option Value} {f : Addr} {vs : List Value} {sub news : Led} {d u : Nat} {P : Value → Prop}
  {dp un : Nat} {gd : Option (List Code)} {cn : Str} {cs : Scope} {a : Addr} {ccd : Value} {cl : List (Str × Addr)} {outer : List Env} {A₀ : Around} {base h₀ : Heap} {L : Addr} {m : Str → Option Value} {s : Shared}
/-- a call that changes nothing -/
theorem pure_use {Q E : Value → Shared → Prop} (C : CodeSpec w mean mg mb f vs sub [] d u (fun r l => P r ∧ l = []))
    (B : Below A₀ base outer h₀) (F : Fr h₀ L s.heap m) (X : (hd.heap_39 w.params).In h₀) (N : News h₀ L s.heap news) (T : Top hd.view_39 (looseW hd.view_39 [Str.ofString "Whitespace"]) mean mg mb h₀) (hk : cs.kind = .function) (hin : ∀ p ∈ sub, p ∈ news) (hd : dp + d < recursionLimit) (hu : un + u < cLine)
    (ret : ∀ (r : Value) (h' : Heap) (tk' : Nat), Fr h₀ L h' m → News h₀ L h' news → P r → Q r { s with heap := h', toks := tk' }) : wpAny (model PySem.Challenge.rw_qj0008_01.row.prog w) (ktrTop dp un gd cn cs L a ccd cl outer) (call (.ref f) vs) Q E s :=
  C.use B F X N T hk hin hd hu (fun r sub' h' tk' F' _ K' _ P' => ret r h' tk' F' (fun p hp => ⟨K' _ _ (N p hp).1 (fun q => nomatch q), (N p hp).2⟩) P'.1)
end
/-- the ledger behind a call: what it hands back, and what else stood -/
theorem news_on {h₀ h h' : Heap} {L : Addr} {news sub' rest : Led} {ms : List Nat} (N : News h₀ L h news) (N' : News h₀ L h' sub') (hk : Keeps h h' ms) (hr : ∀ p ∈ rest, p ∈ news) (ho : ∀ p ∈ rest, p.1 ∉ ms) : News h₀ L h' (sub' ++ rest) := fun p hp => by
  rcases List.mem_append.mp hp with hp | hp
  · exact N' p hp
  · have e := N p (hr p hp)
    exact ⟨hk _ _ e.1 (ho p hp), e.2⟩
section
variable {prog : Program} {w : World} {A : Around} {E : Value → Shared → Prop} {s : Shared} {env : Env} {h₀ : Heap} {x : Str} {body : List Stmt} {Q : Flow → Shared → Prop}
theorem kstB_self {m : Str → Option Value} {ps : List (Str × Value)} (h : ∀ p ∈ ps, m p.1 = some p.2) : kstB m ps = m := funext fun _ => kstB_eq h fun _ => rfl
theorem unrPost_mono {L I : Addr} {s₁ : Shared} {it : Obj} {r r' : (Str → Option Value) → Led → Prop} {f : Flow} {s₂ : Shared} (hr : ∀ m n, r m n → r' m n) (h : UnrPost h₀ L s₁ I it r Q f s₂) : UnrPost h₀ L s₁ I it r' Q f s₂ := by
  have e : UnrEnd h₀ L s₁ I it r s₂ → UnrEnd h₀ L s₁ I it r' s₂ := fun ⟨h', tk, m', n', e, F, N, o, q⟩ => ⟨h', tk, m', n', e, F, N, o, hr _ _ q⟩
  cases f with
  | ret v => exact h
  | brk => exact h
  | next => exact e h
  | cont => exact e h
/-- a state of a loop: the ledger, the names, a word -/
def LoopS {σ : Type} (Ld : σ → Led) (ps : σ → List (Str × Value)) (P : σ → Prop) (m : Str → Option Value) (n : Led) : Prop :=
  ∃ c : σ, n = Ld c ∧ (∀ p ∈ ps c, m p.1 = some p.2) ∧ P c
theorem loopS {σ : Type} {Ld : σ → Led} {ps : σ → List (Str × Value)} {P : σ → Prop} {m : Str → Option Value} (c : σ) (hm : ∀ p ∈ ps c, m p.1 = some p.2) (hp : P c) : LoopS Ld ps P m (Ld c) := ⟨c, rfl, hm, hp⟩
theorem unr_end {σ : Type} {Ld : σ → Led} {ps : σ → List (Str × Value)} {P : σ → Prop} {L I : Addr} {it : Obj} {s₁ : Shared} {h' : Heap} {tk : Nat} {m' : Str → Option Value} {all : Led} (c : σ) (F : Fr h₀ L h' m') (N : News h₀ L h' all)
    (hI : (I, it) ∈ all) (sub : ∀ p ∈ Ld c, p ∈ all) (off : ∀ p ∈ Ld c, p.1 ≠ I) (hm : ∀ p ∈ ps c, m' p.1 = some p.2) (hp : P c) : UnrEnd h₀ L s₁ I it (LoopS Ld ps P) { s₁ with heap := h', toks := tk } :=
  UnrEnd.intro F N (Ld c) (fun p hp => by
    rcases List.mem_cons.mp hp with rfl | hp
    · exact hI
    · exact sub p hp) off (loopS c hm hp)
/-- a loop over a text's signs -/
theorem str_inv {σ : Type} (Ld : List Str → σ → Led) (ps : List Str → σ → List (Str × Value)) (P : List Str → σ → Prop) {I : Addr}
    (step : ∀ (c : Str) (r : List Str) (z : σ) (v : Str → Option Value) (u : Tok) (it : Obj) h tk, P (c :: r) z → (∀ p ∈ Ld (c :: r) z, p.1 ≠ I) → Fr h₀ env.locals h (fun y => if y = x then some (.str c u) else kstB v (ps (c :: r) z) y) → News h₀ env.locals h ((I, it) :: Ld (c :: r) z) →
      wpAny (model prog w) A (execs body env) (UnrPost h₀ env.locals { s with heap := h, toks := tk } I it (fun m n => (∀ p ∈ n, p.1 ≠ I) ∧ LoopS (Ld r) (ps r) (P r) m n) Q) E { s with heap := h, toks := tk })
    (done : ∀ (z : σ) (v : Str → Option Value) h tk, P [] z → Fr h₀ env.locals h (kstB v (ps [] z)) → News h₀ env.locals h (Ld [] z) → Q .next { s with heap := h, toks := tk }) :
    ∀ (l : List Str) (m : Str → Option Value) (n : Led), (∀ p ∈ n, p.1 ≠ I) → LoopS (Ld l) (ps l) (P l) m n → StrRest prog w A E h₀ env x body Q s I l m n
  | [], m, n, _, ⟨z, hn, hm, hp⟩ => fun h tk F N => by
    subst hn
    rw [← kstB_self hm] at F
    exact done z m h tk hp F N
  | c :: r, m, n, ho, ⟨z, hn, hm, hp⟩ => fun u it h tk F N => by
    subst hn
    rw [← kstB_self hm] at F
    exact wpAny_mono (step c r z m u it h tk hp ho F N) (fun f s₂ q => unrPost_mono (fun m' n' q => str_inv Ld ps P step done r m' n' q.1 q.2) q) fun _ _ q => q
/-- a loop over a range by ones -/
theorem range_inv {σ : Type} (Ld : Nat → σ → Led) (ps : Nat → σ → List (Str × Value)) (P : Nat → σ → Prop) {I : Addr} {a : Int} {n : Nat}
    (step : ∀ (i : Nat) (z : σ) (v : Str → Option Value) (t : Tok) h tk, i < n → P i z → (∀ p ∈ Ld i z, p.1 ≠ I) → Fr h₀ env.locals h (fun y => if y = x then some (.int (a + (i : Int)) t) else kstB v (ps i z) y) →
      News h₀ env.locals h ((I, itR (a + ((i + 1 : Nat) : Int)) ((n : Int) - ((i + 1 : Nat) : Int))) :: Ld i z) →
      wpAny (model prog w) A (execs body env) (UnrPost h₀ env.locals { s with heap := h, toks := tk } I (itR (a + ((i + 1 : Nat) : Int)) ((n : Int) - ((i + 1 : Nat) : Int))) (fun m l => (∀ p ∈ l, p.1 ≠ I) ∧ LoopS (Ld (i + 1)) (ps (i + 1)) (P (i + 1)) m l) Q) E { s with heap := h, toks := tk })
    (done : ∀ (z : σ) (v : Str → Option Value) h tk, P n z → Fr h₀ env.locals h (kstB v (ps n z)) → News h₀ env.locals h (Ld n z) → Q .next { s with heap := h, toks := tk }) :
    ∀ (k i : Nat) (m : Str → Option Value) (l : Led), k + i = n → (∀ p ∈ l, p.1 ≠ I) → LoopS (Ld i) (ps i) (P i) m l → RangeRest prog w A E h₀ env x body Q s I a n k i m l
  | 0, i, m, l, e, _, ⟨z, hn, hm, hp⟩ => fun h tk F N => by
    have e' : i = n := by omega
    subst e' hn
    rw [← kstB_self hm] at F
    exact done z m h tk hp F N
  | k + 1, i, m, l, e, ho, ⟨z, hn, hm, hp⟩ => fun t h tk F N => by
    subst hn
    rw [← kstB_self hm] at F
    exact wpAny_mono (step i z m t h tk (by omega) hp ho F N) (fun f s₂ q => unrPost_mono (fun m' n' q => range_inv Ld ps P step done k (i + 1) m' n' (by omega) q.1 q.2) q) fun _ _ q => q
theorem unr_end2 {σ : Type} {Ld : σ → Led} {ps : σ → List (Str × Value)} {P : σ → Prop} {L I : Addr} {it : Obj} {s₁ : Shared} {h' : Heap} {tk : Nat} {m' : Str → Option Value} {all : Led} (c : σ) (F : Fr h₀ L h' m') (N : News h₀ L h' all)
    (hI : (I, it) ∈ all) (sub : ∀ p ∈ Ld c, p ∈ all) (off : ∀ p ∈ Ld c, p.1 ≠ I) (hm : ∀ p ∈ ps c, m' p.1 = some p.2) (hp : P c) : UnrEnd h₀ L s₁ I it (fun m n => (∀ p ∈ n, p.1 ≠ I) ∧ LoopS Ld ps P m n) { s₁ with heap := h', toks := tk } :=
  UnrEnd.intro F N (Ld c) (fun p hp => by
    rcases List.mem_cons.mp hp with rfl | hp
    · exact hI
    · exact sub p hp) off ⟨off, loopS c hm hp⟩
end
theorem pack {σ : Type} {G : Prop} {h₀ h : Heap} {L : Addr} {m : Str → Option Value} {led : Led} (ps : σ → List (Str × Value)) (Ld : σ → Led) (F : Fr h₀ L h m) (N : News h₀ L h led) (c : σ) (hm : ∀ p ∈ ps c, m p.1 = some p.2) (hn : ∀ p ∈ Ld c, p ∈ led)
    (k : ∀ (c : σ) (m : Str → Option Value), (∀ p ∈ ps c, m p.1 = some p.2) → Fr h₀ L h m → News h₀ L h (Ld c) → G) : G := k c m hm F fun p hp => N p (hn p hp)
theorem range_small {a b : Int} (h1 : -1000000 ≤ a) (h2 : a ≤ 1000000) (h3 : -1000000 ≤ b) (h4 : b ≤ 1000000) : Builtin.Range.small a b 1 = true := by
  have e : Builtin.Range.rangeSize a b 1 = if a < b then b - a else 0 := by
    unfold Builtin.Range.rangeSize
    rw [if_pos (by decide)]
    split
    · rw [Int.ediv_one]; omega
    · rfl
  unfold Builtin.Range.small Builtin.Range.rangeFitsLong
  rw [e]
  split <;> simp <;> omega
theorem range_size {a b : Int} {n : Nat} (h : (a < b ∧ b - a = n) ∨ (b ≤ a ∧ n = 0)) : Builtin.Range.rangeSize a b 1 = (n : Int) := by
  unfold Builtin.Range.rangeSize
  rw [if_pos (by decide)]
  split
  · rw [Int.ediv_one]; omega
  · omega
theorem packP {σ : Type} {G : Prop} {h₀ h : Heap} {L : Addr} {m : Str → Option Value} {led : Led} (ps : σ → List (Str × Value)) (Ld : σ → Led) (P : σ → Prop) (F : Fr h₀ L h m) (N : News h₀ L h led) (c : σ) (hm : ∀ p ∈ ps c, m p.1 = some p.2) (hn : ∀ p ∈ Ld c, p ∈ led) (hp : P c)
    (k : ∀ (c : σ) (m : Str → Option Value), (∀ p ∈ ps c, m p.1 = some p.2) → P c → Fr h₀ L h m → News h₀ L h (Ld c) → G) : G := k c m hm hp F fun p hp => N p (hn p hp)
section
local macro_rules | `(tactic| walk_at "compareOp Lt ref ref") => `(tactic| (k_here; (with_reducible show wpAny _ _ (compareOp CmpOp.Lt (Value.ref _) (Value.ref _)) _ _ _); k_dflt (refine lt_tup2 (News.get (by k_asm) (by k_mem)) (News.get (by k_asm) (by k_mem)) (by first | k_units | ktr_units) ?_)))
local macro_rules | `(tactic| walk_at "subscriptTail Name Name ref int") => `(tactic| (k_here; k_dflt (refine' sub_news ?N ?m ?a ?b ?x ?_ ?s; (case N => k_asm); (case m => k_mem); (case a => decide); (case b => decide); (case x => rfl); (case s => with_unfolding_all rfl); k_whole)))
local macro_rules | `(tactic| walk_at "subscriptTail Name Constant ref int") => `(tactic| (k_here; k_dflt (refine' sub_news ?N ?m ?a ?b ?x ?_ ?s; (case N => k_asm); (case m => k_mem); (case a => decide); (case b => decide); (case x => rfl); (case s => with_unfolding_all rfl); k_whole)))
local macro_rules | `(tactic| walk_at "setItem ref int ref") => `(tactic| (k_here; k_dflt (refine' ki_set ?F ?N ?a ?b ?e ?U ?_; (case F => k_asm); (case N => k_asm); (case U => k_upd); (case a => decide); (case b => decide); (case e => rfl)); ki_rest))
local macro_rules | `(tactic| k_ne) => `(tactic| (refine neN ?_; (try dsimp only); first | with_reducible assumption | exact Ne.symm (by with_reducible assumption)))
local macro_rules | `(tactic| walk_at "call ref") => `(tactic| (k_here; k_dflt (refine wpAny_call ?_; refine' code_def ?k1 ?k2 ?k3 ?k4 ?k5 ?kA ?kF ?kK ?k6 ?k7 ?k8 ?k9 ?kB ?_ ?c2 ?c3 ?c4 ?c5; (case kA => exact rfl); (case kF => exact rfl); (case kK => first | exact rfl | assumption); (case k1 => k_asm); (case k2 => k_asm); (case k3 => k_asm); (case k4 => k_asm); (case k5 => k_asm); (case k6 => k_is); (case k7 => k_is); (case k8 => ktr_room); (case k9 => exact BindsTo.of_eq rfl); (case c5 => decide); (case kB => exact locs rfl); (case c2 => exact rfl); (case c3 => exact rfl); (case c4 => exact rfl); k_whole; intro g' L' h' FG' F' N' B' X' T'; (try dsimp only); (try k_lift B'); (try k_fold))))
def lexLe (c1 k1 c2 k2 : Int) : Prop := c1 < c2 ∨ (c1 = c2 ∧ k1 ≤ k2)
def HeapOk (c0 k0 c1 k1 c2 k2 c3 k3 c4 k4 : Int) : Prop := lexLe c0 k0 c1 k1 ∧ lexLe c0 k0 c2 k2 ∧ lexLe c1 k1 c3 k3 ∧ lexLe c1 k1 c4 k4
theorem heapreplace_spec {w : World} {mean : ExcName → Option Value} {mg mb : Str → Option Value} {hp a0 a1 a2 a3 a4 it : Nat} {n : Nat} {c0 c1 c2 c3 c4 c k0 k1 k2 k3 k4 k : Int} {t0 t1 t2 t3 t4 t u0 u1 u2 u3 u4 u : Tok}
  (hok : HeapOk c0 k0 c1 k1 c2 k2 c3 k3 c4 k4) :
  CodeSpec w mean mg mb 35 [.ref hp, .ref it] [(hp, listOf #[.ref a0, .ref a1, .ref a2, .ref a3, .ref a4] n), (a0, tup2 c0 t0 k0 u0), (a1, tup2 c1 t1 k1 u1), (a2, tup2 c2 t2 k2 u2), (a3, tup2 c3 t3 k3 u3), (a4, tup2 c4 t4 k4 u4), (it, tup2 c t k u)] [hp] 4 60
   (fun r l => r = .ref a0 ∧ ∃ (b0 b1 b2 b3 b4 : Nat) (C0 C1 C2 C3 C4 K0 K1 K2 K3 K4 : Int) (T0 T1 T2 T3 T4 U0 U1 U2 U3 U4 : Tok),
     l = [(hp, listOf #[.ref b0, .ref b1, .ref b2, .ref b3, .ref b4] n), (b0, tup2 C0 T0 K0 U0), (b1, tup2 C1 T1 K1 U1), (b2, tup2 C2 T2 K2 U2), (b3, tup2 C3 T3 K3 U3), (b4, tup2 C4 T4 K4 U4), (a0, tup2 c0 t0 k0 u0)] ∧
     HeapOk C0 K0 C1 K1 C2 K2 C3 K3 C4 K4 ∧ ∀ f : Int → Int → Int, f C0 K0 + f C1 K1 + f C2 K2 + f C3 K3 + f C4 K4 = f c k + f c1 k1 + f c2 k2 + f c3 k3 + f c4 k4) := by
  unfold CodeSpec; k_fill; intro dp un gd cn cs a ccd cl outer A₀ base h₀ L m s R B F X N T hk hdp hu hret
  have e0 : a0 ≠ hp := news_ne N (by k_mem) (by k_mem) (by simp)
  have e1 : a1 ≠ hp := news_ne N (by k_mem) (by k_mem) (by simp)
  have e2 : a2 ≠ hp := news_ne N (by k_mem) (by k_mem) (by simp)
  have e3 : a3 ≠ hp := news_ne N (by k_mem) (by k_mem) (by simp)
  have e4 : a4 ≠ hp := news_ne N (by k_mem) (by k_mem) (by simp)
  have e5 : it ≠ hp := news_ne N (by k_mem) (by k_mem) (by simp)
  k_dflt (refine' spec_code ?k1 ?k2 ?k3 ?k4 ?k5 ?kA ?kF ?kK ?k6 ?k7 ?k8 ?k9 ?kB ?_ ?c2 ?c3 ?c4 ?c5; (case kA => exact rfl); (case kF => exact rfl); (case kK => assumption); (case k1 => k_asm); (case k2 => k_asm); (case k3 => k_asm); (case k4 => k_asm); (case k5 => k_asm); (case k6 => k_is); (case k7 => k_is); (case k8 => ktr_room); (case k9 => exact BindsTo.of_eq rfl); (case c5 => decide); (case kB => exact locs rfl); (case c2 => exact rfl); (case c3 => exact rfl); (case c4 => exact rfl); k_whole; intro g' L' h' FG' F' N' B' X' T' hkeep; (try dsimp only); (try k_lift B'); (try k_fold))
  k_steps
  all_goals (refine ret_end (Q := fun r s' => R (.ok (.ret r)) s') hret N hkeep (by k_asm) (by k_asm) (by k_asm) (by k_asm) (List.forall_mem_cons.mpr ⟨by k_mem, List.forall_mem_cons.mpr ⟨by k_mem, List.forall_mem_cons.mpr ⟨by k_mem, List.forall_mem_cons.mpr ⟨by k_mem, List.forall_mem_cons.mpr ⟨by k_mem, List.forall_mem_cons.mpr ⟨by k_mem, List.forall_mem_cons.mpr ⟨by k_mem, List.forall_mem_nil _⟩⟩⟩⟩⟩⟩⟩) (by simp) ⟨rfl, _, _, _, _, _, _, _, _, _, _, _, _, _, _, _, _, _, _, _, _, _, _, _, _, _, rfl, ?_, ?_⟩)
  all_goals first | (intro f; omega) | (clear e0 e1 e2 e3 e4 e5; unfold HeapOk lexLe at hok ⊢; omega)
end
section
local macro_rules | `(tactic| walk_at "compareOp Lt ref ref") => `(tactic| (k_here; (with_reducible show wpAny _ _ (compareOp CmpOp.Lt (Value.ref _) (Value.ref _)) _ _ _); k_dflt (refine lt_tup2 (News.get (by k_asm) (by k_mem)) (News.get (by k_asm) (by k_mem)) (by first | k_units | ktr_units) ?_)))
local macro_rules | `(tactic| walk_at "subscriptTail Name Name ref int") => `(tactic| (k_here; k_dflt (refine' sub_news ?N ?m ?a ?b ?x ?_ ?s; (case N => k_asm); (case m => k_mem); (case a => decide); (case b => decide); (case x => rfl); (case s => with_unfolding_all rfl); k_whole)))
local macro_rules | `(tactic| walk_at "subscriptTail Name Constant ref int") => `(tactic| (k_here; k_dflt (refine' sub_news ?N ?m ?a ?b ?x ?_ ?s; (case N => k_asm); (case m => k_mem); (case a => decide); (case b => decide); (case x => rfl); (case s => with_unfolding_all rfl); k_whole)))
local macro_rules | `(tactic| walk_at "setItem ref int ref") => `(tactic| (k_here; k_dflt (refine' ki_set ?F ?N ?a ?b ?e ?U ?_; (case F => k_asm); (case N => k_asm); (case U => k_upd); (case a => decide); (case b => decide); (case e => rfl)); ki_rest))
local macro_rules | `(tactic| k_ne) => `(tactic| (refine neN ?_; (try dsimp only); first | with_reducible assumption | exact Ne.symm (by with_reducible assumption)))
local macro_rules | `(tactic| walk_at "call ref") => `(tactic| (k_here; k_dflt (refine wpAny_call ?_; refine' code_def ?k1 ?k2 ?k3 ?k4 ?k5 ?kA ?kF ?kK ?k6 ?k7 ?k8 ?k9 ?kB ?_ ?c2 ?c3 ?c4 ?c5; (case kA => exact rfl); (case kF => exact rfl); (case kK => first | exact rfl | assumption); (case k1 => k_asm); (case k2 => k_asm); (case k3 => k_asm); (case k4 => k_asm); (case k5 => k_asm); (case k6 => k_is); (case k7 => k_is); (case k8 => ktr_room); (case k9 => exact BindsTo.of_eq rfl); (case c5 => decide); (case kB => exact locs rfl); (case c2 => exact rfl); (case c3 => exact rfl); (case c4 => exact rfl); k_whole; intro g' L' h' FG' F' N' B' X' T'; (try dsimp only); (try k_lift B'); (try k_fold))))
theorem heappush_spec0 {w : World} {mean : ExcName → Option Value} {mg mb : Str → Option Value} {hp  it : Nat} {n : Nat} { c  k : Int} { t  u : Tok}  :
  CodeSpec w mean mg mb 28 [.ref hp, .ref it] [(hp, listOf #[] n), (it, tup2 c t k u)] [hp] 4 60
   (fun r l => r = .none ∧ ∃ (b0 : Nat) (C0 K0 : Int) (T0 U0 : Tok),
     l = [(hp, listOf #[.ref b0] (n + 1)), (b0, tup2 C0 T0 K0 U0)] ∧ (True) ∧ ∀ f : Int → Int → Int, f C0 K0 = f c k) := by
  unfold CodeSpec; k_fill; intro dp un gd cn cs a ccd cl outer A₀ base h₀ L m s R B F X N T hk hdp hu hret
  have e0 : it ≠ hp := news_ne N (by k_mem) (by k_mem) (by simp)
  k_dflt (refine' spec_code ?k1 ?k2 ?k3 ?k4 ?k5 ?kA ?kF ?kK ?k6 ?k7 ?k8 ?k9 ?kB ?_ ?c2 ?c3 ?c4 ?c5; (case kA => exact rfl); (case kF => exact rfl); (case kK => assumption); (case k1 => k_asm); (case k2 => k_asm); (case k3 => k_asm); (case k4 => k_asm); (case k5 => k_asm); (case k6 => k_is); (case k7 => k_is); (case k8 => ktr_room); (case k9 => exact BindsTo.of_eq rfl); (case c5 => decide); (case kB => exact locs rfl); (case c2 => exact rfl); (case c3 => exact rfl); (case c4 => exact rfl); k_whole; intro g' L' h' FG' F' N' B' X' T' hkeep; (try dsimp only); (try k_lift B'); (try k_fold))
  k_steps
  all_goals (refine ret_end (Q := fun r s' => R (.ok (.ret r)) s') hret N hkeep (by k_asm) (by k_asm) (by k_asm) (by k_asm) (List.forall_mem_cons.mpr ⟨by k_mem, (List.forall_mem_cons.mpr ⟨by k_mem, (List.forall_mem_nil _)⟩)⟩) (by simp) ⟨rfl, _, _, _, _, _, rfl, ?_, ?_⟩)
  all_goals first | exact trivial | (intro f; omega) | (clear e0; unfold lexLe at *; omega)
theorem heappush_spec1 {w : World} {mean : ExcName → Option Value} {mg mb : Str → Option Value} {hp a0 it : Nat} {n : Nat} {c0 c k0 k : Int} {t0 t u0 u : Tok}  :
  CodeSpec w mean mg mb 28 [.ref hp, .ref it] [(hp, listOf #[.ref a0] n), (a0, tup2 c0 t0 k0 u0), (it, tup2 c t k u)] [hp] 4 60
   (fun r l => r = .none ∧ ∃ (b0 b1 : Nat) (C0 C1 K0 K1 : Int) (T0 T1 U0 U1 : Tok),
     l = [(hp, listOf #[.ref b0, .ref b1] (n + 1)), (b0, tup2 C0 T0 K0 U0), (b1, tup2 C1 T1 K1 U1)] ∧ (lexLe C0 K0 C1 K1) ∧ ∀ f : Int → Int → Int, f C0 K0 + f C1 K1 = f c k + f c0 k0) := by
  unfold CodeSpec; k_fill; intro dp un gd cn cs a ccd cl outer A₀ base h₀ L m s R B F X N T hk hdp hu hret
  have e0 : a0 ≠ hp := news_ne N (by k_mem) (by k_mem) (by simp)
  have e1 : it ≠ hp := news_ne N (by k_mem) (by k_mem) (by simp)
  k_dflt (refine' spec_code ?k1 ?k2 ?k3 ?k4 ?k5 ?kA ?kF ?kK ?k6 ?k7 ?k8 ?k9 ?kB ?_ ?c2 ?c3 ?c4 ?c5; (case kA => exact rfl); (case kF => exact rfl); (case kK => assumption); (case k1 => k_asm); (case k2 => k_asm); (case k3 => k_asm); (case k4 => k_asm); (case k5 => k_asm); (case k6 => k_is); (case k7 => k_is); (case k8 => ktr_room); (case k9 => exact BindsTo.of_eq rfl); (case c5 => decide); (case kB => exact locs rfl); (case c2 => exact rfl); (case c3 => exact rfl); (case c4 => exact rfl); k_whole; intro g' L' h' FG' F' N' B' X' T' hkeep; (try dsimp only); (try k_lift B'); (try k_fold))
  k_steps
  all_goals (refine ret_end (Q := fun r s' => R (.ok (.ret r)) s') hret N hkeep (by k_asm) (by k_asm) (by k_asm) (by k_asm) (List.forall_mem_cons.mpr ⟨by k_mem, (List.forall_mem_cons.mpr ⟨by k_mem, (List.forall_mem_cons.mpr ⟨by k_mem, (List.forall_mem_nil _)⟩)⟩)⟩) (by simp) ⟨rfl, _, _, _, _, _, _, _, _, _, _, rfl, ?_, ?_⟩)
  all_goals first | exact trivial | (intro f; omega) | (clear e0 e1; unfold lexLe at *; omega)
theorem heappush_spec2 {w : World} {mean : ExcName → Option Value} {mg mb : Str → Option Value} {hp a0 a1 it : Nat} {n : Nat} {c0 c1 c k0 k1 k : Int} {t0 t1 t u0 u1 u : Tok} (hq0 : lexLe c0 k0 c1 k1) :
  CodeSpec w mean mg mb 28 [.ref hp, .ref it] [(hp, listOf #[.ref a0, .ref a1] n), (a0, tup2 c0 t0 k0 u0), (a1, tup2 c1 t1 k1 u1), (it, tup2 c t k u)] [hp] 4 60
   (fun r l => r = .none ∧ ∃ (b0 b1 b2 : Nat) (C0 C1 C2 K0 K1 K2 : Int) (T0 T1 T2 U0 U1 U2 : Tok),
     l = [(hp, listOf #[.ref b0, .ref b1, .ref b2] (n + 1)), (b0, tup2 C0 T0 K0 U0), (b1, tup2 C1 T1 K1 U1), (b2, tup2 C2 T2 K2 U2)] ∧ (lexLe C0 K0 C1 K1 ∧ lexLe C0 K0 C2 K2) ∧ ∀ f : Int → Int → Int, f C0 K0 + f C1 K1 + f C2 K2 = f c k + f c0 k0 + f c1 k1) := by
  unfold CodeSpec; k_fill; intro dp un gd cn cs a ccd cl outer A₀ base h₀ L m s R B F X N T hk hdp hu hret
  have e0 : a0 ≠ hp := news_ne N (by k_mem) (by k_mem) (by simp)
  have e1 : a1 ≠ hp := news_ne N (by k_mem) (by k_mem) (by simp)
  have e2 : it ≠ hp := news_ne N (by k_mem) (by k_mem) (by simp)
  k_dflt (refine' spec_code ?k1 ?k2 ?k3 ?k4 ?k5 ?kA ?kF ?kK ?k6 ?k7 ?k8 ?k9 ?kB ?_ ?c2 ?c3 ?c4 ?c5; (case kA => exact rfl); (case kF => exact rfl); (case kK => assumption); (case k1 => k_asm); (case k2 => k_asm); (case k3 => k_asm); (case k4 => k_asm); (case k5 => k_asm); (case k6 => k_is); (case k7 => k_is); (case k8 => ktr_room); (case k9 => exact BindsTo.of_eq rfl); (case c5 => decide); (case kB => exact locs rfl); (case c2 => exact rfl); (case c3 => exact rfl); (case c4 => exact rfl); k_whole; intro g' L' h' FG' F' N' B' X' T' hkeep; (try dsimp only); (try k_lift B'); (try k_fold))
  k_steps
  all_goals (refine ret_end (Q := fun r s' => R (.ok (.ret r)) s') hret N hkeep (by k_asm) (by k_asm) (by k_asm) (by k_asm) (List.forall_mem_cons.mpr ⟨by k_mem, (List.forall_mem_cons.mpr ⟨by k_mem, (List.forall_mem_cons.mpr ⟨by k_mem, (List.forall_mem_cons.mpr ⟨by k_mem, (List.forall_mem_nil _)⟩)⟩)⟩)⟩) (by simp) ⟨rfl, _, _, _, _, _, _, _, _, _, _, _, _, _, _, _, rfl, ?_, ?_⟩)
  all_goals first | exact trivial | (intro f; omega) | (clear e0 e1 e2; unfold lexLe at *; omega)
theorem heappush_spec3 {w : World} {mean : ExcName → Option Value} {mg mb : Str → Option Value} {hp a0 a1 a2 it : Nat} {n : Nat} {c0 c1 c2 c k0 k1 k2 k : Int} {t0 t1 t2 t u0 u1 u2 u : Tok} (hq0 : lexLe c0 k0 c1 k1) (hq1 : lexLe c0 k0 c2 k2) :
  CodeSpec w mean mg mb 28 [.ref hp, .ref it] [(hp, listOf #[.ref a0, .ref a1, .ref a2] n), (a0, tup2 c0 t0 k0 u0), (a1, tup2 c1 t1 k1 u1), (a2, tup2 c2 t2 k2 u2), (it, tup2 c t k u)] [hp] 4 60
   (fun r l => r = .none ∧ ∃ (b0 b1 b2 b3 : Nat) (C0 C1 C2 C3 K0 K1 K2 K3 : Int) (T0 T1 T2 T3 U0 U1 U2 U3 : Tok),
     l = [(hp, listOf #[.ref b0, .ref b1, .ref b2, .ref b3] (n + 1)), (b0, tup2 C0 T0 K0 U0), (b1, tup2 C1 T1 K1 U1), (b2, tup2 C2 T2 K2 U2), (b3, tup2 C3 T3 K3 U3)] ∧ (lexLe C0 K0 C1 K1 ∧ lexLe C0 K0 C2 K2 ∧ lexLe C1 K1 C3 K3) ∧ ∀ f : Int → Int → Int, f C0 K0 + f C1 K1 + f C2 K2 + f C3 K3 = f c k + f c0 k0 + f c1 k1 + f c2 k2) := by
  unfold CodeSpec; k_fill; intro dp un gd cn cs a ccd cl outer A₀ base h₀ L m s R B F X N T hk hdp hu hret
  have e0 : a0 ≠ hp := news_ne N (by k_mem) (by k_mem) (by simp)
  have e1 : a1 ≠ hp := news_ne N (by k_mem) (by k_mem) (by simp)
  have e2 : a2 ≠ hp := news_ne N (by k_mem) (by k_mem) (by simp)
  have e3 : it ≠ hp := news_ne N (by k_mem) (by k_mem) (by simp)
  k_dflt (refine' spec_code ?k1 ?k2 ?k3 ?k4 ?k5 ?kA ?kF ?kK ?k6 ?k7 ?k8 ?k9 ?kB ?_ ?c2 ?c3 ?c4 ?c5; (case kA => exact rfl); (case kF => exact rfl); (case kK => assumption); (case k1 => k_asm); (case k2 => k_asm); (case k3 => k_asm); (case k4 => k_asm); (case k5 => k_asm); (case k6 => k_is); (case k7 => k_is); (case k8 => ktr_room); (case k9 => exact BindsTo.of_eq rfl); (case c5 => decide); (case kB => exact locs rfl); (case c2 => exact rfl); (case c3 => exact rfl); (case c4 => exact rfl); k_whole; intro g' L' h' FG' F' N' B' X' T' hkeep; (try dsimp only); (try k_lift B'); (try k_fold))
  k_steps
  all_goals (refine ret_end (Q := fun r s' => R (.ok (.ret r)) s') hret N hkeep (by k_asm) (by k_asm) (by k_asm) (by k_asm) (List.forall_mem_cons.mpr ⟨by k_mem, (List.forall_mem_cons.mpr ⟨by k_mem, (List.forall_mem_cons.mpr ⟨by k_mem, (List.forall_mem_cons.mpr ⟨by k_mem, (List.forall_mem_cons.mpr ⟨by k_mem, (List.forall_mem_nil _)⟩)⟩)⟩)⟩)⟩) (by simp) ⟨rfl, _, _, _, _, _, _, _, _, _, _, _, _, _, _, _, _, _, _, _, _, rfl, ?_, ?_⟩)
  all_goals first | exact trivial | (intro f; omega) | (clear e0 e1 e2 e3; unfold lexLe at *; omega)
theorem heappush_spec4 {w : World} {mean : ExcName → Option Value} {mg mb : Str → Option Value} {hp a0 a1 a2 a3 it : Nat} {n : Nat} {c0 c1 c2 c3 c k0 k1 k2 k3 k : Int} {t0 t1 t2 t3 t u0 u1 u2 u3 u : Tok} (hq0 : lexLe c0 k0 c1 k1) (hq1 : lexLe c0 k0 c2 k2) (hq2 : lexLe c1 k1 c3 k3) :
  CodeSpec w mean mg mb 28 [.ref hp, .ref it] [(hp, listOf #[.ref a0, .ref a1, .ref a2, .ref a3] n), (a0, tup2 c0 t0 k0 u0), (a1, tup2 c1 t1 k1 u1), (a2, tup2 c2 t2 k2 u2), (a3, tup2 c3 t3 k3 u3), (it, tup2 c t k u)] [hp] 4 60
   (fun r l => r = .none ∧ ∃ (b0 b1 b2 b3 b4 : Nat) (C0 C1 C2 C3 C4 K0 K1 K2 K3 K4 : Int) (T0 T1 T2 T3 T4 U0 U1 U2 U3 U4 : Tok),
     l = [(hp, listOf #[.ref b0, .ref b1, .ref b2, .ref b3, .ref b4] (n + 1)), (b0, tup2 C0 T0 K0 U0), (b1, tup2 C1 T1 K1 U1), (b2, tup2 C2 T2 K2 U2), (b3, tup2 C3 T3 K3 U3), (b4, tup2 C4 T4 K4 U4)] ∧ (lexLe C0 K0 C1 K1 ∧ lexLe C0 K0 C2 K2 ∧ lexLe C1 K1 C3 K3 ∧ lexLe C1 K1 C4 K4) ∧ ∀ f : Int → Int → Int, f C0 K0 + f C1 K1 + f C2 K2 + f C3 K3 + f C4 K4 = f c k + f c0 k0 + f c1 k1 + f c2 k2 + f c3 k3) := by
  unfold CodeSpec; k_fill; intro dp un gd cn cs a ccd cl outer A₀ base h₀ L m s R B F X N T hk hdp hu hret
  have e0 : a0 ≠ hp := news_ne N (by k_mem) (by k_mem) (by simp)
  have e1 : a1 ≠ hp := news_ne N (by k_mem) (by k_mem) (by simp)
  have e2 : a2 ≠ hp := news_ne N (by k_mem) (by k_mem) (by simp)
  have e3 : a3 ≠ hp := news_ne N (by k_mem) (by k_mem) (by simp)
  have e4 : it ≠ hp := news_ne N (by k_mem) (by k_mem) (by simp)
  k_dflt (refine' spec_code ?k1 ?k2 ?k3 ?k4 ?k5 ?kA ?kF ?kK ?k6 ?k7 ?k8 ?k9 ?kB ?_ ?c2 ?c3 ?c4 ?c5; (case kA => exact rfl); (case kF => exact rfl); (case kK => assumption); (case k1 => k_asm); (case k2 => k_asm); (case k3 => k_asm); (case k4 => k_asm); (case k5 => k_asm); (case k6 => k_is); (case k7 => k_is); (case k8 => ktr_room); (case k9 => exact BindsTo.of_eq rfl); (case c5 => decide); (case kB => exact locs rfl); (case c2 => exact rfl); (case c3 => exact rfl); (case c4 => exact rfl); k_whole; intro g' L' h' FG' F' N' B' X' T' hkeep; (try dsimp only); (try k_lift B'); (try k_fold))
  k_steps
  all_goals (refine ret_end (Q := fun r s' => R (.ok (.ret r)) s') hret N hkeep (by k_asm) (by k_asm) (by k_asm) (by k_asm) (List.forall_mem_cons.mpr ⟨by k_mem, (List.forall_mem_cons.mpr ⟨by k_mem, (List.forall_mem_cons.mpr ⟨by k_mem, (List.forall_mem_cons.mpr ⟨by k_mem, (List.forall_mem_cons.mpr ⟨by k_mem, (List.forall_mem_cons.mpr ⟨by k_mem, (List.forall_mem_nil _)⟩)⟩)⟩)⟩)⟩)⟩) (by simp) ⟨rfl, _, _, _, _, _, _, _, _, _, _, _, _, _, _, _, _, _, _, _, _, _, _, _, _, _, rfl, ?_, ?_⟩)
  all_goals first | exact trivial | (intro f; omega) | (clear e0 e1 e2 e3 e4; unfold lexLe at *; omega)
end
section
local macro_rules | `(tactic| k_ne) => `(tactic| (refine neN ?_; (try dsimp only); first | with_reducible assumption | exact Ne.symm (by with_reducible assumption)))
local macro_rules | `(tactic| walk_at "setItem ref int int") => `(tactic| (k_here; k_dflt (refine' ki_set ?F ?N ?a ?b ?e ?U ?_; (case F => k_asm); (case N => k_asm); (case U => k_upd); (case a => decide); (case b => decide); (case e => rfl)); ki_rest))
def tbStr (t b : Nat) : Str := ⟨(List.replicate t 9 ++ List.replicate b 32).toArray⟩
theorem tb_signs (t b : Nat) : (tbStr t b).cps.toList.map (fun c => (⟨#[c]⟩ : Str)) = List.replicate t (Str.ofString "\t") ++ List.replicate b (Str.ofString " ") := by
  have e1 : Str.ofString "\t" = ⟨#[9]⟩ := by decide +kernel
  have e2 : Str.ofString " " = ⟨#[32]⟩ := by decide +kernel
  rw [e1, e2]
  simp [tbStr, List.map_append, List.map_replicate]
/-- the count of tabs, as the lead keeps it -/
abbrev cntOf (t : Nat) (k : Tok) : Array Value := if t = 0 then #[] else #[.int t k]
abbrev tupO (vs : Array Value) : Obj := { cls := .type "tuple", data := .seq vs 0 }
abbrev leadDict (w : World) (raw : Value) (n : Int) (t : Int) (nx : Addr) (sm : Bool) (q1 q2 q3 q4 q5 k1 k2 : Tok) : Obj :=
  dictOf [⟨PyData.keyHash w.params (Str.ofString "raw"), .str (Str.ofString "raw") q1, raw⟩, ⟨PyData.keyHash w.params (Str.ofString "n"), .str (Str.ofString "n") q2, .int n k1⟩,
    ⟨PyData.keyHash w.params (Str.ofString "nt"), .str (Str.ofString "nt") q3, .int t k2⟩, ⟨PyData.keyHash w.params (Str.ofString "norm"), .str (Str.ofString "norm") q4, .ref nx⟩,
    ⟨PyData.keyHash w.params (Str.ofString "is_simple"), .str (Str.ofString "is_simple") q5, .bool sm⟩] 5
/-- a lead in the ledger -/
structure Lead where
  x : Nat
  dx : Nat
  nx : Nat
  cx : Nat
  t : Nat
  b : Nat
  raw : Value
  n : Int
  sm : Bool
  q1 : Tok
  q2 : Tok
  q3 : Tok
  q4 : Tok
  q5 : Tok
  k1 : Tok
  k2 : Tok
  k3 : Tok
  k4 : Tok
abbrev Lead.led (w : World) (l : Lead) : Led :=
  [(l.x, instObj 111 l.dx), (l.dx, leadDict w l.raw l.n l.t l.nx l.sm l.q1 l.q2 l.q3 l.q4 l.q5 l.k1 l.k2), (l.nx, tupO #[.ref l.cx, .int l.b l.k3]), (l.cx, tupO (cntOf l.t l.k4))]
structure WsS where
  nt : Nat
  nb : Nat
  ca : Nat
  e : Nat
  k1 : Tok
  k2 : Tok
  k3 : Tok
  k4 : Tok
theorem init_spec {w : World} {mean : ExcName → Option Value} {mg mb : Str → Option Value} {x dx t b : Nat} {tk0 : Tok} (ht : t ≤ 3) (hb : b ≤ 5) :
  CodeSpec w mean mg mb 66 [.ref x, .str (tbStr t b) tk0] [(x, instObj 111 dx), (dx, dictOf [] 0)] [dx] 4 60
    (fun r l => r = .none ∧ ∃ z : Lead, z.x = x ∧ z.dx = dx ∧ z.t = t ∧ z.b = b ∧ l = z.led w) := by
  unfold CodeSpec; k_fill; intro dp un gd cn cs a ccd cl outer A₀ base h₀ L m s R B F X N T hk hdp hu hret
  have e0 : x ≠ dx := news_ne N (by k_mem) (by k_mem) (by simp)
  k_dflt (refine' spec_code ?k1 ?k2 ?k3 ?k4 ?k5 ?kA ?kF ?kK ?k6 ?k7 ?k8 ?k9 ?kB ?_ ?c2 ?c3 ?c4 ?c5; (case kA => exact rfl); (case kF => exact rfl); (case kK => assumption); (case k1 => k_asm); (case k2 => k_asm); (case k3 => k_asm); (case k4 => k_asm); (case k5 => k_asm); (case k6 => k_is); (case k7 => k_is); (case k8 => ktr_room); (case k9 => exact BindsTo.of_eq rfl); (case c5 => decide); (case kB => exact locs rfl); (case c2 => exact rfl); (case c3 => exact rfl); (case c4 => exact rfl); k_whole; intro g' L' h' FG' F' N' B' X' T' hkeep; (try dsimp only); (try k_lift B'); (try k_fold))
  repeat' ((fail_if_success (with_reducible show wpAny _ _ (PySem.call (Value.ref _) _) _ _ _)); (fail_if_success (with_reducible show wpAny _ _ (pyIter _) _ _ _)); first | (k_unfold; (try dsimp only)) | (k_end; wrow_close) | walk1 | (dsimp only; walk1) | (leave1; walk_say "STEP leave1"; try dsimp only) | fail "no step")
  refine' pack (σ := Tok × Nat × Tok × Tok × Tok) (fun z => [(Str.ofString "n", .int 0 z.2.2.1), (Str.ofString "nt", .int 0 z.2.2.2.1), (Str.ofString "b", .int 0 z.2.2.2.2), (Str.ofString "count", .ref z.2.1), (Str.ofString "S", .str (Str.ofString " ") 253), (Str.ofString "T", .str (Str.ofString "\t") 254), (Str.ofString "self", .ref x)])
    (fun z => [(z.2.1, listOf #[] 0), (x, instObj 111 dx), (dx, dictOf [⟨PyData.keyHash w.params (Str.ofString "raw"), .str (Str.ofString "raw") z.1, .str (tbStr t b) tk0⟩] 1)]) ?F ?N ⟨_, _, _, _, _⟩ ?hm ?hn ?_
  case F => k_asm
  case N => k_asm
  case hn => (dsimp only; exact (List.forall_mem_cons.mpr ⟨by k_mem, (List.forall_mem_cons.mpr ⟨by k_mem, (List.forall_mem_cons.mpr ⟨by k_mem, (List.forall_mem_nil _)⟩)⟩)⟩))
  case hm => kst_all
  rintro ⟨q, ca, k1, k2, k3⟩ m1 hm1 F2 N2
  dsimp only at hm1 N2
  refine iter_strUnr (by rfl) F2 N2 (tb_signs t b) (fun I hI => ?_)
  refine str_inv (σ := WsS) (fun _ z => [(z.ca, listOf (cntOf z.nt z.k4) z.e), (x, instObj 111 dx), (dx, dictOf [⟨PyData.keyHash w.params (Str.ofString "raw"), .str (Str.ofString "raw") q, .str (tbStr t b) tk0⟩] 1)])
    (fun _ z => [(Str.ofString "n", .int (z.nt + z.nb) z.k1), (Str.ofString "nt", .int z.nt z.k2), (Str.ofString "b", .int z.nb z.k3), (Str.ofString "count", .ref z.ca), (Str.ofString "S", .str (Str.ofString " ") 253), (Str.ofString "T", .str (Str.ofString "\t") 254), (Str.ofString "self", .ref x)])
    (fun r z => (z.nt < t ∧ z.nb = 0 ∧ r = List.replicate (t - z.nt) (Str.ofString "\t") ++ List.replicate b (Str.ofString " ")) ∨ (z.nt = t ∧ z.nb ≤ b ∧ r = List.replicate (b - z.nb) (Str.ofString " ")))
    ?step ?done _ _ _ (fun p hp => Nat.ne_of_lt (hI p hp)) ⟨⟨0, 0, ca, 0, k1, k2, k3, 0⟩, rfl, hm1, ?init⟩
  case init =>
    rcases Nat.eq_zero_or_pos t with h0 | h0
    · subst h0; exact .inr ⟨rfl, Nat.zero_le _, rfl⟩
    · exact .inl ⟨h0, rfl, rfl⟩
  case step =>
    intro c r z v u it h tk hp ho F3 N3
    obtain ⟨nt, nb, ca, e, k1, k2, k3, k4⟩ := z
    dsimp only [kstB] at hp ho F3 N3 ⊢
    have o1 : ca ≠ I := ho (ca, _) (by k_mem)
    have o2 : x ≠ I := ho (x, _) (by k_mem)
    have o3 : dx ≠ I := ho (dx, _) (by k_mem)
    clear ho
    have l1 : dx ≠ ca := news_ne N3 (by k_mem) (by k_mem) (by simp)
    have l2 : x ≠ ca := news_ne N3 (by k_mem) (by k_mem) (by simp)
    rcases hp with ⟨p1, p2, p3⟩ | ⟨p1, p2, p3⟩
    · obtain ⟨i, hi⟩ : ∃ i, t - nt = i + 1 := ⟨t - nt - 1, by omega⟩
      rw [hi, List.replicate_succ, List.cons_append] at p3
      obtain ⟨rfl, rfl⟩ := List.cons.inj p3
      subst p2
      rcases Nat.eq_zero_or_pos nt with h0 | h0
      · subst h0
        simp only [cntOf, if_true] at N3
        repeat' ( (fail_if_success (with_reducible show UnrEnd _ _ _ _ _ _ _)); (fail_if_success (with_reducible show KswEnd _ _ _ _ _ _ _ _ _ _ _ _)); first | (k_unfold; (try dsimp only)) | (k_end; wrow_close) | walk1 | (dsimp only; walk1) | (leave1; walk_say "STEP leave1"; try dsimp only) | fail "no step")
        refine' unr_end2 (⟨1, 0, _, _, _, _, _, _⟩ : WsS) ?zF35 ?zN35 ?zI35 ?zs35 ?zo35 ?zm35 ?zp35; (case zF35 => k_asm); (case zN35 => k_asm); (case zI35 => k_mem); (case zs35 => (dsimp only; exact (List.forall_mem_cons.mpr ⟨by k_mem, (List.forall_mem_cons.mpr ⟨by k_mem, (List.forall_mem_cons.mpr ⟨by k_mem, (List.forall_mem_nil _)⟩)⟩)⟩))); (case zm35 => kst_all); (case zo35 => (dsimp only; exact (List.forall_mem_cons.mpr ⟨by first | with_reducible assumption | exact Nat.ne_of_gt (by omega) | exact Nat.ne_of_lt (by omega), (List.forall_mem_cons.mpr ⟨by first | with_reducible assumption | exact Nat.ne_of_gt (by omega) | exact Nat.ne_of_lt (by omega), (List.forall_mem_cons.mpr ⟨by first | with_reducible assumption | exact Nat.ne_of_gt (by omega) | exact Nat.ne_of_lt (by omega), (List.forall_mem_nil _)⟩)⟩)⟩)))
        dsimp only
        by_cases h1 : 1 < t
        · exact .inl ⟨h1, rfl, by rw [show i = t - 1 from by omega]⟩
        · exact .inr ⟨by omega, Nat.zero_le _, by rw [show i = 0 from by omega]; rfl⟩
      · rw [show cntOf nt k4 = #[.int nt k4] from if_neg (by omega)] at N3
        repeat' ( (fail_if_success (with_reducible show UnrEnd _ _ _ _ _ _ _)); (fail_if_success (with_reducible show KswEnd _ _ _ _ _ _ _ _ _ _ _ _)); first | (k_unfold; (try dsimp only)) | (k_end; wrow_close) | walk1 | (dsimp only; walk1) | (leave1; walk_say "STEP leave1"; try dsimp only) | fail "no step")
        refine' unr_end2 (⟨nt + 1, 0, _, _, _, _, _, _⟩ : WsS) ?zF37 ?zN37 ?zI37 ?zs37 ?zo37 ?zm37 ?zp37; (case zF37 => k_asm); (case zN37 => k_asm); (case zI37 => k_mem); (case zs37 => (dsimp only; exact (List.forall_mem_cons.mpr ⟨by k_mem, (List.forall_mem_cons.mpr ⟨by k_mem, (List.forall_mem_cons.mpr ⟨by k_mem, (List.forall_mem_nil _)⟩)⟩)⟩))); (case zm37 => kst_all); (case zo37 => (dsimp only; exact (List.forall_mem_cons.mpr ⟨by first | with_reducible assumption | exact Nat.ne_of_gt (by omega) | exact Nat.ne_of_lt (by omega), (List.forall_mem_cons.mpr ⟨by first | with_reducible assumption | exact Nat.ne_of_gt (by omega) | exact Nat.ne_of_lt (by omega), (List.forall_mem_cons.mpr ⟨by first | with_reducible assumption | exact Nat.ne_of_gt (by omega) | exact Nat.ne_of_lt (by omega), (List.forall_mem_nil _)⟩)⟩)⟩)))
        dsimp only
        by_cases h1 : nt + 1 < t
        · exact .inl ⟨h1, rfl, by rw [show i = t - (nt + 1) from by omega]⟩
        · exact .inr ⟨by omega, Nat.zero_le _, by rw [show i = 0 from by omega]; rfl⟩
    · obtain ⟨i, hi⟩ : ∃ i, b - nb = i + 1 := by
        rcases Nat.eq_zero_or_pos (b - nb) with h0 | h0
        · rw [h0] at p3; cases p3
        · exact ⟨b - nb - 1, by omega⟩
      rw [hi, List.replicate_succ] at p3
      obtain ⟨rfl, rfl⟩ := List.cons.inj p3
      repeat' ( (fail_if_success (with_reducible show UnrEnd _ _ _ _ _ _ _)); (fail_if_success (with_reducible show KswEnd _ _ _ _ _ _ _ _ _ _ _ _)); first | (k_unfold; (try dsimp only)) | (k_end; wrow_close) | walk1 | (dsimp only; walk1) | (leave1; walk_say "STEP leave1"; try dsimp only) | fail "no step")
      refine' unr_end2 (⟨nt, nb + 1, _, _, _, _, _, _⟩ : WsS) ?zF39 ?zN39 ?zI39 ?zs39 ?zo39 ?zm39 ?zp39; (case zF39 => k_asm); (case zN39 => k_asm); (case zI39 => k_mem); (case zs39 => (dsimp only; exact (List.forall_mem_cons.mpr ⟨by k_mem, (List.forall_mem_cons.mpr ⟨by k_mem, (List.forall_mem_cons.mpr ⟨by k_mem, (List.forall_mem_nil _)⟩)⟩)⟩))); (case zm39 => kst_all); (case zo39 => (dsimp only; exact (List.forall_mem_cons.mpr ⟨by first | with_reducible assumption | exact Nat.ne_of_gt (by omega) | exact Nat.ne_of_lt (by omega), (List.forall_mem_cons.mpr ⟨by first | with_reducible assumption | exact Nat.ne_of_gt (by omega) | exact Nat.ne_of_lt (by omega), (List.forall_mem_cons.mpr ⟨by first | with_reducible assumption | exact Nat.ne_of_gt (by omega) | exact Nat.ne_of_lt (by omega), (List.forall_mem_nil _)⟩)⟩)⟩)))
      dsimp only
      exact .inr ⟨p1, by omega, by rw [show i = b - (nb + 1) from by omega]⟩
  case done =>
    intro z v h tk hp F3 N3
    obtain ⟨nt, nb, ca, e, k1, k2, k3, k4⟩ := z
    dsimp only [kstB] at hp F3 N3
    obtain ⟨h1, h2⟩ : nt = t ∧ nb = b := by
      rcases hp with ⟨p1, p2, p3⟩ | ⟨p1, p2, p3⟩
      · obtain ⟨i, hi⟩ : ∃ i, t - nt = i + 1 := ⟨t - nt - 1, by omega⟩
        rw [hi, List.replicate_succ] at p3
        cases p3
      · rcases Nat.eq_zero_or_pos (b - nb) with h0 | h0
        · exact ⟨p1, by omega⟩
        · obtain ⟨i, hi⟩ : ∃ i, b - nb = i + 1 := ⟨b - nb - 1, by omega⟩
          rw [hi, List.replicate_succ] at p3
          cases p3
    subst h1 h2
    clear hp
    have l1 : ca ≠ dx := news_ne N3 (by k_mem) (by k_mem) (by simp)
    rcases Nat.eq_zero_or_pos nt with h0 | h0
    · subst h0
      simp only [cntOf, if_true] at N3
      repeat' ((fail_if_success (with_reducible show wpAny _ _ (PySem.call (Value.ref _) _) _ _ _)); first | (k_unfold; (try dsimp only)) | (k_end; wrow_close) | walk1 | (dsimp only; walk1) | (leave1; walk_say "STEP leave1"; try dsimp only) | fail "no step")
      refine' ret_end (sub' := Lead.led w ⟨x, dx, _, _, 0, nb, _, _, _, _, _, _, _, _, _, _, _, 0⟩) (Q := fun r s' => R (.ok (.ret r)) s') hret N hkeep ?rF41 ?rN41 ?rG41 ?rM41 ?rin41 ?rsub41 ?rp41; (case rF41 => k_asm); (case rN41 => k_asm); (case rG41 => k_asm); (case rM41 => k_asm); (case rin41 => exact (List.forall_mem_cons.mpr ⟨by k_mem, (List.forall_mem_cons.mpr ⟨by k_mem, (List.forall_mem_cons.mpr ⟨by k_mem, (List.forall_mem_cons.mpr ⟨by k_mem, (List.forall_mem_nil _)⟩)⟩)⟩)⟩)); (case rsub41 => simp)
      exact ⟨rfl, _, rfl, rfl, rfl, rfl, rfl⟩
    · rw [show cntOf nt k4 = #[.int nt k4] from if_neg (by omega)] at N3
      repeat' ((fail_if_success (with_reducible show wpAny _ _ (PySem.call (Value.ref _) _) _ _ _)); first | (k_unfold; (try dsimp only)) | (k_end; wrow_close) | walk1 | (dsimp only; walk1) | (leave1; walk_say "STEP leave1"; try dsimp only) | fail "no step")
      have hc : cntOf nt k4 = #[.int nt k4] := if_neg (by omega)
      refine' ret_end (sub' := Lead.led w ⟨x, dx, _, _, nt, nb, _, _, _, _, _, _, _, _, _, _, _, k4⟩) (Q := fun r s' => R (.ok (.ret r)) s') hret N hkeep ?rF ?rN ?rG ?rM ?rin ?rsub ?rp
      case rF => k_asm
      case rN => k_asm
      case rG => k_asm
      case rM => k_asm
      case rin => (dsimp only [Lead.led]; rw [hc]; exact (List.forall_mem_cons.mpr ⟨by k_mem, (List.forall_mem_cons.mpr ⟨by k_mem, (List.forall_mem_cons.mpr ⟨by k_mem, (List.forall_mem_cons.mpr ⟨by k_mem, (List.forall_mem_nil _)⟩)⟩)⟩)⟩))
      case rsub => simp
      case rp => exact ⟨rfl, _, rfl, rfl, rfl, rfl, rfl⟩
end
theorem level_spec {w : World} {mean : ExcName → Option Value} {mg mb : Str → Option Value} {z : Lead} {size : Int} {ts : Tok} (h1 : 1 ≤ size) (h6 : size ≤ 6) :
  CodeSpec w mean mg mb 80 [.ref z.x, .int size ts] (z.led w) [] 4 60
    (fun r l => (∃ q, r = .int (z.b + size * z.t) q) ∧ l = []) := by
  obtain ⟨x, dx, nx, cx, t, b, raw, n, sm, q1, q2, q3, q4, q5, k1, k2, k3, k4⟩ := z
  dsimp only [Lead.led]
  rcases Nat.eq_zero_or_pos t with h0 | h0
  · subst h0
    simp only [cntOf, if_true]
    unfold CodeSpec; k_fill; intro dp un gd cn cs a ccd cl outer A₀ base h₀ L m s R B F X N T hk hdp hu hret
    k_dflt (refine' spec_code ?k1 ?k2 ?k3 ?k4 ?k5 ?kA ?kF ?kK ?k6 ?k7 ?k8 ?k9 ?kB ?_ ?c2 ?c3 ?c4 ?c5; (case kA => exact rfl); (case kF => exact rfl); (case kK => assumption); (case k1 => k_asm); (case k2 => k_asm); (case k3 => k_asm); (case k4 => k_asm); (case k5 => k_asm); (case k6 => k_is); (case k7 => k_is); (case k8 => ktr_room); (case k9 => exact BindsTo.of_eq rfl); (case c5 => decide); (case kB => exact locs rfl); (case c2 => exact rfl); (case c3 => exact rfl); (case c4 => exact rfl); k_whole; intro g' L' h' FG' F' N' B' X' T' hkeep; (try dsimp only); (try k_lift B'); (try k_fold))
    repeat' ((fail_if_success (with_reducible show wpAny _ _ (PySem.call (Value.ref _) _) _ _ _)); (fail_if_success (with_reducible show wpAny _ _ (pyIter _) _ _ _)); first | (k_unfold; (try dsimp only)) | (k_end; wrow_close) | walk1 | (dsimp only; walk1) | (leave1; walk_say "STEP leave1"; try dsimp only) | fail "no step")
    rename IsRange _ _ _ _ _ _ _ _ => hR
    refine iter_rangeUnr (n := 0) (by rfl) hR (range_small (by omega) (by omega) (by decide) (by decide)) (range_size (.inr ⟨(show (0 : Int) ≤ size from by omega), rfl⟩)) (by k_asm) (by k_asm) (fun I hI => RangeRest.zero (fun h9 tk9 F9 N9 => ?_))
    dsimp only
    k_steps
    refine' ret_end (sub' := []) (Q := fun r s' => R (.ok (.ret r)) s') hret N hkeep ?rF47 ?rN47 ?rG47 ?rM47 ?rin47 ?rsub47 ?rp47; (case rF47 => k_asm); (case rN47 => k_asm); (case rG47 => k_asm); (case rM47 => k_asm); (case rin47 => exact (List.forall_mem_nil _)); (case rsub47 => simp)
    exact ⟨⟨_, by rw [Int.zero_add]⟩, rfl⟩
  · rw [show cntOf t k4 = #[.int t k4] from if_neg (by omega)]
    unfold CodeSpec; k_fill; intro dp un gd cn cs a ccd cl outer A₀ base h₀ L m s R B F X N T hk hdp hu hret
    k_dflt (refine' spec_code ?k1 ?k2 ?k3 ?k4 ?k5 ?kA ?kF ?kK ?k6 ?k7 ?k8 ?k9 ?kB ?_ ?c2 ?c3 ?c4 ?c5; (case kA => exact rfl); (case kF => exact rfl); (case kK => assumption); (case k1 => k_asm); (case k2 => k_asm); (case k3 => k_asm); (case k4 => k_asm); (case k5 => k_asm); (case k6 => k_is); (case k7 => k_is); (case k8 => ktr_room); (case k9 => exact BindsTo.of_eq rfl); (case c5 => decide); (case kB => exact locs rfl); (case c2 => exact rfl); (case c3 => exact rfl); (case c4 => exact rfl); k_whole; intro g' L' h' FG' F' N' B' X' T' hkeep; (try dsimp only); (try k_lift B'); (try k_fold))
    repeat' ((fail_if_success (with_reducible show wpAny _ _ (PySem.call (Value.ref _) _) _ _ _)); (fail_if_success (with_reducible show wpAny _ _ (pyIter _) _ _ _)); first | (k_unfold; (try dsimp only)) | (k_end; wrow_close) | walk1 | (dsimp only; walk1) | (leave1; walk_say "STEP leave1"; try dsimp only) | fail "no step")
    rename IsRange _ _ _ _ _ _ _ _ => hR
    refine iter_rangeUnr (n := 0) (by rfl) hR (range_small (by omega) (by omega) (by decide) (by decide)) (range_size (.inr ⟨(show (1 : Int) ≤ size from h1), rfl⟩)) (by k_asm) (by k_asm) (fun I hI => RangeRest.zero (fun h9 tk9 F9 N9 => ?_))
    dsimp only
    k_steps
    refine' ret_end (sub' := []) (Q := fun r s' => R (.ok (.ret r)) s') hret N hkeep ?rF51 ?rN51 ?rG51 ?rM51 ?rin51 ?rsub51 ?rp51; (case rF51 => k_asm); (case rN51 => k_asm); (case rG51 => k_asm); (case rM51 => k_asm); (case rin51 => exact (List.forall_mem_nil _)); (case rsub51 => simp)
    exact ⟨⟨_, by rw [Int.zero_add]⟩, rfl⟩
section
local macro_rules | `(tactic| walk_at "call ref") => `(tactic| (k_here; k_dflt (refine' pure_use (level_spec (by first | decide | omega) (by first | decide | omega)) ?uB ?uF ?uX ?uN ?uT ?uk ?uin ?ud ?uu ?_; (case uB => k_asm); (case uF => k_asm); (case uX => k_asm); (case uN => k_asm); (case uT => k_asm); (case uk => first | exact rfl | assumption); (case uin => exact (List.forall_mem_cons.mpr ⟨by k_mem, (List.forall_mem_cons.mpr ⟨by k_mem, (List.forall_mem_cons.mpr ⟨by k_mem, (List.forall_mem_cons.mpr ⟨by k_mem, (List.forall_mem_nil _)⟩)⟩)⟩)⟩)); (case ud => ktr_room); (case uu => ktr_units); k_whole); intro r9 h9 tk9 F9 N9 P9; obtain ⟨q9, e9⟩ := P9; subst e9; (try dsimp only); (try k_fold)))
theorem marks_spec {w : World} {mean : ExcName → Option Value} {mg mb : Str → Option Value} {z : Lead} :
  CodeSpec w mean mg mb 141 [.ref z.x] (z.led w) [] 6 80
    (fun r l => ∃ (a : Nat) (q1 q2 q3 : Tok), r = .ref a ∧ l = [(a, listOf #[.int (2 * (z.b + 1 * z.t)) q1, .int (z.b + 2 * z.t) q2, .int (3 * (z.b + 1 * z.t) - (z.b + 2 * z.t)) q3] 0)]) := by
  unfold CodeSpec; k_fill; intro dp un gd cn cs a ccd cl outer A₀ base h₀ L m s R B F X N T hk hdp hu hret
  k_dflt (refine' spec_code ?k1 ?k2 ?k3 ?k4 ?k5 ?kA ?kF ?kK ?k6 ?k7 ?k8 ?k9 ?kB ?_ ?c2 ?c3 ?c4 ?c5; (case kA => exact rfl); (case kF => exact rfl); (case kK => assumption); (case k1 => k_asm); (case k2 => k_asm); (case k3 => k_asm); (case k4 => k_asm); (case k5 => k_asm); (case k6 => k_is); (case k7 => k_is); (case k8 => ktr_room); (case k9 => exact BindsTo.of_eq rfl); (case c5 => decide); (case kB => exact locs rfl); (case c2 => exact rfl); (case c3 => exact rfl); (case c4 => exact rfl); k_whole; intro g' L' h' FG' F' N' B' X' T' hkeep; (try dsimp only); (try k_lift B'); (try k_fold))
  k_steps
  refine' ret_end (Q := fun r s' => R (.ok (.ret r)) s') (sub' := [(_, listOf #[.int _ _, .int _ _, .int _ _] 0)]) hret N hkeep ?rF55 ?rN55 ?rG55 ?rM55 ?rin55 ?rsub55 ?rp55; (case rF55 => k_asm); (case rN55 => k_asm); (case rG55 => k_asm); (case rM55 => k_asm); (case rin55 => exact (List.forall_mem_cons.mpr ⟨by k_mem, (List.forall_mem_nil _)⟩)); (case rsub55 => simp)
  exact ⟨_, _, _, _, rfl, rfl⟩
end
section
variable {w : World} {A : Around} {E : Value → Shared → Prop} {s : Shared} {h₀ : Heap} {L : Addr} {m : Str → Option Value} {news : Led}
theorem lead_method {z : Lead} {pl : Sem Bool} {Q : Value × List Value → Shared → Prop} (F : Fr h₀ L s.heap m) (X₀ : (hd.heap_39 w.params).In h₀) (N : News h₀ L s.heap news) (hz : ∀ p ∈ z.led w, p ∈ news)
    (hg : plainGet (hd.heap_39 w.params) 111 (Str.ofString "indent_level") = true) (hf : findIn (hd.heap_39 w.params) (.ref 111) (Str.ofString "indent_level") = some (some (.ref 80))) (ht : isFn (hd.heap_39 w.params) (.ref 80) = true)
    (hl : getL (Str.ofString "indent_level") [⟨PyData.keyHash w.params (Str.ofString "raw"), .str (Str.ofString "raw") z.q1, z.raw⟩, ⟨PyData.keyHash w.params (Str.ofString "n"), .str (Str.ofString "n") z.q2, .int z.n z.k1⟩,
    ⟨PyData.keyHash w.params (Str.ofString "nt"), .str (Str.ofString "nt") z.q3, .int z.t z.k2⟩, ⟨PyData.keyHash w.params (Str.ofString "norm"), .str (Str.ofString "norm") z.q4, .ref z.nx⟩,
    ⟨PyData.keyHash w.params (Str.ofString "is_simple"), .str (Str.ofString "is_simple") z.q5, .bool z.sm⟩] = some none)
    (h : Q (.ref 80, [.ref z.x]) s) : wpAny (model PySem.Challenge.rw_qj0008_01.row.prog w) A (getMethod (.ref z.x) (Str.ofString "indent_level") pl) Q E s :=
  method_inst (n := 5) F X₀ (InstAt.of_news N (hz (z.x, instObj 111 z.dx) (by k_mem)) (hz (z.dx, _) (by k_mem))) hg hf ht hl h
theorem off_list {rest : Led} {d : Nat} {its : Array Value} {n : Nat} {h : Heap} (N : News h₀ L h news) (hm : (d, listOf its n) ∈ news) (hr : ∀ p ∈ rest, p ∈ news) (hc : ∀ p ∈ rest, p.2.cls ≠ .type "list") : ∀ p ∈ rest, p.1 ≠ d :=
  fun p hp => news_ne N (hr p hp) hm (hc p hp)
end
theorem in_tail {l r : Led} {a : Addr × Obj} (h : ∀ p ∈ l, p ∈ r) : ∀ p ∈ l, p ∈ a :: r := fun p hp => .tail _ (h p hp)
theorem in_self {l : Led} : ∀ p ∈ l, p ∈ l := fun _ h => h
theorem not_in1 {a b : Nat} (h : a ≠ b) : a ∉ [b] := by simpa using h
theorem unr_cls {h₀ : Heap} {L I : Addr} {it : Obj} {rest : (Str → Option Value) → Led → Prop} {s₁ : Shared} {h' : Heap} {tk : Nat} {m' : Str → Option Value} {all : Led} (F : Fr h₀ L h' m') (N : News h₀ L h' all) (news' : Led)
    (hI : (I, it) ∈ all) (sub : ∀ p ∈ news', p ∈ all) (off : ∀ p ∈ news', p.2.cls ≠ it.cls) (r : rest m' news') : UnrEnd h₀ L s₁ I it rest { s₁ with heap := h', toks := tk } :=
  UnrEnd.intro F N news' (fun p hp => by
    rcases List.mem_cons.mp hp with rfl | hp
    · exact hI
    · exact sub p hp) (fun p hp => news_ne N (sub p hp) hI (off p hp)) r
/-- addresses that are not d (kept from omega's sight) -/
structure Offs (d : Nat) (l : List Nat) : Prop where
  all : ∀ a ∈ l, a ≠ d
theorem Offs.at {d a : Nat} {l : List Nat} (h : Offs d l) (ha : a ∈ l) : a ≠ d := h.all a ha
theorem unr_end4 {h₀ : Heap} {σ : Type} {Ld : σ → Led} {ps : σ → List (Str × Value)} {P : σ → Prop} {L I : Addr} {it : Obj} {s₁ : Shared} {h' : Heap} {tk : Nat} {m' : Str → Option Value} {all : Led} (c : σ) (F : Fr h₀ L h' m') (N : News h₀ L h' all)
    (hI : (I, it) ∈ all) (sub : ∀ p ∈ Ld c, p ∈ all) (off : ∀ p ∈ Ld c, p.2.cls ≠ it.cls) (hm : ∀ p ∈ ps c, m' p.1 = some p.2) (hp : P c) : UnrEnd h₀ L s₁ I it (fun m n => (∀ p ∈ n, p.1 ≠ I) ∧ LoopS Ld ps P m n) { s₁ with heap := h', toks := tk } :=
  unr_end2 c F N hI sub (fun p hp => news_ne N (sub p hp) hI (off p hp)) hm hp
/-- the five items of the heap, under what columns they may lie -/
structure Inv5 (col : Int → Int) (c0 k0 c1 k1 c2 k2 c3 k3 c4 k4 : Int) : Prop where
  heap : HeapOk c0 k0 c1 k1 c2 k2 c3 k3 c4 k4
  r0 : 0 ≤ k0 ∧ k0 < 5 ∧ c0 ≤ col k0
  r1 : 0 ≤ k1 ∧ k1 < 5 ∧ c1 ≤ col k1
  r2 : 0 ≤ k2 ∧ k2 < 5 ∧ c2 ≤ col k2
  r3 : 0 ≤ k3 ∧ k3 < 5 ∧ c3 ≤ col k3
  r4 : 0 ≤ k4 ∧ k4 < 5 ∧ c4 ≤ col k4
  keys : ∀ f : Int → Int, f k0 + f k1 + f k2 + f k3 + f k4 = f 0 + f 1 + f 2 + f 3 + f 4
def slack (col : Int → Int) (c0 k0 c1 k1 c2 k2 c3 k3 c4 k4 : Int) : Nat :=
  ((col k0 - c0) + (col k1 - c1) + (col k2 - c2) + (col k3 - c3) + (col k4 - c4)).toNat
theorem five_zero {p0 p1 p2 p3 p4 q0 q1 q2 q3 q4 : Prop} [Decidable p0] [Decidable p1] [Decidable p2] [Decidable p3] [Decidable p4] [Decidable q0] [Decidable q1] [Decidable q2] [Decidable q3] [Decidable q4]
    (h : (if p0 then (0 : Int) else 1) + (if p1 then 0 else 1) + (if p2 then 0 else 1) + (if p3 then 0 else 1) + (if p4 then 0 else 1) = (if q0 then 0 else 1) + (if q1 then 0 else 1) + (if q2 then 0 else 1) + (if q3 then 0 else 1) + (if q4 then 0 else 1))
    (h0 : q0) (h1 : q1) (h2 : q2) (h3 : q3) (h4 : q4) : p0 ∧ p1 ∧ p2 ∧ p3 ∧ p4 := by
  rw [if_pos h0, if_pos h1, if_pos h2, if_pos h3, if_pos h4] at h
  have nn : ∀ (p : Prop) [Decidable p], 0 ≤ (if p then (0 : Int) else 1) := fun p _ => by split <;> decide
  have zz : ∀ (p : Prop) [Decidable p], (if p then (0 : Int) else 1) = 0 → p := fun p _ e => by
    by_cases hp : p
    · exact hp
    · rw [if_neg hp] at e; cases e
  have a0 := nn p0; have a1 := nn p1; have a2 := nn p2; have a3 := nn p3; have a4 := nn p4
  exact ⟨zz p0 (by omega), zz p1 (by omega), zz p2 (by omega), zz p3 (by omega), zz p4 (by omega)⟩
theorem Inv5.of_sum {col : Int → Int} {c0 k0 c1 k1 c2 k2 c3 k3 c4 k4 d0 j0 d1 j1 d2 j2 d3 j3 d4 j4 : Int} (hh : HeapOk c0 k0 c1 k1 c2 k2 c3 k3 c4 k4)
    (sm : ∀ f : Int → Int → Int, f c0 k0 + f c1 k1 + f c2 k2 + f c3 k3 + f c4 k4 = f d0 j0 + f d1 j1 + f d2 j2 + f d3 j3 + f d4 j4)
    (r0 : 0 ≤ j0 ∧ j0 < 5 ∧ d0 ≤ col j0) (r1 : 0 ≤ j1 ∧ j1 < 5 ∧ d1 ≤ col j1) (r2 : 0 ≤ j2 ∧ j2 < 5 ∧ d2 ≤ col j2) (r3 : 0 ≤ j3 ∧ j3 < 5 ∧ d3 ≤ col j3) (r4 : 0 ≤ j4 ∧ j4 < 5 ∧ d4 ≤ col j4)
    (keys : ∀ f : Int → Int, f j0 + f j1 + f j2 + f j3 + f j4 = f 0 + f 1 + f 2 + f 3 + f 4) : Inv5 col c0 k0 c1 k1 c2 k2 c3 k3 c4 k4 := by
  obtain ⟨a0, a1, a2, a3, a4⟩ := five_zero (sm fun c k => if 0 ≤ k ∧ k < 5 ∧ c ≤ col k then 0 else 1) r0 r1 r2 r3 r4
  exact ⟨hh, a0, a1, a2, a3, a4, fun f => (sm fun _ k => f k).trans (keys f)⟩
theorem Inv5.replace {col : Int → Int} {c0 k0 c1 k1 c2 k2 c3 k3 c4 k4 C0 K0 C1 K1 C2 K2 C3 K3 C4 K4 : Int} (I : Inv5 col c0 k0 c1 k1 c2 k2 c3 k3 c4 k4) (hh : HeapOk C0 K0 C1 K1 C2 K2 C3 K3 C4 K4)
    (sm : ∀ f : Int → Int → Int, f C0 K0 + f C1 K1 + f C2 K2 + f C3 K3 + f C4 K4 = f (col k0) k0 + f c1 k1 + f c2 k2 + f c3 k3 + f c4 k4) : Inv5 col C0 K0 C1 K1 C2 K2 C3 K3 C4 K4 :=
  Inv5.of_sum hh sm ⟨I.r0.1, I.r0.2.1, Int.le_refl _⟩ I.r1 I.r2 I.r3 I.r4 I.keys
theorem Inv5.less {col : Int → Int} {c0 k0 c1 k1 c2 k2 c3 k3 c4 k4 C0 K0 C1 K1 C2 K2 C3 K3 C4 K4 : Int} (I : Inv5 col c0 k0 c1 k1 c2 k2 c3 k3 c4 k4) (J : Inv5 col C0 K0 C1 K1 C2 K2 C3 K3 C4 K4) (hlt : c0 < col k0)
    (sm : ∀ f : Int → Int → Int, f C0 K0 + f C1 K1 + f C2 K2 + f C3 K3 + f C4 K4 = f (col k0) k0 + f c1 k1 + f c2 k2 + f c3 k3 + f c4 k4) : slack col C0 K0 C1 K1 C2 K2 C3 K3 C4 K4 < slack col c0 k0 c1 k1 c2 k2 c3 k3 c4 k4 := by
  have e := sm fun c k => col k - c
  have i1 := I.r1; have i2 := I.r2; have i3 := I.r3; have i4 := I.r4
  have j0 := J.r0; have j1 := J.r1; have j2 := J.r2; have j3 := J.r3; have j4 := J.r4
  unfold slack
  try dsimp only at e
  omega
theorem Inv5.next {col col' : Int → Int} {c0 k0 c1 k1 c2 k2 c3 k3 c4 k4 : Int} (I : Inv5 col c0 k0 c1 k1 c2 k2 c3 k3 c4 k4) (h : ∀ k, col k ≤ col' k) : Inv5 col' c0 k0 c1 k1 c2 k2 c3 k3 c4 k4 :=
  ⟨I.heap, ⟨I.r0.1, I.r0.2.1, Int.le_trans I.r0.2.2 (h _)⟩, ⟨I.r1.1, I.r1.2.1, Int.le_trans I.r1.2.2 (h _)⟩, ⟨I.r2.1, I.r2.2.1, Int.le_trans I.r2.2.2 (h _)⟩, ⟨I.r3.1, I.r3.2.1, Int.le_trans I.r3.2.2 (h _)⟩, ⟨I.r4.1, I.r4.2.1, Int.le_trans I.r4.2.2 (h _)⟩, I.keys⟩
theorem Inv5.least {col : Int → Int} {c0 k0 c1 k1 c2 k2 c3 k3 c4 k4 : Int} (I : Inv5 col c0 k0 c1 k1 c2 k2 c3 k3 c4 k4) {j : Int} (h0 : 0 ≤ j) (h5 : j < 5) : lexLe c0 k0 (col j) j := by
  have e := I.keys fun k => if k = j then 1 else 0
  have hj : (if (0 : Int) = j then (1 : Int) else 0) + (if 1 = j then 1 else 0) + (if 2 = j then 1 else 0) + (if 3 = j then 1 else 0) + (if 4 = j then 1 else 0) = 1 := by
    rcases (by omega : j = 0 ∨ j = 1 ∨ j = 2 ∨ j = 3 ∨ j = 4) with rfl | rfl | rfl | rfl | rfl <;> rfl
  try dsimp only at e
  rw [hj] at e
  have hs : k0 = j ∨ k1 = j ∨ k2 = j ∨ k3 = j ∨ k4 = j := by
    by_cases a0 : k0 = j
    · exact .inl a0
    · by_cases a1 : k1 = j
      · exact .inr (.inl a1)
      · by_cases a2 : k2 = j
        · exact .inr (.inr (.inl a2))
        · by_cases a3 : k3 = j
          · exact .inr (.inr (.inr (.inl a3)))
          · by_cases a4 : k4 = j
            · exact .inr (.inr (.inr (.inr a4)))
            · rw [if_neg a0, if_neg a1, if_neg a2, if_neg a3, if_neg a4] at e
              cases e
  have H := I.heap
  have r0 := I.r0; have r1 := I.r1; have r2 := I.r2; have r3 := I.r3; have r4 := I.r4
  unfold HeapOk lexLe at H
  unfold lexLe
  rcases hs with rfl | rfl | rfl | rfl | rfl <;> omega
/-- one of five by a number -/
def pick {α : Type} (z0 z1 z2 z3 z4 : α) (k : Int) : α := if k = 0 then z0 else if k = 1 then z1 else if k = 2 then z2 else if k = 3 then z3 else z4
theorem pick_all {α : Type} {z0 z1 z2 z3 z4 : α} {p : α → Prop} (h0 : p z0) (h1 : p z1) (h2 : p z2) (h3 : p z3) (h4 : p z4) (k : Int) : p (pick z0 z1 z2 z3 z4 k) := by
  unfold pick
  repeat' split
  all_goals assumption
def colZ (z0 z1 z2 z3 z4 : Lead) (s k : Int) : Int := ((pick z0 z1 z2 z3 z4 k).b : Int) + s * ((pick z0 z1 z2 z3 z4 k).t : Int)
theorem colZ_le {z0 z1 z2 z3 z4 : Lead} {s s' : Int} (h : s ≤ s') (k : Int) : colZ z0 z1 z2 z3 z4 s k ≤ colZ z0 z1 z2 z3 z4 s' k := by
  unfold colZ
  have := Int.mul_le_mul_of_nonneg_right h (Int.natCast_nonneg (pick z0 z1 z2 z3 z4 k).t)
  omega
theorem sub_pick {prog : Program} {w : World} {A : Around} {E : Value → Shared → Prop} {s : Shared} {Q : Value → Shared → Prop} {value slice : PySem.Expr} {h₀ : Heap} {L D : Addr} {news : Led} {z0 z1 z2 z3 z4 : Lead} {n : Nat} {k : Int} {u : Tok}
    (N : News h₀ L s.heap news) (hm : (D, listOf #[.ref z0.x, .ref z1.x, .ref z2.x, .ref z3.x, .ref z4.x] n) ∈ news) (h0 : 0 ≤ k) (h5 : k < 5) (h : Q (.ref (pick z0 z1 z2 z3 z4 k).x) s)
    (hs : subscripted slice false (.ref D) (.int k u) = operate [.ref D, .int k u] (getItem (.ref D) (.int k u)) := by with_unfolding_all rfl) :
    wpAny (model prog w) A (subscriptTail value slice (.ref D) (.int k u)) Q E s := by
  refine sub_news N hm h0 (Int.lt_trans h5 (by decide)) ?_ h hs
  rcases (by omega : k = 0 ∨ k = 1 ∨ k = 2 ∨ k = 3 ∨ k = 4) with rfl | rfl | rfl | rfl | rfl <;> rfl
structure It where
  a : Nat
  c : Int
  t : Tok
  k : Int
  u : Tok
abbrev It.ent (i : It) : Addr × Obj := (i.a, tup2 i.c i.t i.k i.u)
structure WhS where
  i0 : It
  i1 : It
  i2 : It
  i3 : It
  i4 : It
  tp : Tok
structure RoadS where
  i0 : It
  i1 : It
  i2 : It
  i3 : It
  i4 : It
  en : Nat
  rd : List It
  rr : Led
/-- the least of the five leads at a size: the first of the least -/
def IsLeast (col : Int → Int) (c k : Int) : Prop := 0 ≤ k ∧ k < 5 ∧ c = col k ∧ ∀ j, 0 ≤ j → j < 5 → lexLe c k (col j) j
theorem six {α : Type} : ∀ (l : List α), l.length = 6 → ∃ a b c d e f, l = [a, b, c, d, e, f]
  | [a, b, c, d, e, f], _ => ⟨a, b, c, d, e, f, rfl⟩
theorem tail6 {rr led : Led} (h : ∀ p ∈ rr, p ∈ led) {a b c d e f : Addr × Obj} (ha : a ∈ rr) (hb : b ∈ rr) (hc : c ∈ rr) (hd : d ∈ rr) (he : e ∈ rr) (hf : f ∈ rr) : ∀ p ∈ [a, b, c, d, e, f], p ∈ led :=
  List.forall_mem_cons.mpr ⟨h _ ha, List.forall_mem_cons.mpr ⟨h _ hb, List.forall_mem_cons.mpr ⟨h _ hc, List.forall_mem_cons.mpr ⟨h _ hd, List.forall_mem_cons.mpr ⟨h _ he, List.forall_mem_cons.mpr ⟨h _ hf, List.forall_mem_nil _⟩⟩⟩⟩⟩⟩
theorem sub_on {rest rr led : Led} {x : Addr × Obj} (hx : x ∈ led) (h : ∀ p ∈ rr, p ∈ led) (hr : ∀ p ∈ rest, p ∈ rr) : ∀ p ∈ x :: rest, p.1 ∈ ([] : List Nat) ∨ p ∈ led :=
  List.forall_mem_cons.mpr ⟨.inr hx, fun p hp => .inr (h p (hr p hp))⟩
section
local macro_rules | `(tactic| walk_at "execs cons Assign cons") => `(tactic| (k_here; first | k_gentoks | ((with_reducible refine wpAny_execs_cons ?_); try dsimp only)))
local macro_rules | `(tactic| walk_at "getMethod ref") => `(tactic| (k_here; k_dflt (refine' lead_method ?uF ?uX ?uN ?uz ?ug ?uf ?ut ?ul ?_; (case uF => k_asm); (case uX => k_asm); (case uN => k_asm); (case uz => (repeat' (first | with_reducible assumption | exact in_self | refine in_tail ?_))); (case ug => k_is); (case uf => k_is); (case ut => k_is); (case ul => k_get); k_whole)))
local macro_rules | `(tactic| walk_at "call ref") => `(tactic| (k_here; k_dflt (refine' pure_use (level_spec (by first | decide | omega) (by first | decide | omega)) ?uB ?uF ?uX ?uN ?uT ?uk ?uin ?ud ?uu ?_; (case uB => k_asm); (case uF => k_asm); (case uX => k_asm); (case uN => k_asm); (case uT => k_asm); (case uk => first | exact rfl | assumption); (case uin => (repeat' (first | with_reducible assumption | exact in_self | refine in_tail ?_))); (case ud => ktr_room); (case uu => ktr_units); k_whole); intro r9 h9 tk9 F9 N9 P9; obtain ⟨q9, e9⟩ := P9; subst e9; (try dsimp only); (try k_fold)))
local macro_rules | `(tactic| walk_at "subscriptTail Name Name ref int") => `(tactic| (k_here; k_dflt (refine' sub_pick ?N ?m ?a ?b ?_ ?s; (case N => k_asm); (case m => k_mem); (case a => first | with_reducible assumption | omega); (case b => first | with_reducible assumption | omega); (case s => with_unfolding_all rfl); k_whole)))
local macro_rules | `(tactic| walk_at "subscriptTail Name Name ref int") => `(tactic| (k_here; k_dflt (refine' sub_news ?N ?m ?a ?b ?x ?_ ?s; (case N => k_asm); (case m => k_mem); (case a => decide); (case b => decide); (case x => rfl); (case s => with_unfolding_all rfl); k_whole)))
local macro_rules | `(tactic| walk_at "subscriptTail Name Constant ref int") => `(tactic| (k_here; k_dflt (refine' sub_news ?N ?m ?a ?b ?x ?_ ?s; (case N => k_asm); (case m => k_mem); (case a => decide); (case b => decide); (case x => rfl); (case s => with_unfolding_all rfl); k_whole)))
local macro_rules | `(tactic| walk_at "compareOp NotEq ref ref") => `(tactic| (k_here; k_dflt (refine ne_tup2_same (News.get (by k_asm) (by k_mem)) (News.get (by k_asm) (by k_mem)) (by first | k_units | ktr_units) ?_)))
local macro_rules | `(tactic| k_ne) => `(tactic| (refine neN ?_; (try dsimp only); first | (refine Offs.at (by with_reducible assumption) ?_; (simp; done)) | (refine Ne.symm (Offs.at (by with_reducible assumption) ?_); (simp; done)) | exact Nat.ne_of_gt (by omega) | exact Nat.ne_of_lt (by omega)))
local macro_rules | `(tactic| k_all) => `(tactic| exact off_list (by k_asm) (by k_mem) (by (repeat' (first | with_reducible assumption | exact in_self | refine in_tail ?_))) (by with_reducible assumption))
theorem road_spec {w : World} {mean : ExcName → Option Value} {mg mb : Str → Option Value} {z0 z1 z2 z3 z4 : Lead} {ld e : Nat} {rest : Led} (hc : ∀ p ∈ rest, p.2.cls ≠ .type "list") (hr : ∀ p ∈ rest, p.2.cls ≠ .type "range_iterator")
  (lz0 : ∀ p ∈ z0.led w, p ∈ rest) (lz1 : ∀ p ∈ z1.led w, p ∈ rest) (lz2 : ∀ p ∈ z2.led w, p ∈ rest) (lz3 : ∀ p ∈ z3.led w, p ∈ rest) (lz4 : ∀ p ∈ z4.led w, p ∈ rest) :
  CodeSpec w mean mg mb 153 [.ref ld] ((ld, listOf #[.ref z0.x, .ref z1.x, .ref z2.x, .ref z3.x, .ref z4.x] e) :: rest) [] 10 120
   (fun r l => ∃ (ra en : Nat) (r0 r1 r2 r3 r4 r5 : It), r = .ref ra ∧ l = [(ra, listOf #[.ref r0.a, .ref r1.a, .ref r2.a, .ref r3.a, .ref r4.a, .ref r5.a] en), r0.ent, r1.ent, r2.ent, r3.ent, r4.ent, r5.ent] ∧
     IsLeast (colZ z0 z1 z2 z3 z4 1) r0.c r0.k ∧ IsLeast (colZ z0 z1 z2 z3 z4 2) r1.c r1.k ∧ IsLeast (colZ z0 z1 z2 z3 z4 3) r2.c r2.k ∧ IsLeast (colZ z0 z1 z2 z3 z4 4) r3.c r3.k ∧ IsLeast (colZ z0 z1 z2 z3 z4 5) r4.c r4.k ∧ IsLeast (colZ z0 z1 z2 z3 z4 6) r5.c r5.k) := by
  unfold CodeSpec; k_fill; intro dp un gd cn cs a ccd cl outer A₀ base h₀ L m s R B F X N T hk hdp hu hret
  k_dflt (refine' spec_code ?k1 ?k2 ?k3 ?k4 ?k5 ?kA ?kF ?kK ?k6 ?k7 ?k8 ?k9 ?kB ?_ ?c2 ?c3 ?c4 ?c5; (case kA => exact rfl); (case kF => exact rfl); (case kK => assumption); (case k1 => k_asm); (case k2 => k_asm); (case k3 => k_asm); (case k4 => k_asm); (case k5 => k_asm); (case k6 => k_is); (case k7 => k_is); (case k8 => ktr_room); (case k9 => exact BindsTo.of_eq rfl); (case c5 => decide); (case kB => exact locs rfl); (case c2 => exact rfl); (case c3 => exact rfl); (case c4 => exact rfl); k_whole; intro g' L' h' FG' F' N' B' X' T' hkeep; (try dsimp only); (try k_lift B'); (try k_fold))
  repeat' ((fail_if_success (with_reducible show wpAny _ _ (PySem.call (Value.ref 28) _) _ _ _)); (fail_if_success (with_reducible show wpAny _ _ (exec (Stmt.For (Expr.Name (Str.ofString "size") _) _ _ _ _) _) _ _ _)); first | (k_unfold; (try dsimp only)) | (k_end; wrow_close) | walk1 | (dsimp only; walk1) | (leave1; walk_say "STEP leave1"; try dsimp only) | fail "no step")
  rename News g' L' _ _ => N0
  k_dflt (refine' CodeSpec.use (heappush_spec0 ) ?uB ?uF ?uX ?uN ?uT ?uk ?uin ?ud ?uu ?_; (case uB => k_asm); (case uF => k_asm); (case uX => k_asm); (case uN => k_asm); (case uT => k_asm); (case uk => first | exact rfl | assumption); (case uin => exact (List.forall_mem_cons.mpr ⟨by k_mem, (List.forall_mem_cons.mpr ⟨by k_mem, (List.forall_mem_nil _)⟩)⟩)); (case ud => ktr_room); (case uu => ktr_units))
  intro r9 sub9 h9 tk9 F9 N1 K1 f1 P1
  obtain ⟨e9, b0p0, C0p0, K0p0, T0p0, U0p0, e8, _, sm0⟩ := P1
  subst e9 e8
  have N9 := news_on (rest := (_, itR _ _) :: (ld, _) :: rest) N0 N1 K1 (List.forall_mem_cons.mpr ⟨by k_mem, (List.forall_mem_cons.mpr ⟨by k_mem, (by (repeat' (first | with_reducible assumption | exact in_self | refine in_tail ?_)))⟩)⟩) (List.forall_mem_cons.mpr ⟨not_in1 (news_ne N0 (by k_mem) (by k_mem) (by simp [itR])), (List.forall_mem_cons.mpr ⟨not_in1 (by first | exact Nat.ne_of_lt (by omega)), (fun p hp => not_in1 (off_list N0 (by k_mem) (by (repeat' (first | with_reducible assumption | exact in_self | refine in_tail ?_))) hc p hp))⟩)⟩)
  dsimp only [List.cons_append, List.nil_append] at N9
  clear N0 N1 K1 f1
  (try dsimp only)
  (try k_fold)
  repeat' ( (fail_if_success (with_reducible show UnrEnd _ _ _ _ _ _ _)); (fail_if_success (with_reducible show KswEnd _ _ _ _ _ _ _ _ _ _ _ _)); first | (k_unfold; (try dsimp only)) | (k_end; wrow_close) | walk1 | (dsimp only; walk1) | (leave1; walk_say "STEP leave1"; try dsimp only) | fail "no step")
  refine unr_cls (by k_asm) N9 ((_, listOf _ _) :: (b0p0, _) :: (ld, _) :: rest) (by k_mem) (List.forall_mem_cons.mpr ⟨by k_mem, (List.forall_mem_cons.mpr ⟨by k_mem, (List.forall_mem_cons.mpr ⟨by k_mem, (by (repeat' (first | with_reducible assumption | exact in_self | refine in_tail ?_)))⟩)⟩)⟩) (List.forall_mem_cons.mpr ⟨by simp [itR], (List.forall_mem_cons.mpr ⟨by simp [itR], (List.forall_mem_cons.mpr ⟨by simp [itR], hr⟩)⟩)⟩) ?_
  clear N9
  repeat' ((fail_if_success (with_reducible show wpAny _ _ (PySem.call (Value.ref 28) _) _ _ _)); (fail_if_success (with_reducible show wpAny _ _ (exec (Stmt.For (Expr.Name (Str.ofString "size") _) _ _ _ _) _) _ _ _)); first | (k_unfold; (try dsimp only)) | (k_end; wrow_close) | walk1 | (dsimp only; walk1) | (leave1; walk_say "STEP leave1"; try dsimp only) | fail "no step")
  rename News g' L' _ _ => N0
  k_dflt (refine' CodeSpec.use (heappush_spec1 ) ?uB ?uF ?uX ?uN ?uT ?uk ?uin ?ud ?uu ?_; (case uB => k_asm); (case uF => k_asm); (case uX => k_asm); (case uN => k_asm); (case uT => k_asm); (case uk => first | exact rfl | assumption); (case uin => exact (List.forall_mem_cons.mpr ⟨by k_mem, (List.forall_mem_cons.mpr ⟨by k_mem, (List.forall_mem_cons.mpr ⟨by k_mem, (List.forall_mem_nil _)⟩)⟩)⟩)); (case ud => ktr_room); (case uu => ktr_units))
  intro r9 sub9 h9 tk9 F9 N1 K1 f1 P1
  obtain ⟨e9, b0p1, b1p1, C0p1, C1p1, K0p1, K1p1, T0p1, T1p1, U0p1, U1p1, e8, hq0, sm1⟩ := P1
  subst e9 e8
  have N9 := news_on (rest := (_, itR _ _) :: (ld, _) :: rest) N0 N1 K1 (List.forall_mem_cons.mpr ⟨by k_mem, (List.forall_mem_cons.mpr ⟨by k_mem, (by (repeat' (first | with_reducible assumption | exact in_self | refine in_tail ?_)))⟩)⟩) (List.forall_mem_cons.mpr ⟨not_in1 (news_ne N0 (by k_mem) (by k_mem) (by simp [itR])), (List.forall_mem_cons.mpr ⟨not_in1 (by first | exact Nat.ne_of_lt (by omega)), (fun p hp => not_in1 (off_list N0 (by k_mem) (by (repeat' (first | with_reducible assumption | exact in_self | refine in_tail ?_))) hc p hp))⟩)⟩)
  dsimp only [List.cons_append, List.nil_append] at N9
  clear N0 N1 K1 f1
  (try dsimp only)
  (try k_fold)
  repeat' ( (fail_if_success (with_reducible show UnrEnd _ _ _ _ _ _ _)); (fail_if_success (with_reducible show KswEnd _ _ _ _ _ _ _ _ _ _ _ _)); first | (k_unfold; (try dsimp only)) | (k_end; wrow_close) | walk1 | (dsimp only; walk1) | (leave1; walk_say "STEP leave1"; try dsimp only) | fail "no step")
  refine unr_cls (by k_asm) N9 ((_, listOf _ _) :: (b0p1, _) :: (b1p1, _) :: (ld, _) :: rest) (by k_mem) (List.forall_mem_cons.mpr ⟨by k_mem, (List.forall_mem_cons.mpr ⟨by k_mem, (List.forall_mem_cons.mpr ⟨by k_mem, (List.forall_mem_cons.mpr ⟨by k_mem, (by (repeat' (first | with_reducible assumption | exact in_self | refine in_tail ?_)))⟩)⟩)⟩)⟩) (List.forall_mem_cons.mpr ⟨by simp [itR], (List.forall_mem_cons.mpr ⟨by simp [itR], (List.forall_mem_cons.mpr ⟨by simp [itR], (List.forall_mem_cons.mpr ⟨by simp [itR], hr⟩)⟩)⟩)⟩) ?_
  clear N9
  repeat' ((fail_if_success (with_reducible show wpAny _ _ (PySem.call (Value.ref 28) _) _ _ _)); (fail_if_success (with_reducible show wpAny _ _ (exec (Stmt.For (Expr.Name (Str.ofString "size") _) _ _ _ _) _) _ _ _)); first | (k_unfold; (try dsimp only)) | (k_end; wrow_close) | walk1 | (dsimp only; walk1) | (leave1; walk_say "STEP leave1"; try dsimp only) | fail "no step")
  rename News g' L' _ _ => N0
  k_dflt (refine' CodeSpec.use (heappush_spec2 hq0) ?uB ?uF ?uX ?uN ?uT ?uk ?uin ?ud ?uu ?_; (case uB => k_asm); (case uF => k_asm); (case uX => k_asm); (case uN => k_asm); (case uT => k_asm); (case uk => first | exact rfl | assumption); (case uin => exact (List.forall_mem_cons.mpr ⟨by k_mem, (List.forall_mem_cons.mpr ⟨by k_mem, (List.forall_mem_cons.mpr ⟨by k_mem, (List.forall_mem_cons.mpr ⟨by k_mem, (List.forall_mem_nil _)⟩)⟩)⟩)⟩)); (case ud => ktr_room); (case uu => ktr_units))
  intro r9 sub9 h9 tk9 F9 N1 K1 f1 P1
  obtain ⟨e9, b0p2, b1p2, b2p2, C0p2, C1p2, C2p2, K0p2, K1p2, K2p2, T0p2, T1p2, T2p2, U0p2, U1p2, U2p2, e8, ⟨hq0, hq1⟩, sm2⟩ := P1
  subst e9 e8
  have N9 := news_on (rest := (_, itR _ _) :: (ld, _) :: rest) N0 N1 K1 (List.forall_mem_cons.mpr ⟨by k_mem, (List.forall_mem_cons.mpr ⟨by k_mem, (by (repeat' (first | with_reducible assumption | exact in_self | refine in_tail ?_)))⟩)⟩) (List.forall_mem_cons.mpr ⟨not_in1 (news_ne N0 (by k_mem) (by k_mem) (by simp [itR])), (List.forall_mem_cons.mpr ⟨not_in1 (by first | exact Nat.ne_of_lt (by omega)), (fun p hp => not_in1 (off_list N0 (by k_mem) (by (repeat' (first | with_reducible assumption | exact in_self | refine in_tail ?_))) hc p hp))⟩)⟩)
  dsimp only [List.cons_append, List.nil_append] at N9
  clear N0 N1 K1 f1
  (try dsimp only)
  (try k_fold)
  repeat' ( (fail_if_success (with_reducible show UnrEnd _ _ _ _ _ _ _)); (fail_if_success (with_reducible show KswEnd _ _ _ _ _ _ _ _ _ _ _ _)); first | (k_unfold; (try dsimp only)) | (k_end; wrow_close) | walk1 | (dsimp only; walk1) | (leave1; walk_say "STEP leave1"; try dsimp only) | fail "no step")
  refine unr_cls (by k_asm) N9 ((_, listOf _ _) :: (b0p2, _) :: (b1p2, _) :: (b2p2, _) :: (ld, _) :: rest) (by k_mem) (List.forall_mem_cons.mpr ⟨by k_mem, (List.forall_mem_cons.mpr ⟨by k_mem, (List.forall_mem_cons.mpr ⟨by k_mem, (List.forall_mem_cons.mpr ⟨by k_mem, (List.forall_mem_cons.mpr ⟨by k_mem, (by (repeat' (first | with_reducible assumption | exact in_self | refine in_tail ?_)))⟩)⟩)⟩)⟩)⟩) (List.forall_mem_cons.mpr ⟨by simp [itR], (List.forall_mem_cons.mpr ⟨by simp [itR], (List.forall_mem_cons.mpr ⟨by simp [itR], (List.forall_mem_cons.mpr ⟨by simp [itR], (List.forall_mem_cons.mpr ⟨by simp [itR], hr⟩)⟩)⟩)⟩)⟩) ?_
  clear N9
  repeat' ((fail_if_success (with_reducible show wpAny _ _ (PySem.call (Value.ref 28) _) _ _ _)); (fail_if_success (with_reducible show wpAny _ _ (exec (Stmt.For (Expr.Name (Str.ofString "size") _) _ _ _ _) _) _ _ _)); first | (k_unfold; (try dsimp only)) | (k_end; wrow_close) | walk1 | (dsimp only; walk1) | (leave1; walk_say "STEP leave1"; try dsimp only) | fail "no step")
  rename News g' L' _ _ => N0
  k_dflt (refine' CodeSpec.use (heappush_spec3 hq0 hq1) ?uB ?uF ?uX ?uN ?uT ?uk ?uin ?ud ?uu ?_; (case uB => k_asm); (case uF => k_asm); (case uX => k_asm); (case uN => k_asm); (case uT => k_asm); (case uk => first | exact rfl | assumption); (case uin => exact (List.forall_mem_cons.mpr ⟨by k_mem, (List.forall_mem_cons.mpr ⟨by k_mem, (List.forall_mem_cons.mpr ⟨by k_mem, (List.forall_mem_cons.mpr ⟨by k_mem, (List.forall_mem_cons.mpr ⟨by k_mem, (List.forall_mem_nil _)⟩)⟩)⟩)⟩)⟩)); (case ud => ktr_room); (case uu => ktr_units))
  intro r9 sub9 h9 tk9 F9 N1 K1 f1 P1
  obtain ⟨e9, b0p3, b1p3, b2p3, b3p3, C0p3, C1p3, C2p3, C3p3, K0p3, K1p3, K2p3, K3p3, T0p3, T1p3, T2p3, T3p3, U0p3, U1p3, U2p3, U3p3, e8, ⟨hq0, hq1, hq2⟩, sm3⟩ := P1
  subst e9 e8
  have N9 := news_on (rest := (_, itR _ _) :: (ld, _) :: rest) N0 N1 K1 (List.forall_mem_cons.mpr ⟨by k_mem, (List.forall_mem_cons.mpr ⟨by k_mem, (by (repeat' (first | with_reducible assumption | exact in_self | refine in_tail ?_)))⟩)⟩) (List.forall_mem_cons.mpr ⟨not_in1 (news_ne N0 (by k_mem) (by k_mem) (by simp [itR])), (List.forall_mem_cons.mpr ⟨not_in1 (by first | exact Nat.ne_of_lt (by omega)), (fun p hp => not_in1 (off_list N0 (by k_mem) (by (repeat' (first | with_reducible assumption | exact in_self | refine in_tail ?_))) hc p hp))⟩)⟩)
  dsimp only [List.cons_append, List.nil_append] at N9
  clear N0 N1 K1 f1
  (try dsimp only)
  (try k_fold)
  repeat' ( (fail_if_success (with_reducible show UnrEnd _ _ _ _ _ _ _)); (fail_if_success (with_reducible show KswEnd _ _ _ _ _ _ _ _ _ _ _ _)); first | (k_unfold; (try dsimp only)) | (k_end; wrow_close) | walk1 | (dsimp only; walk1) | (leave1; walk_say "STEP leave1"; try dsimp only) | fail "no step")
  refine unr_cls (by k_asm) N9 ((_, listOf _ _) :: (b0p3, _) :: (b1p3, _) :: (b2p3, _) :: (b3p3, _) :: (ld, _) :: rest) (by k_mem) (List.forall_mem_cons.mpr ⟨by k_mem, (List.forall_mem_cons.mpr ⟨by k_mem, (List.forall_mem_cons.mpr ⟨by k_mem, (List.forall_mem_cons.mpr ⟨by k_mem, (List.forall_mem_cons.mpr ⟨by k_mem, (List.forall_mem_cons.mpr ⟨by k_mem, (by (repeat' (first | with_reducible assumption | exact in_self | refine in_tail ?_)))⟩)⟩)⟩)⟩)⟩)⟩) (List.forall_mem_cons.mpr ⟨by simp [itR], (List.forall_mem_cons.mpr ⟨by simp [itR], (List.forall_mem_cons.mpr ⟨by simp [itR], (List.forall_mem_cons.mpr ⟨by simp [itR], (List.forall_mem_cons.mpr ⟨by simp [itR], (List.forall_mem_cons.mpr ⟨by simp [itR], hr⟩)⟩)⟩)⟩)⟩)⟩) ?_
  clear N9
  repeat' ((fail_if_success (with_reducible show wpAny _ _ (PySem.call (Value.ref 28) _) _ _ _)); (fail_if_success (with_reducible show wpAny _ _ (exec (Stmt.For (Expr.Name (Str.ofString "size") _) _ _ _ _) _) _ _ _)); first | (k_unfold; (try dsimp only)) | (k_end; wrow_close) | walk1 | (dsimp only; walk1) | (leave1; walk_say "STEP leave1"; try dsimp only) | fail "no step")
  rename News g' L' _ _ => N0
  k_dflt (refine' CodeSpec.use (heappush_spec4 hq0 hq1 hq2) ?uB ?uF ?uX ?uN ?uT ?uk ?uin ?ud ?uu ?_; (case uB => k_asm); (case uF => k_asm); (case uX => k_asm); (case uN => k_asm); (case uT => k_asm); (case uk => first | exact rfl | assumption); (case uin => exact (List.forall_mem_cons.mpr ⟨by k_mem, (List.forall_mem_cons.mpr ⟨by k_mem, (List.forall_mem_cons.mpr ⟨by k_mem, (List.forall_mem_cons.mpr ⟨by k_mem, (List.forall_mem_cons.mpr ⟨by k_mem, (List.forall_mem_cons.mpr ⟨by k_mem, (List.forall_mem_nil _)⟩)⟩)⟩)⟩)⟩)⟩)); (case ud => ktr_room); (case uu => ktr_units))
  intro r9 sub9 h9 tk9 F9 N1 K1 f1 P1
  obtain ⟨e9, b0p4, b1p4, b2p4, b3p4, b4p4, C0p4, C1p4, C2p4, C3p4, C4p4, K0p4, K1p4, K2p4, K3p4, K4p4, T0p4, T1p4, T2p4, T3p4, T4p4, U0p4, U1p4, U2p4, U3p4, U4p4, e8, ⟨hq0, hq1, hq2, hq3⟩, sm4⟩ := P1
  subst e9 e8
  have N9 := news_on (rest := (_, itR _ _) :: (ld, _) :: rest) N0 N1 K1 (List.forall_mem_cons.mpr ⟨by k_mem, (List.forall_mem_cons.mpr ⟨by k_mem, (by (repeat' (first | with_reducible assumption | exact in_self | refine in_tail ?_)))⟩)⟩) (List.forall_mem_cons.mpr ⟨not_in1 (news_ne N0 (by k_mem) (by k_mem) (by simp [itR])), (List.forall_mem_cons.mpr ⟨not_in1 (by first | exact Nat.ne_of_lt (by omega)), (fun p hp => not_in1 (off_list N0 (by k_mem) (by (repeat' (first | with_reducible assumption | exact in_self | refine in_tail ?_))) hc p hp))⟩)⟩)
  dsimp only [List.cons_append, List.nil_append] at N9
  clear N0 N1 K1 f1
  (try dsimp only)
  (try k_fold)
  repeat' ( (fail_if_success (with_reducible show UnrEnd _ _ _ _ _ _ _)); (fail_if_success (with_reducible show KswEnd _ _ _ _ _ _ _ _ _ _ _ _)); first | (k_unfold; (try dsimp only)) | (k_end; wrow_close) | walk1 | (dsimp only; walk1) | (leave1; walk_say "STEP leave1"; try dsimp only) | fail "no step")
  refine unr_cls (by k_asm) N9 ((_, listOf _ _) :: (b0p4, _) :: (b1p4, _) :: (b2p4, _) :: (b3p4, _) :: (b4p4, _) :: (ld, _) :: rest) (by k_mem) (List.forall_mem_cons.mpr ⟨by k_mem, (List.forall_mem_cons.mpr ⟨by k_mem, (List.forall_mem_cons.mpr ⟨by k_mem, (List.forall_mem_cons.mpr ⟨by k_mem, (List.forall_mem_cons.mpr ⟨by k_mem, (List.forall_mem_cons.mpr ⟨by k_mem, (List.forall_mem_cons.mpr ⟨by k_mem, (by (repeat' (first | with_reducible assumption | exact in_self | refine in_tail ?_)))⟩)⟩)⟩)⟩)⟩)⟩)⟩) (List.forall_mem_cons.mpr ⟨by simp [itR], (List.forall_mem_cons.mpr ⟨by simp [itR], (List.forall_mem_cons.mpr ⟨by simp [itR], (List.forall_mem_cons.mpr ⟨by simp [itR], (List.forall_mem_cons.mpr ⟨by simp [itR], (List.forall_mem_cons.mpr ⟨by simp [itR], (List.forall_mem_cons.mpr ⟨by simp [itR], hr⟩)⟩)⟩)⟩)⟩)⟩)⟩) ?_
  clear N9
  repeat' ((fail_if_success (with_reducible show wpAny _ _ (pyIter _) _ _ _)); first | (k_unfold; (try dsimp only)) | (k_end; wrow_close) | walk1 | (dsimp only; walk1) | (leave1; walk_say "STEP leave1"; try dsimp only) | fail "no step")
  rename IsRange _ _ _ _ _ _ _ _ => hR
  refine' packP (σ := Nat × Nat) (fun z => [(Str.ofString "leads", .ref ld), (Str.ofString "heap", .ref z.1), (Str.ofString "road", .ref z.2)])
    (fun z => (z.2, listOf #[] 0) :: (z.1, listOf #[.ref b0p4, .ref b1p4, .ref b2p4, .ref b3p4, .ref b4p4] 5) :: (b0p4, tup2 C0p4 T0p4 K0p4 U0p4) :: (b1p4, tup2 C1p4 T1p4 K1p4 U1p4) :: (b2p4, tup2 C2p4 T2p4 K2p4 U2p4) :: (b3p4, tup2 C3p4 T3p4 K3p4 U3p4) :: (b4p4, tup2 C4p4 T4p4 K4p4 U4p4) :: (ld, listOf #[.ref z0.x, .ref z1.x, .ref z2.x, .ref z3.x, .ref z4.x] e) :: rest)
    (fun z => PySem.Flt.Hid (z.1 ≠ z.2 ∧ ld ≠ z.1 ∧ ld ≠ z.2)) ?pF ?pN ⟨_, _⟩ ?pm ?pn ?pp ?_
  case pF => k_asm
  case pN => k_asm
  case pn => (dsimp only; exact (List.forall_mem_cons.mpr ⟨by k_mem, (List.forall_mem_cons.mpr ⟨by k_mem, (List.forall_mem_cons.mpr ⟨by k_mem, (List.forall_mem_cons.mpr ⟨by k_mem, (List.forall_mem_cons.mpr ⟨by k_mem, (List.forall_mem_cons.mpr ⟨by k_mem, (List.forall_mem_cons.mpr ⟨by k_mem, (List.forall_mem_cons.mpr ⟨by k_mem, (by (repeat' (first | with_reducible assumption | exact in_self | refine in_tail ?_)))⟩)⟩)⟩)⟩)⟩)⟩)⟩)⟩))
  case pm => kst_all
  case pp => exact PySem.Flt.Hid.mk ⟨Nat.ne_of_lt (by omega), Nat.ne_of_lt (by omega), Nat.ne_of_lt (by omega)⟩
  rintro ⟨hp, ra⟩ m1 hm1 dd F2 N2
  dsimp only at hm1 dd N2
  have I0 : Inv5 (colZ z0 z1 z2 z3 z4 (1 + ((0 : Nat) : Int))) C0p4 K0p4 C1p4 K1p4 C2p4 K2p4 C3p4 K3p4 C4p4 K4p4 := by
    refine Inv5.of_sum (d0 := z0.b + 1 * z0.t) (j0 := 0) (d1 := z1.b + 1 * z1.t) (j1 := 1) (d2 := z2.b + 1 * z2.t) (j2 := 2) (d3 := z3.b + 1 * z3.t) (j3 := 3) (d4 := z4.b + 1 * z4.t) (j4 := 4) ⟨hq0, hq1, hq2, hq3⟩ (fun f => ?_) ⟨by decide, by decide, ?_⟩ ⟨by decide, by decide, ?_⟩ ⟨by decide, by decide, ?_⟩ ⟨by decide, by decide, ?_⟩ ⟨by decide, by decide, ?_⟩ (fun _ => rfl)
    · have e0 : f C0p0 K0p0 = f (z0.b + 1 * z0.t) 0 := sm0 f
      have e1 : f C0p1 K0p1 + f C1p1 K1p1 = f (z1.b + 1 * z1.t) 1 + f C0p0 K0p0 := sm1 f
      have e2 : f C0p2 K0p2 + f C1p2 K1p2 + f C2p2 K2p2 = f (z2.b + 1 * z2.t) 2 + f C0p1 K0p1 + f C1p1 K1p1 := sm2 f
      have e3 : f C0p3 K0p3 + f C1p3 K1p3 + f C2p3 K2p3 + f C3p3 K3p3 = f (z3.b + 1 * z3.t) 3 + f C0p2 K0p2 + f C1p2 K1p2 + f C2p2 K2p2 := sm3 f
      have e4 : f C0p4 K0p4 + f C1p4 K1p4 + f C2p4 K2p4 + f C3p4 K3p4 + f C4p4 K4p4 = f (z4.b + 1 * z4.t) 4 + f C0p3 K0p3 + f C1p3 K1p3 + f C2p3 K2p3 + f C3p3 K3p3 := sm4 f
      clear sm0 sm1 sm2 sm3 sm4
      rw [e4]
      omega
    all_goals exact Int.le_of_eq (by rfl)
  refine iter_rangeUnr (n := 6) (by rfl) hR (range_small (by decide) (by decide) (by decide) (by decide)) (range_size (.inl ⟨by decide, by decide⟩)) F2 N2 (fun I hI => ?_)
  refine range_inv (σ := RoadS)
    (fun i z => (ra, listOf (z.rd.map fun r => Value.ref r.a).toArray z.en) :: (hp, listOf #[.ref z.i0.a, .ref z.i1.a, .ref z.i2.a, .ref z.i3.a, .ref z.i4.a] 5) :: z.i0.ent :: z.i1.ent :: z.i2.ent :: z.i3.ent :: z.i4.ent :: (ld, listOf #[.ref z0.x, .ref z1.x, .ref z2.x, .ref z3.x, .ref z4.x] e) :: z.rr)
    (fun i z => [(Str.ofString "leads", .ref ld), (Str.ofString "heap", .ref hp), (Str.ofString "road", .ref ra)])
    (fun i z => Inv5 (colZ z0 z1 z2 z3 z4 (1 + (i : Int))) z.i0.c z.i0.k z.i1.c z.i1.k z.i2.c z.i2.k z.i3.c z.i3.k z.i4.c z.i4.k ∧ z.rd.length = i ∧ (∀ (j : Nat) (r : It), z.rd[j]? = some r → IsLeast (colZ z0 z1 z2 z3 z4 (1 + (j : Int))) r.c r.k) ∧
      (∀ r ∈ z.rd, r.ent ∈ z.rr) ∧ (∀ p ∈ rest, p ∈ z.rr) ∧ (∀ p ∈ z.rr, p.2.cls ≠ .type "list") ∧ (∀ p ∈ z.rr, p.2.cls ≠ .type "range_iterator"))
    ?step ?done 6 0 _ _ rfl (fun p hp => Nat.ne_of_lt (hI p hp)) ⟨⟨⟨b0p4, C0p4, T0p4, K0p4, U0p4⟩, ⟨b1p4, C1p4, T1p4, K1p4, U1p4⟩, ⟨b2p4, C2p4, T2p4, K2p4, U2p4⟩, ⟨b3p4, C3p4, T3p4, K3p4, U3p4⟩, ⟨b4p4, C4p4, T4p4, K4p4, U4p4⟩, 0, [], rest⟩, rfl, hm1,
      ⟨I0, rfl, (fun j r h => by simp at h), (fun r h => by simp at h), fun _ h => h, hc, hr⟩⟩
  case done =>
    intro z v h tk hP F3 N3
    obtain ⟨i0, i1, i2, i3, i4, en, rd, rr⟩ := z
    dsimp only [kstB, It.ent] at hP F3 N3
    obtain ⟨hinv, hlen, hleast, hrd, hrest, hcl, hci⟩ := hP
    obtain ⟨r0, r1, r2, r3, r4, r5, rfl⟩ := six rd hlen
    have l0 := hleast 0 r0 rfl; have l1 := hleast 1 r1 rfl; have l2 := hleast 2 r2 rfl; have l3 := hleast 3 r3 rfl; have l4 := hleast 4 r4 rfl; have l5 := hleast 5 r5 rfl
    have m0 := hrd r0 (by simp); have m1 := hrd r1 (by simp); have m2 := hrd r2 (by simp); have m3 := hrd r3 (by simp); have m4 := hrd r4 (by simp); have m5 := hrd r5 (by simp)
    simp only [List.map_cons, List.map_nil] at N3
    clear hinv hlen hleast hrd hcl hci
    dsimp only
    k_steps
    refine' ret_end (sub' := [(ra, listOf #[.ref r0.a, .ref r1.a, .ref r2.a, .ref r3.a, .ref r4.a, .ref r5.a] en), r0.ent, r1.ent, r2.ent, r3.ent, r4.ent, r5.ent]) (Q := fun r s' => R (.ok (.ret r)) s') hret N hkeep ?rF ?rN ?rG ?rM ?rin ?rsub ?rp
    case rF => k_asm
    case rN => k_asm
    case rG => k_asm
    case rM => k_asm
    case rin => exact List.forall_mem_cons.mpr ⟨by k_mem, tail6 (by (repeat' (first | with_reducible assumption | exact in_self | refine in_tail ?_))) m0 m1 m2 m3 m4 m5⟩
    case rsub => exact sub_on (by k_mem) (by (repeat' (first | with_reducible assumption | exact in_self | refine in_tail ?_))) hrest
    case rp => exact ⟨ra, en, r0, r1, r2, r3, r4, r5, rfl, rfl, l0, l1, l2, l3, l4, l5⟩
  case step =>
    intro i z v t h tk hi hP ho F3 N3
    obtain ⟨i0, i1, i2, i3, i4, en, rd, rr⟩ := z
    dsimp only [kstB, It.ent] at hP ho F3 N3 ⊢
    obtain ⟨hinv, hlen, hleast, hrd, hrest, hcl, hci⟩ := hP
    have y0 : ∀ p ∈ z0.led w, p ∈ rr := fun p h => hrest p (lz0 p h)
    have y1 : ∀ p ∈ z1.led w, p ∈ rr := fun p h => hrest p (lz1 p h)
    have y2 : ∀ p ∈ z2.led w, p ∈ rr := fun p h => hrest p (lz2 p h)
    have y3 : ∀ p ∈ z3.led w, p ∈ rr := fun p h => hrest p (lz3 p h)
    have y4 : ∀ p ∈ z4.led w, p ∈ rr := fun p h => hrest p (lz4 p h)
    have yk : ∀ p ∈ (pick z0 z1 z2 z3 z4 i0.k).led w, p ∈ rr := pick_all (p := fun z : Lead => ∀ p ∈ z.led w, p ∈ rr) y0 y1 y2 y3 y4 i0.k
    have g0 : 0 ≤ i0.k := hinv.r0.1
    have g5 : i0.k < 5 := hinv.r0.2.1
    repeat' ((fail_if_success (with_reducible show wpAny _ _ (PySem.call (Value.ref 35) _) _ _ _)); (fail_if_success (with_reducible show wpAny _ _ (exec (Stmt.While _ _ _ _) _) _ _ _)); (fail_if_success (with_reducible show wpAny _ _ (PySem.call (Value.builtin "list.append") _) _ _ _)); (fail_if_success (with_reducible show UnrEnd _ _ _ _ _ _ _)); (fail_if_success (with_reducible show KswEnd _ _ _ _ _ _ _ _ _ _ _ _)); first | (k_unfold; (try dsimp only)) | (k_end; wrow_close) | walk1 | (dsimp only; walk1) | (leave1; walk_say "STEP leave1"; try dsimp only) | fail "no step")
    refine ksw_while (σ := WhS) (fun c => (I, itR (1 + ((i + 1 : Nat) : Int)) (((6 : Nat) : Int) - ((i + 1 : Nat) : Int))) :: (ra, listOf (rd.map fun r => Value.ref r.a).toArray en) :: (hp, listOf #[.ref c.i0.a, .ref c.i1.a, .ref c.i2.a, .ref c.i3.a, .ref c.i4.a] 5) :: c.i0.ent :: c.i1.ent :: c.i2.ent :: c.i3.ent :: c.i4.ent :: (ld, listOf #[.ref z0.x, .ref z1.x, .ref z2.x, .ref z3.x, .ref z4.x] e) :: rr)
      (fun c => [(Str.ofString "column", .int c.i0.c c.i0.t), (Str.ofString "k", .int c.i0.k c.i0.u), (Str.ofString "present", .int (colZ z0 z1 z2 z3 z4 (1 + (i : Int)) c.i0.k) c.tp)])
      (fun _ => True) [] (fun c => Inv5 (colZ z0 z1 z2 z3 z4 (1 + (i : Int))) c.i0.c c.i0.k c.i1.c c.i1.k c.i2.c c.i2.k c.i3.c c.i3.k c.i4.c c.i4.k)
      (fun c => slack (colZ z0 z1 z2 z3 z4 (1 + (i : Int))) c.i0.c c.i0.k c.i1.c c.i1.k c.i2.c c.i2.k c.i3.c c.i3.k c.i4.c c.i4.k) ⟨i0, i1, i2, i3, i4, _⟩ (by k_asm) (by k_asm) trivial (by kst_all) hinv ?turn
    case turn =>
      intro c u h9 tk9 _ hI9 F4 N4
      obtain ⟨j0, j1, j2, j3, j4, tp⟩ := c
      dsimp only [kstB, It.ent] at hI9 F4 N4 ⊢
      have yj : ∀ p ∈ (pick z0 z1 z2 z3 z4 j0.k).led w, p ∈ rr := pick_all (p := fun z : Lead => ∀ p ∈ z.led w, p ∈ rr) y0 y1 y2 y3 y4 j0.k
      clear hinv g0 g5 yk
      have q5 : I ≠ ra := news_ne N4 (by k_mem) (by k_mem) (by simp [itR])
      have qs : Offs ra [j0.a, j1.a, j2.a, j3.a, j4.a, I, hp, ld] := ⟨by
        have q0 : j0.a ≠ ra := news_ne N4 (by k_mem) (by k_mem) (by simp)
        have q1 : j1.a ≠ ra := news_ne N4 (by k_mem) (by k_mem) (by simp)
        have q2 : j2.a ≠ ra := news_ne N4 (by k_mem) (by k_mem) (by simp)
        have q3 : j3.a ≠ ra := news_ne N4 (by k_mem) (by k_mem) (by simp)
        have q4 : j4.a ≠ ra := news_ne N4 (by k_mem) (by k_mem) (by simp)
        simp only [List.forall_mem_cons]
        exact ⟨q0, q1, q2, q3, q4, q5, dd.out.1, dd.out.2.2, fun _ h => nomatch h⟩⟩
      clear q5
      repeat' ((fail_if_success (with_reducible show wpAny _ _ (PySem.call (Value.ref 35) _) _ _ _)); (fail_if_success (with_reducible show wpAny _ _ (exec (Stmt.While _ _ _ _) _) _ _ _)); (fail_if_success (with_reducible show wpAny _ _ (PySem.call (Value.builtin "list.append") _) _ _ _)); (fail_if_success (with_reducible show UnrEnd _ _ _ _ _ _ _)); (fail_if_success (with_reducible show KswEnd _ _ _ _ _ _ _ _ _ _ _ _)); first | (k_unfold; (try dsimp only)) | (k_end; wrow_close) | walk1 | (dsimp only; walk1) | (leave1; walk_say "STEP leave1"; try dsimp only) | fail "no step")
      · rename News g' _ _ _ => N0
        k_dflt (refine' CodeSpec.use (heapreplace_spec hI9.heap) ?uB ?uF ?uX ?uN ?uT ?uk ?uin ?ud ?uu ?_; (case uB => k_asm); (case uF => k_asm); (case uX => k_asm); (case uN => k_asm); (case uT => k_asm); (case uk => first | exact rfl | assumption); (case uin => exact (List.forall_mem_cons.mpr ⟨by k_mem, (List.forall_mem_cons.mpr ⟨by k_mem, (List.forall_mem_cons.mpr ⟨by k_mem, (List.forall_mem_cons.mpr ⟨by k_mem, (List.forall_mem_cons.mpr ⟨by k_mem, (List.forall_mem_cons.mpr ⟨by k_mem, (List.forall_mem_cons.mpr ⟨by k_mem, (List.forall_mem_nil _)⟩)⟩)⟩)⟩)⟩)⟩)⟩)); (case ud => ktr_room); (case uu => ktr_units))
        intro r9 sub9 h8 tk8 F8 N1 K1 f1 P1
        obtain ⟨e9, b0, b1, b2, b3, b4, C0, C1, C2, C3, C4, K0, K1', K2, K3, K4, T0, T1, T2, T3, T4, U0, U1, U2, U3, U4, e8, hok, sm⟩ := P1
        subst e9 e8
        have N8 := news_on (rest := (I, _) :: (ra, _) :: (ld, _) :: rr) N0 N1 K1 (List.forall_mem_cons.mpr ⟨by k_mem, (List.forall_mem_cons.mpr ⟨by k_mem, (List.forall_mem_cons.mpr ⟨by k_mem, (by (repeat' (first | with_reducible assumption | exact in_self | refine in_tail ?_)))⟩)⟩)⟩) (List.forall_mem_cons.mpr ⟨not_in1 (news_ne N0 (by k_mem) (by k_mem) (by simp [itR])), (List.forall_mem_cons.mpr ⟨not_in1 (Ne.symm dd.out.1), (List.forall_mem_cons.mpr ⟨not_in1 dd.out.2.1, (fun p hp => not_in1 (off_list N0 (by k_mem) (by (repeat' (first | with_reducible assumption | exact in_self | refine in_tail ?_))) hcl p hp))⟩)⟩)⟩)
        dsimp only [List.cons_append, List.nil_append] at N8
        clear N0 N1 K1 f1
        have J := hI9.replace hok sm
        have g0 : 0 ≤ K0 := J.r0.1
        have g5 : K0 < 5 := J.r0.2.1
        have yK : ∀ p ∈ (pick z0 z1 z2 z3 z4 K0).led w, p ∈ rr := pick_all (p := fun z : Lead => ∀ p ∈ z.led w, p ∈ rr) y0 y1 y2 y3 y4 K0
        (try dsimp only)
        (try k_fold)
        repeat' ((fail_if_success (with_reducible show wpAny _ _ (PySem.call (Value.ref 35) _) _ _ _)); (fail_if_success (with_reducible show wpAny _ _ (exec (Stmt.While _ _ _ _) _) _ _ _)); (fail_if_success (with_reducible show wpAny _ _ (PySem.call (Value.builtin "list.append") _) _ _ _)); (fail_if_success (with_reducible show UnrEnd _ _ _ _ _ _ _)); (fail_if_success (with_reducible show KswEnd _ _ _ _ _ _ _ _ _ _ _ _)); first | (k_unfold; (try dsimp only)) | (k_end; wrow_close) | walk1 | (dsimp only; walk1) | (leave1; walk_say "STEP leave1"; try dsimp only) | fail "no step")
        refine ksw_end (⟨⟨b0, C0, T0, K0, U0⟩, ⟨b1, C1, T1, K1', U1⟩, ⟨b2, C2, T2, K2, U2⟩, ⟨b3, C3, T3, K3, U3⟩, ⟨b4, C4, T4, K4, U4⟩, _⟩ : WhS) (by k_asm) (by k_asm) (List.forall_mem_cons.mpr ⟨by k_mem, (List.forall_mem_cons.mpr ⟨by k_mem, (List.forall_mem_cons.mpr ⟨by k_mem, (List.forall_mem_cons.mpr ⟨by k_mem, (List.forall_mem_cons.mpr ⟨by k_mem, (List.forall_mem_cons.mpr ⟨by k_mem, (List.forall_mem_cons.mpr ⟨by k_mem, (List.forall_mem_cons.mpr ⟨by k_mem, (List.forall_mem_cons.mpr ⟨by k_mem, (by (repeat' (first | with_reducible assumption | exact in_self | refine in_tail ?_)))⟩)⟩)⟩)⟩)⟩)⟩)⟩)⟩)⟩) trivial (by kst_all) (by ksw_same) J (hI9.less J (by assumption) sm)
      · rename News g' _ _ _ => N0
        rename_i dT hT fT lT
        k_dflt (refine' append_K (by k_asm) N0 (Upd.tail (neN (Nat.ne_of_gt (by omega))) (Upd.tail (qs.at (by simp)) (Upd.head ?uo))) ?_ ?uz)
        case uo => exact (List.forall_mem_cons.mpr ⟨qs.at (by simp), (List.forall_mem_cons.mpr ⟨qs.at (by simp), (List.forall_mem_cons.mpr ⟨qs.at (by simp), (List.forall_mem_cons.mpr ⟨qs.at (by simp), (List.forall_mem_cons.mpr ⟨qs.at (by simp), (List.forall_mem_cons.mpr ⟨qs.at (by simp), (List.forall_mem_cons.mpr ⟨qs.at (by simp), (off_list N0 (by k_mem) (by (repeat' (first | with_reducible assumption | exact in_self | refine in_tail ?_))) hcl)⟩)⟩)⟩)⟩)⟩)⟩)⟩)
        case uz => (simp only [List.size_toArray, List.length_map]; rw [hlen, sizeLine_eq]; omega)
        intro h7 F7 N7
        (try dsimp only)
        repeat' ((fail_if_success (with_reducible show wpAny _ _ (PySem.call (Value.ref 35) _) _ _ _)); (fail_if_success (with_reducible show wpAny _ _ (exec (Stmt.While _ _ _ _) _) _ _ _)); (fail_if_success (with_reducible show wpAny _ _ (PySem.call (Value.builtin "list.append") _) _ _ _)); (fail_if_success (with_reducible show UnrEnd _ _ _ _ _ _ _)); (fail_if_success (with_reducible show KswEnd _ _ _ _ _ _ _ _ _ _ _ _)); first | (k_unfold; (try dsimp only)) | (k_end; wrow_close) | walk1 | (dsimp only; walk1) | (leave1; walk_say "STEP leave1"; try dsimp only) | fail "no step")
        refine unr_end4 (⟨j0, j1, j2, j3, j4, en + 1, rd ++ [⟨dT, j0.c, j0.t, j0.k, j0.u⟩], (dT, tup2 j0.c j0.t j0.k j0.u) :: rr⟩ : RoadS) (by k_asm) N7 (by k_mem) ?es ?eo (by kst_all) ?ep
        case es =>
          dsimp only [It.ent]
          rw [show (List.map (fun r : It => Value.ref r.a) (rd ++ [⟨dT, j0.c, j0.t, j0.k, j0.u⟩])).toArray = (List.map (fun r : It => Value.ref r.a) rd).toArray.push (.ref dT) from by simp]
          exact (List.forall_mem_cons.mpr ⟨by k_mem, (List.forall_mem_cons.mpr ⟨by k_mem, (List.forall_mem_cons.mpr ⟨by k_mem, (List.forall_mem_cons.mpr ⟨by k_mem, (List.forall_mem_cons.mpr ⟨by k_mem, (List.forall_mem_cons.mpr ⟨by k_mem, (List.forall_mem_cons.mpr ⟨by k_mem, (List.forall_mem_cons.mpr ⟨by k_mem, (List.forall_mem_cons.mpr ⟨by k_mem, (by (repeat' (first | with_reducible assumption | exact in_self | refine in_tail ?_)))⟩)⟩)⟩)⟩)⟩)⟩)⟩)⟩)⟩)
        case eo => (dsimp only [It.ent]; exact (List.forall_mem_cons.mpr ⟨by simp [itR], (List.forall_mem_cons.mpr ⟨by simp [itR], (List.forall_mem_cons.mpr ⟨by simp [itR], (List.forall_mem_cons.mpr ⟨by simp [itR], (List.forall_mem_cons.mpr ⟨by simp [itR], (List.forall_mem_cons.mpr ⟨by simp [itR], (List.forall_mem_cons.mpr ⟨by simp [itR], (List.forall_mem_cons.mpr ⟨by simp [itR], (List.forall_mem_cons.mpr ⟨by simp [itR], hci⟩)⟩)⟩)⟩)⟩)⟩)⟩)⟩)⟩))
        case ep =>
          dsimp only [It.ent]
          refine ⟨hI9.next (fun k => colZ_le (by omega) k), by simp [hlen], ?_, ?_, fun p h => .tail _ (hrest p h), List.forall_mem_cons.mpr ⟨by simp, hcl⟩, List.forall_mem_cons.mpr ⟨by simp, hci⟩⟩
          · intro j r hj
            rcases Nat.lt_or_ge j rd.length with hl | hl
            · rw [List.getElem?_append_left hl] at hj
              exact hleast j r hj
            · rw [List.getElem?_append_right hl] at hj
              have e0 : j - rd.length = 0 := by
                rcases Nat.eq_zero_or_pos (j - rd.length) with h | h
                · exact h
                · rw [List.getElem?_eq_none (by show 1 ≤ j - rd.length; omega)] at hj
                  cases hj
              rw [e0] at hj
              cases hj
              have ej : j = i := by omega
              subst ej
              have hle := hI9.r0.2.2
              have hge : ¬ j0.c < colZ z0 z1 z2 z3 z4 (1 + (j : Int)) j0.k := by assumption
              exact ⟨hI9.r0.1, hI9.r0.2.1, by dsimp only; omega, fun q a b => hI9.least a b⟩
          · intro r hr9
            rcases List.mem_append.mp hr9 with h | h
            · exact .tail _ (hrd r h)
            · rw [List.mem_singleton.mp h]; exact .head _
end
section
variable {prog : Program} {w : World} {A A₀ : Around} {E : Value → Shared → Prop} {s : Shared} {K : Frag} {L : Addr} {h₀ base : Heap} {m mg mb : Str → Option Value} {news : Led} {p : Program} {loose : List Str} {mean : ExcName → Option Value} {Q : Flow → Shared → Prop}
/-- a def whose locals a comprehension of its body reads -/
theorem spec_codeC {env : Env} {outer : List Env} {R : Result → Shared → Prop} {name qual : Str} {params : Arguments} {body : List Stmt} {scope : Scope} {dV kV doc pm cdv ct oc : Value} {an od : Option Addr} {osl : Array (Option Value)} {f : Addr} {args : Args} {binds : List (Str × Value)}
    (B : Below A₀ base outer h₀) (F : Fr h₀ L s.heap m) (X₀ : K.In h₀) (N : News h₀ L s.heap news) (T : Top p loose mean mg mb h₀) (hA : A.frames = some (env :: outer)) (hf : env.frame = some L) (hke : env.scope.kind = .function)
    (ho : K.lookup f = some ⟨oc, od, .func (fnOf name qual params body scope dV kV doc pm an cdv ct), osl⟩) (hcd : codeIn K cdv qual = true) (hroom : A.depth < recursionLimit)
    (hbind : BindsTo s (fnOf name qual params body scope dV kV doc pm an cdv ct) args binds) (hkind : (binds.all fun y => scope.names.lookup y.1 == some .local || scope.names.lookup y.1 == some .cell) = true)
    (hnd : ((cellsFrom 0 scope.names []).map (·.1)).Nodup)
    (h : ∀ g L' h₁ tk cells, Fr h₀ L g m → Fr g L' h₁ (bindL (envOfC qual scope L' f cdv).kindOf binds fun _ => none) → News g L' h₁ (cells ++ news) →
      CellsAre (bindC (envOfC qual scope L' f cdv).kindOf binds fun _ => none) (cellsFrom (L' + 1) scope.names []) cells → Below A base (env :: outer) g → K.In g → Top p loose mean mg mb g → (∀ p ∈ news, p.1 < L') → Keeps s.heap g (news.map (·.1)) →
      wpAny (model prog w) (A.deeper (envOfC qual scope L' f cdv)) (execs body (envOfC qual scope L' f cdv))
        (fun fl s' => LeaveK h₀ L m g R (match fl with | .ret v => v | _ => .none) s')
        (fun e s' => wpAny (model prog w) (A.deeper (envOfC qual scope L' f cdv)) (leaving (envOfC qual scope L' f cdv) e) (fun _ s'' => R (.error e) s'') (fun e' s'' => R (.error e') s'') s')
        { s with heap := h₁, toks := tk })
    (hco : scope.isCoroutine = false) (hgen : scope.isGenerator = false) (hk : scope.kind = .function) : codeAny (model prog w) A (.call (.ref f) args) R s := by
  obtain ⟨FG, BG, st, lv⟩ := groundX (R := R) B F N hA hf hke
  refine codeAny_call_function (fd := fnOf name qual params body scope dV kV doc pm an cdv ct) hroom ((X₀.keeps F.keep) _ _ ho) rfl hco hgen rfl (codeRec_of (X₀.keeps F.keep) hcd) (hbind _ _ _ _ ?_)
  refine wpAny_newFunctionEnv_cells hk (kindsX hkind _) fun env' he s' x => ?_
  subst he
  refine ⟨(T.nolimit.keeps F.keep).keeps x.toInCall.keep, codeAny_func ?_⟩
  obtain ⟨h₁, tk, rfl, _⟩ := x.done
  have hk₁ := x.toInCall.keep
  obtain ⟨cells, NC, Y⟩ := Cl.news (h₀ := s.heap) (Nat.le_refl _) fun n c hm => ⟨x.cell n c (lookup_of_mem_nodup (cellsFrom_names scope.names 0 (s.heap.objs.size + 1) [] [] rfl ▸ hnd) hm), x.above n c hm⟩
  have hN : News (hideAll s.heap (news.map (·.1))) s.heap.objs.size h₁ (cells ++ news) := fun p hp => by
    rcases List.mem_append.mp hp with hp | hp
    · refine ⟨(NC p hp).1, (NC p hp).2.1, ?_⟩
      cases q : (hideAll s.heap (news.map (·.1))).get? p.1 with
      | none => rfl
      | some o => have := of_hideAll _ q; rw [(NC p hp).2.2] at this; cases this
    · exact ⟨hk₁ _ _ (N p hp).1, Nat.ne_of_lt (Heap.lt_size (N p hp).1), hideAll_none _ (List.mem_map_of_mem hp)⟩
  exact wpAny_mono (h _ s.heap.objs.size h₁ tk cells FG ⟨x.toInCall.ns, fun b o e => hk₁ b o (of_hideAll _ e), Nat.le_of_eq (hideAll_size _ _)⟩ hN Y BG (X₀.keeps st) (T.keeps st) (fun p hp => Heap.lt_size (N p hp).1) (fun b o e hn => hideAll_get _ e hn)) (fun fl s' hl => lv _ _ hl) fun _ _ y => y
/-- a loop over a range by ones, its target kept in a cell -/
theorem iter_rangeT {σ : Type} {env : Env} {target : Expr} {body : List Stmt} (Ld : Nat → σ → Led) (ps : Nat → σ → List (Str × Value)) (P : Nat → σ → Prop) {r : Addr} {a₀ b₀ : Int} {t₀ u₀ v₀ : Tok} {n : Nat} {m₀ : Str → Option Value}
    (hh : A.handled = none) (hr : IsRange s.heap r a₀ b₀ 1 t₀ u₀ v₀) (hsmall : Builtin.Range.small a₀ b₀ 1 = true) (hn : Builtin.Range.rangeSize a₀ b₀ 1 = (n : Int)) (F : Fr h₀ env.locals s.heap m₀) (N : News h₀ env.locals s.heap news)
    (hgo : ∀ I v, letOwnedTupleGo target I v = pure ()) (init : LoopS (Ld 0) (ps 0) (P 0) m₀ news)
    (step : ∀ (s₁ : Shared) (I : Addr) (i : Nat) (z : σ) (v : Str → Option Value) (t : Tok) h tk, i < n → P i z → (∀ p ∈ Ld i z, p.1 ≠ I) → Fr h₀ env.locals h (kstB v (ps i z)) →
      News h₀ env.locals h ((I, itR (a₀ + ((i + 1 : Nat) : Int)) ((n : Int) - ((i + 1 : Nat) : Int))) :: Ld i z) →
      wpAny (model prog w) A (assign target env (.int (a₀ + (i : Int)) t)) (fun _ s₃ => wpAny (model prog w) A (execs body env)
        (fun f s₄ => f = .next ∧ UnrEnd h₀ env.locals { s₁ with heap := h, toks := tk } I (itR (a₀ + ((i + 1 : Nat) : Int)) ((n : Int) - ((i + 1 : Nat) : Int))) (fun m l => (∀ p ∈ l, p.1 ≠ I) ∧ LoopS (Ld (i + 1)) (ps (i + 1)) (P (i + 1)) m l) s₄) E s₃) E { s₁ with heap := h, toks := tk })
    (done : ∀ (z : σ) (v : Str → Option Value) h tk, P n z → Fr h₀ env.locals h (kstB v (ps n z)) → News h₀ env.locals h (Ld n z) → Q .next { s with heap := h, toks := tk }) :
    wpAny (model prog w) A (pyIter (.ref r)) (fun it s₂ => LoopAtT prog w A h₀ env target body Q E it s₂) E s := by
  refine wpAny_pyIter_range hr hsmall ?_
  have W : Walks prog w A s.heap.objs.size [s.heap.objs.size] [s.heap.objs.size] n (fun i v => i < n ∧ ∃ t, v = .int (a₀ + i * 1) t)
      (fun i h => IsRangeIter h s.heap.objs.size (a₀ + (i : Nat) * 1) ((n : Int) - (i : Nat)) 1) := (Walks.range hh _ a₀ 1 n).bound
  have hnew := next_is_new F
  have hlt : ∀ p ∈ news, p.1 ≠ s.heap.objs.size := fun p hp => Nat.ne_of_lt (Heap.lt_size (N p hp).1)
  refine ⟨_, _, _, n, _, _, m₀, news, fun i m l => (∀ p ∈ l, p.1 ≠ s.heap.objs.size) ∧ LoopS (Ld i) (ps i) (P i) m l, rfl, W, ?_, ?_, ?_, (by show IsRangeIter _ _ _ _ _; rw [hn]; simpa using Heap.get?_push_size _ rfl), F.push _, (fun p hp => ⟨Heap.get?_push_of_some _ (N p hp).1, (N p hp).2⟩), ?_, ⟨hlt, init⟩, ?_, ?_⟩
  · intro hm
    exact absurd F.ns.lt ((List.mem_singleton.mp hm) ▸ Nat.lt_irrefl _)
  · intro b hb
    rw [List.mem_singleton.mp hb]
    exact hnew
  · intro p hp hI
    exact hlt p hp (List.mem_singleton.mp hI)
  · intro i s' v Q' _ hQ
    rw [hgo]
    exact wpAny_pure hQ
  · rintro i v m₁ news₁ s₁ own hin ⟨_, t, rfl⟩ ⟨hoff, z, hz, hm, hp⟩ _ hown hget hall hst F₁ N₁
    subst hz
    have hst' : s₁.heap.get? s.heap.objs.size = some (itR (a₀ + ((i + 1 : Nat) : Int)) ((n : Int) - ((i + 1 : Nat) : Int))) := by
      have q : IsRangeIter s₁.heap s.heap.objs.size (a₀ + ((i + 1 : Nat) : Int) * 1) ((n : Int) - ((i + 1 : Nat) : Int)) 1 := hst
      rw [Int.mul_one] at q
      exact q
    have hmem := hall s.heap.objs.size (List.mem_singleton.mpr rfl) hnew _ hst'
    have N₂ : News h₀ env.locals s₁.heap ((s.heap.objs.size, itR (a₀ + ((i + 1 : Nat) : Int)) ((n : Int) - ((i + 1 : Nat) : Int))) :: Ld i z) := fun p hp => by
      rcases List.mem_cons.mp hp with rfl | hp
      · exact N₁ _ (List.mem_append_left _ hmem)
      · exact N₁ _ (List.mem_append_right _ hp)
    rw [← kstB_self hm] at F₁
    rw [Int.mul_one]
    refine wpAny_mono (step s₁ s.heap.objs.size i z m₁ t s₁.heap s₁.toks hin hp hoff F₁ N₂) (fun _ s₃ q => wpAny_mono q (fun f s₄ q => ?_) fun _ _ e => e) fun _ _ e => e
    obtain ⟨rfl, h', tk, m', news', e, F', N', ho, r⟩ := q
    refine ⟨rfl, h', tk, m', news', e, F', fun p hp => ?_, fun p hp hI => ho p hp (List.mem_singleton.mp hI), r⟩
    rcases List.mem_append.mp hp with hp | hp
    · have h1 : p.1 = s.heap.objs.size := List.mem_singleton.mp (hown p hp)
      have h2 : s₁.heap.get? p.1 = some p.2 := hget p hp
      have h3 : p = (s.heap.objs.size, itR (a₀ + ((i + 1 : Nat) : Int)) ((n : Int) - ((i + 1 : Nat) : Int))) := by
        rw [h1, hst'] at h2
        exact Prod.ext h1 (Option.some.inj h2).symm
      rw [h3]; exact N' _ (List.mem_cons_self ..)
    · exact N' _ (List.mem_cons_of_mem _ hp)
  · rintro h' tk m' news' F' N' _ ⟨_, z, hz, hm, hp⟩
    subst hz
    rw [← kstB_self hm] at F'
    exact done z m' h' tk hp F' N'
end
section
variable {prog : Program} {w : World} {A : Around} {R : Result → Shared → Prop} {I : Addr} {fp wr : List Addr} {n : Nat} {P : Nat → Value → Prop} {St : Nat → Heap → Prop} {G : Heap → Prop}
/-- the turns of min over items whose order hangs on what stands in the heap -/
theorem min_turns (W : Walks prog w A.in1 I fp wr n P St) (bt : Nat → Nat → Bool) (S : Addr) (hG : ∀ h h', G h → (∀ b o, b ∉ wr → b ≠ S → h.get? b = some o → h'.get? b = some o) → G h')
    (hcmp : ∀ i j vi vj (s : Shared) (Q E : Value → Shared → Prop), G s.heap → P i vi → P j vj → Q (.bool (bt i j)) s → wpAny (model prog w) A.in1 (richCompare .Lt vi vj) Q E s) (hSf : S ∉ fp) :
    ∀ (k j : Nat) (s : Shared) (vb : Value) (c : Nat), n - (j + 1) = k → j + 1 ≤ n → St (j + 1) s.heap → G s.heap → P (argBest bt j) vb →
    s.heap.get? S = some { cls := .type "list", dict := none, data := .seq #[vb, vb] c, slots := #[] } →
    (∀ v h' tk, P (argBest bt (n - 1)) v → (∀ b o, b ∉ wr → b ≠ S → s.heap.get? b = some o → h'.get? b = some o) → R (.ok (.ret v)) { s with heap := h', toks := tk }) →
    codeAny (model prog w) A (.builtin "min.loop" ⟨[.ref I, .none, .ref S], []⟩) R s := by
  have hSw : S ∉ wr := fun h => hSf (W.sub _ h)
  have hname : (toString "min" ++ toString ".loop" : String) = "min.loop" := by decide
  have offS : ∀ (h : Heap) (f : Obj → Obj) (b : Addr) (o : Obj), b ≠ S → h.get? b = some o → (h.update S f).get? b = some o := fun h f b o hb e => (Heap.get?_update_other _ _ (Ne.symm hb)).trans e
  intro k
  induction k with
  | zero =>
    intro j s vb c hk hj hst hg hPb hS hR
    have hin : j + 1 = n := by omega
    refine codeAny_builtin F.entry_min_loop ?_
    rw [Around.under_plainId F.plain_min_loop _]
    show wpAny _ A.in1 (seqItems? (.ref S) >>= _) _ _ s
    refine wpAny_bind (wpAny_seqItems hS rfl ?_)
    show wpAny _ A.in1 (tryCatch (pyNext (.ref I)) _ >>= _) _ _ s
    refine wpAny_bind (wpAny_tryCatch (W.done s _ _ (hin ▸ hst) fun h' tk hk' => ?_))
    show wpAny _ A.in1 (updateSeq S (fun _ => #[]) >>= _) _ _ _
    refine wpAny_bind (wpAny_updateSeq (hk' S _ hSw hS) rfl (wpAny_bind (wpAny_letGo (wpAny_pure ?_))))
    exact hR vb _ tk (by rw [← hin]; exact hPb) fun b o hb hs e => offS _ _ b o hs (hk' b o hb e)
  | succ k ih =>
    intro j s vb c hk hj hst hg hPb hS hR
    have hlt : j + 1 < n := by omega
    refine codeAny_builtin F.entry_min_loop ?_
    rw [Around.under_plainId F.plain_min_loop _]
    show wpAny _ A.in1 (seqItems? (.ref S) >>= _) _ _ s
    refine wpAny_bind (wpAny_seqItems hS rfl ?_)
    show wpAny _ A.in1 (tryCatch (pyNext (.ref I)) _ >>= _) _ _ s
    refine wpAny_bind (wpAny_tryCatch (W.item (j + 1) s _ _ hlt hst fun v h' tk hP hst' hk' => ?_))
    have hS' := hk' S _ hSw hS
    have hg' : G h' := hG _ _ hg fun b o hb _ e => hk' b o hb e
    show wpAny _ A.in1 (tryCatch (holding [v, v] (richCompare .Lt v vb >>= _)) _ >>= _) _ _ _
    refine wpAny_bind (wpAny_tryCatch (wpAny_holding (wpAny_bind (hcmp (j + 1) (argBest bt j) v vb _ _ _ hg' hP hPb ?_))))
    refine wpAny_bind (wpAny_holding (wpAny_truthy_bool ?_))
    refine wpAny_bind (wpAny_letGo (wpAny_pure ?_))
    cases hb : bt (j + 1) (argBest bt j) with
    | true =>
      simp only [if_true]
      refine wpAny_bind (wpAny_updateSeq hS' rfl (wpAny_bind (wpAny_letGo ?_)))
      rw [hname]
      refine wpAny_pure ⟨plainId_quiet F.plain_min_loop _, ih (j + 1) _ v _ (by omega) hlt (W.frame _ _ _ hst' fun b hbf o e => offS _ _ b o (fun q => hSf (q ▸ hbf)) e) (hG _ _ hg' fun b o _ hs e => offS _ _ b o hs e) (by simp only [argBest, hb, if_true]; exact hP) (Heap.get?_update_self _ hS' rfl)
        fun v' h'' tk'' hP' hk'' => hR v' h'' tk'' hP' fun b o hbw hbS e => hk'' b o hbw hbS (offS _ _ b o hbS (hk' b o hbw e))⟩
    | false =>
      simp only [Bool.false_eq_true, if_false]
      refine wpAny_bind (wpAny_letGo ?_)
      rw [hname]
      refine wpAny_pure ⟨plainId_quiet F.plain_min_loop _, ih (j + 1) _ vb c (by omega) hlt hst' hg' (by simp only [argBest, hb, Bool.false_eq_true, if_false]; exact hPb) hS'
        fun v' h'' tk'' hP' hk'' => hR v' h'' tk'' hP' fun b o hbw hbS e => hk'' b o hbw hbS (hk' b o hbw e)⟩
theorem min_first (W : Walks prog w A.in1 I fp wr n P St) (bt : Nat → Nat → Bool) (S : Addr) (hG : ∀ h h', G h → (∀ b o, b ∉ wr → b ≠ S → h.get? b = some o → h'.get? b = some o) → G h')
    (hcmp : ∀ i j vi vj (s : Shared) (Q E : Value → Shared → Prop), G s.heap → P i vi → P j vj → Q (.bool (bt i j)) s → wpAny (model prog w) A.in1 (richCompare .Lt vi vj) Q E s) (hSf : S ∉ fp) (hn : 0 < n) {s : Shared} {c : Nat} (hst : St 0 s.heap) (hg : G s.heap)
    (hS : s.heap.get? S = some { cls := .type "list", dict := none, data := .seq #[] c, slots := #[] })
    (hR : ∀ v h' tk, P (argBest bt (n - 1)) v → (∀ b o, b ∉ wr → b ≠ S → s.heap.get? b = some o → h'.get? b = some o) → R (.ok (.ret v)) { s with heap := h', toks := tk }) :
    codeAny (model prog w) A (.builtin "min.loop" ⟨[.ref I, .none, .ref S], []⟩) R s := by
  have hSw : S ∉ wr := fun h => hSf (W.sub _ h)
  have hname : (toString "min" ++ toString ".loop" : String) = "min.loop" := by decide
  have offS : ∀ (h : Heap) (f : Obj → Obj) (b : Addr) (o : Obj), b ≠ S → h.get? b = some o → (h.update S f).get? b = some o := fun h f b o hb e => (Heap.get?_update_other _ _ (Ne.symm hb)).trans e
  refine codeAny_builtin F.entry_min_loop ?_
  rw [Around.under_plainId F.plain_min_loop _]
  show wpAny _ A.in1 (seqItems? (.ref S) >>= _) _ _ s
  refine wpAny_bind (wpAny_seqItems hS rfl ?_)
  show wpAny _ A.in1 (tryCatch (pyNext (.ref I)) _ >>= _) _ _ s
  refine wpAny_bind (wpAny_tryCatch (W.item 0 s _ _ hn hst fun v h' tk hP hst' hk' => ?_))
  have hS' := hk' S _ hSw hS
  have hg' : G h' := hG _ _ hg fun b o hb _ e => hk' b o hb e
  show wpAny _ A.in1 (updateSeq S (fun _ => #[v, v]) >>= _) _ _ _
  refine wpAny_bind (wpAny_updateSeq hS' rfl ?_)
  rw [hname]
  exact wpAny_pure ⟨plainId_quiet F.plain_min_loop _, min_turns W bt S hG hcmp hSf _ 0 _ v _ rfl hn (W.frame _ _ _ hst' fun b hbf o e => offS _ _ b o (fun q => hSf (q ▸ hbf)) e) (hG _ _ hg' fun b o _ hs e => offS _ _ b o hs e) hP (Heap.get?_update_self _ hS' rfl)
    fun v' h'' tk'' hP' hk'' => hR v' h'' tk'' hP' fun b o hbw hbS e => hk'' b o hbw hbS (offS _ _ b o hbS (hk' b o hbw e))⟩
end
def itAt (its : List It) (i : Nat) : It := its.getD i ⟨0, 0, 0, 0, 0⟩
theorem argBest_lex (its : List It) : ∀ k, argBest (fun i j => decide ((itAt its i).c < (itAt its j).c ∨ ((itAt its i).c = (itAt its j).c ∧ (itAt its i).k < (itAt its j).k))) k ≤ k ∧
    ∀ j, j ≤ k → lexLe (itAt its (argBest (fun i j => decide ((itAt its i).c < (itAt its j).c ∨ ((itAt its i).c = (itAt its j).c ∧ (itAt its i).k < (itAt its j).k))) k)).c (itAt its (argBest (fun i j => decide ((itAt its i).c < (itAt its j).c ∨ ((itAt its i).c = (itAt its j).c ∧ (itAt its i).k < (itAt its j).k))) k)).k (itAt its j).c (itAt its j).k
  | 0 => ⟨Nat.le_refl _, fun j hj => by
      have : j = 0 := by omega
      subst this
      exact .inr ⟨rfl, Int.le_refl _⟩⟩
  | k + 1 => by
    obtain ⟨h1, h2⟩ := argBest_lex its k
    simp only [argBest]
    generalize argBest _ k = b at h1 h2
    unfold lexLe at h2 ⊢
    split
    · rename_i hc
      simp only [decide_eq_true_eq] at hc
      refine ⟨Nat.le_refl _, fun j hj => ?_⟩
      rcases Nat.lt_or_ge k j with hj' | hj'
      · have : j = k + 1 := by omega
        subst this
        exact .inr ⟨rfl, Int.le_refl _⟩
      · have := h2 j hj'
        omega
    · rename_i hc
      simp only [decide_eq_true_eq] at hc
      refine ⟨by omega, fun j hj => ?_⟩
      rcases Nat.lt_or_ge k j with hj' | hj'
      · have : j = k + 1 := by omega
        subst this
        omega
      · exact h2 j hj'
theorem min_tups {prog : Program} {w : World} {A : Around} {E : Value → Shared → Prop} {s : Shared} {h₀ : Heap} {L l : Addr} {m : Str → Option Value} {news : Led} {its : List It} {n : Nat} {Q : Value → Shared → Prop} (hu : A.in1.units < cLine) (hh : A.handled = none) (hF : Fr h₀ L s.heap m) (N : News h₀ L s.heap news)
    (hm : (l, listOf (its.map fun i => Value.ref i.a).toArray n) ∈ news) (ht : ∀ i ∈ its, i.ent ∈ news) (hne : 0 < its.length)
    (h : ∀ h' (r : It) tk, Fr h₀ L h' m → News h₀ L h' (r.ent :: news) → r ∈ its → (∀ i ∈ its, lexLe r.c r.k i.c i.k) → Q (.ref r.a) { s with heap := h', toks := tk }) :
    wpAny (model prog w) A (call (.builtin "min") [.ref l]) Q E s := by
  have hname : (toString "min" ++ toString ".loop" : String) = "min.loop" := by decide
  have hl : s.heap.IsList l (its.map fun i => Value.ref i.a).toArray := ⟨_, (N _ hm).1, rfl, _, rfl⟩
  have hlt : l < s.heap.objs.size := Heap.lt_size (N _ hm).1
  have hold : ∀ i ∈ its, i.a < s.heap.objs.size := fun i hi => Heap.lt_size (N _ (ht i hi)).1
  refine call_function_tree F.kind_min F.plain_min F.entry_min (F.args_min1 _) ?_
  show wpAny _ A.in1 (Builtin.Builtins.bindParams "min" ["key", "default"] 0 ⟨[], []⟩ >>= _) _ _ s
  refine wpAny_bind (wpAny_of_eq (show Builtin.Builtins.bindParams "min" ["key", "default"] 0 ⟨[], []⟩ = pure [none, none] from rfl) ?_)
  refine wpAny_bind (wpAny_pure ?_)
  refine wpAny_bind (wpAny_pyIter_list hl ?_)
  have up : ∀ b o, s.heap.get? b = some o → (s.heap.push { cls := .type "list_iterator", data := .fields #[.ref l, .int 0 0] }).get? b = some o := fun b o e => Heap.get?_push_of_some _ e
  have hI := Heap.get?_push_size s.heap (o := { cls := .type "list_iterator", data := .fields #[.ref l, .int 0 0] }) rfl
  have hsz : (s.heap.push { cls := .type "list_iterator", data := .fields #[.ref l, .int 0 0] }).objs.size = s.heap.objs.size + 1 := Heap.size_push _ _
  generalize s.heap.push { cls := .type "list_iterator", data := .fields #[.ref l, .int 0 0] } = H at up hI hsz ⊢
  refine wpAny_bind (wpAny_newObj_type ?_)
  rw [hname]
  have up2 : ∀ b o, H.get? b = some o → (H.push { cls := .type "list", dict := none, data := .seq ([] : List Value).toArray }).get? b = some o := fun b o e => Heap.get?_push_of_some _ e
  have hS := Heap.get?_push_size H (o := { cls := .type "list", dict := none, data := .seq ([] : List Value).toArray }) rfl
  have W := Walks.list (prog := prog) (w := w) (A := A.in1) hh s.heap.objs.size l (Nat.ne_of_lt hlt) (its.map fun i => Value.ref i.a).toArray
  have hat : ∀ i v, (its.map fun i => Value.ref i.a).toArray[i]? = some v → v = .ref (itAt its i).a ∧ itAt its i ∈ its := fun i v e => by
    simp only [List.getElem?_toArray, List.getElem?_map, Option.map_eq_some_iff] at e
    obtain ⟨r, hr, rfl⟩ := e
    have e2 : itAt its i = r := by unfold itAt; rw [List.getD_eq_getElem?_getD, hr]; rfl
    rw [e2]
    exact ⟨rfl, List.mem_of_getElem? hr⟩
  refine wpAny_pure ⟨plainId_quiet F.plain_min_loop _, min_first W (fun i j => decide ((itAt its i).c < (itAt its j).c ∨ ((itAt its i).c = (itAt its j).c ∧ (itAt its i).k < (itAt its j).k))) H.objs.size
    (G := fun h => ∀ i ∈ its, i.a ∉ [s.heap.objs.size] ∧ i.a ≠ H.objs.size ∧ h.get? i.a = some (tup2 i.c i.t i.k i.u)) (fun h h' g k i hi => ⟨(g i hi).1, (g i hi).2.1, k _ _ (g i hi).1 (g i hi).2.1 (g i hi).2.2⟩)
    (fun i j vi vj s' Q' E' g hi hj hq => ?_) (fun hm => ?_) (by simpa using hne) ⟨⟨_, up2 _ _ hI, rfl, rfl⟩, ⟨_, up2 _ _ (up _ _ (N _ hm).1), rfl, _, rfl⟩⟩ (fun i hi => ⟨?_, ?_, up2 _ _ (up _ _ (N _ (ht i hi)).1)⟩) hS fun v h' tk hv hk => ?_⟩
  · obtain ⟨rfl, mi⟩ := hat i vi hi
    obtain ⟨rfl, mj⟩ := hat j vj hj
    exact lt_tup2 (g _ mi).2.2 (g _ mj).2.2 hu hq
  · simp only [List.mem_cons, List.not_mem_nil, or_false] at hm
    rcases hm with e | e
    · exact Nat.ne_of_gt (hsz ▸ Nat.lt_succ_self _) e
    · exact Nat.ne_of_gt (hsz ▸ Nat.lt_succ_of_lt hlt) e
  · exact fun hm => Nat.ne_of_lt (hold i hi) (List.mem_singleton.mp hm)
  · exact Nat.ne_of_lt (hsz ▸ Nat.lt_succ_of_lt (hold i hi))
  · obtain ⟨rfl, mr⟩ := hat _ v hv
    obtain ⟨h1, h2⟩ := argBest_lex its (its.length - 1)
    have kk : ∀ b o, s.heap.get? b = some o → h'.get? b = some o := fun b o e => hk b o (fun q => Nat.ne_of_lt (Heap.lt_size e) (List.mem_singleton.mp q)) (Nat.ne_of_lt (hsz ▸ Nat.lt_succ_of_lt (Heap.lt_size e))) (up2 _ _ (up _ _ e))
    refine h h' _ tk (hF.grownK kk) (fun p hp => (List.mem_cons.mp hp).elim (fun e => e ▸ N.grown kk _ (ht _ mr)) (N.grown kk p)) mr fun i hi => ?_
    obtain ⟨j, hj, e⟩ := List.getElem_of_mem hi
    have e2 : itAt its j = i := by unfold itAt; rw [List.getD_eq_getElem?_getD, List.getElem?_eq_getElem hj, e]; rfl
    have q := h2 j (by omega)
    rw [e2] at q
    simpa using q
theorem of_its {its : List It} {r : It} {c : Nat} (hr : r ∈ its) (h : ∀ i ∈ its, c < i.a) : c < r.a := h r hr
theorem least_of {z0 z1 z2 z3 z4 : Lead} {s : Int} {a0 a1 a2 a3 a4 : Nat} {t0 t1 t2 t3 t4 u0 u1 u2 u3 u4 : Tok} {r : It}
    (hr : r ∈ [⟨a0, z0.b + s * z0.t, t0, 0, u0⟩, ⟨a1, z1.b + s * z1.t, t1, 1, u1⟩, ⟨a2, z2.b + s * z2.t, t2, 2, u2⟩, ⟨a3, z3.b + s * z3.t, t3, 3, u3⟩, (⟨a4, z4.b + s * z4.t, t4, 4, u4⟩ : It)])
    (hle : ∀ i ∈ [⟨a0, z0.b + s * z0.t, t0, 0, u0⟩, ⟨a1, z1.b + s * z1.t, t1, 1, u1⟩, ⟨a2, z2.b + s * z2.t, t2, 2, u2⟩, ⟨a3, z3.b + s * z3.t, t3, 3, u3⟩, (⟨a4, z4.b + s * z4.t, t4, 4, u4⟩ : It)], lexLe r.c r.k i.c i.k) :
    IsLeast (colZ z0 z1 z2 z3 z4 s) r.c r.k := by
  have hj : ∀ j : Int, 0 ≤ j → j < 5 → lexLe r.c r.k (colZ z0 z1 z2 z3 z4 s j) j := fun j h0 h5 => by
    simp only [List.forall_mem_cons] at hle
    obtain ⟨l0, l1, l2, l3, l4, _⟩ := hle
    rcases (by omega : j = 0 ∨ j = 1 ∨ j = 2 ∨ j = 3 ∨ j = 4) with rfl | rfl | rfl | rfl | rfl
    · exact l0
    · exact l1
    · exact l2
    · exact l3
    · exact l4
  simp only [List.mem_cons, List.not_mem_nil, or_false] at hr
  refine ⟨?_, ?_, ?_, hj⟩ <;> rcases hr with rfl | rfl | rfl | rfl | rfl <;> first | (dsimp only; omega) | rfl
theorem sub_newsT {prog : Program} {w : World} {A : Around} {E : Value → Shared → Prop} {s : Shared} {Q : Value → Shared → Prop} {value slice : PySem.Expr} {h₀ : Heap} {L D : Addr} {news : Led} {its : Array Value} {k : Int} {u : Tok} {v : Value} (N : News h₀ L s.heap news) (hm : (D, tupO its) ∈ news) (h0 : 0 ≤ k) (hfit : k < 2 ^ 63) (hx : nthV its.toList k.toNat = some v) (h : Q v s)
    (hs : subscripted slice false (.ref D) (.int k u) = operate [.ref D, .int k u] (getItem (.ref D) (.int k u)) := by with_unfolding_all rfl) :
    wpAny (model prog w) A (subscriptTail value slice (.ref D) (.int k u)) Q E s := by
  have e1 : its.toList[k.toNat]? = some v := by rw [← nthV_eq]; exact hx
  obtain ⟨hlt, _⟩ := List.getElem?_eq_some_iff.mp e1
  have hl : k.toNat < its.size := hlt
  refine item_tupleT (l := its.toList) (j := k.toNat) ⟨_, (N _ hm).1, rfl, 0, rfl⟩ (by omega) hfit ?_ e1 h hs
  unfold seqIndex?
  have h1 : ¬ k < 0 := by omega
  have h2 : k < (its.toList.length : Int) := by rw [Array.length_toList]; omega
  simp only [h1, if_false]
  exact if_pos (by rw [decide_eq_true h0, decide_eq_true h2]; rfl)
structure LeastS where
  en : Nat
  rd : List It
  rr : Led
  oc : Obj
  cv : Option Value
theorem off_gt {rr : Led} {c d : Nat} (h : ∀ p ∈ rr, c < p.1) (hd : d ≤ c) : ∀ p ∈ rr, p.1 ≠ d := fun p hp => Nat.ne_of_gt (Nat.lt_of_le_of_lt hd (h p hp))
theorem off_tup {rest : Led} {d : Nat} {o : Obj} {h₀ h : Heap} {L : Addr} {news : Led} (N : News h₀ L h news) (hm : (d, o) ∈ news) (hr : ∀ p ∈ rest, p ∈ news) (hc : ∀ p ∈ rest, p.2.cls = .type "tuple") (ho : Value.type "tuple" ≠ o.cls) : ∀ p ∈ rest, p.1 ≠ d :=
  fun p hp => news_ne N (hr p hp) hm (by rw [hc p hp]; exact ho)
section
theorem news_sub {h₀ h : Heap} {L : Addr} {news l : Led} (N : News h₀ L h news) (hl : ∀ p ∈ l, p ∈ news) : News h₀ L h l := fun p hp => N p (hl p hp)
theorem comp_end1 {h₀ : Heap} {L I C D T : Addr} {m : Str → Option Value} {s₁ : Shared} {oI oC oD oT : Obj} {S : Led → Prop} {rest : Value → Led → Prop} {y : Value} {h' : Heap} {tk : Nat} {r : Led} (F : Fr h₀ L h' m) (N : News h₀ L h' ((T, oT) :: (I, oI) :: (C, oC) :: (D, oD) :: r))
    (hT : (@Ne Nat T I) ∧ (@Ne Nat T C) ∧ (@Ne Nat T D)) (off : LCg.Off3 I C D r) (hS : S ((T, oT) :: r)) (k : rest y ((T, oT) :: r)) : LCg.CompEnd h₀ L m s₁ I oI C oC D oD S rest y { s₁ with heap := h', toks := tk } :=
  LCg.CompEnd.intro F N _ (List.forall_mem_cons.mpr ⟨.tail _ (.head _), List.forall_mem_cons.mpr ⟨.tail _ (.tail _ (.head _)), List.forall_mem_cons.mpr ⟨.tail _ (.tail _ (.tail _ (.head _))), List.forall_mem_cons.mpr ⟨.head _, fun p hp => .tail _ (.tail _ (.tail _ (.tail _ hp)))⟩⟩⟩⟩) ⟨hT, off⟩ hS k
local macro_rules | `(tactic| walk_at "CompSrc") => `(tactic| (k_here; k_dflt (refine LCg.CompSrc.range (by rfl) (by k_asm) (by k_asm) (by assumption) (by first | decide | rfl) (by first | rfl | decide) (by first | size_fits | exact Nat.le_of_ble_eq_true rfl) ?_; intro g'; lcg_lit)))
local macro_rules | `(tactic| walk_at "CompRest") => `(tactic| (with_unfolding_all first | (refine LCg.CompRest.succ ?_; intro v' I' oI' C' oC' D' m' h' tk' E' hv' hC' hx' F' N' off' ne'; obtain ⟨t9', hv9'⟩ := hv'; subst hv9') | refine LCg.CompRest.zero ?_))
local macro_rules | `(tactic| walk_at "CompEnd") => `(tactic| (k_dflt (refine comp_end1 (by k_asm) (by k_asm) ⟨Nat.ne_of_gt (by omega), Nat.ne_of_gt (by omega), Nat.ne_of_gt (by omega)⟩ (by with_reducible assumption) trivial ?_)))
local macro_rules | `(tactic| walk_at "FinE") => `(tactic| ((unfold LCg.FinE); intro D' h' tk' F' N' o1'; (try simp only [List.nil_append, List.cons_append] at N'); (try dsimp only)))
local macro_rules | `(tactic| k_ne) => `(tactic| (refine neN ?_; (try dsimp only); first | (refine Offs.at (by with_reducible assumption) ?_; (simp; done)) | (refine Ne.symm (Offs.at (by with_reducible assumption) ?_); (simp; done)) | exact Nat.ne_of_gt (by omega) | exact Nat.ne_of_lt (by omega)))
local macro_rules | `(tactic| k_all) => `(tactic| first | exact off_gt (by with_reducible assumption) (by omega) | exact off_tup (by k_asm) (by k_mem) (by (repeat' (first | with_reducible assumption | exact in_self | refine in_tail ?_))) (by with_reducible assumption) (by intro h; cases h))
local macro_rules | `(tactic| walk_at "subscriptTail Name Name ref int") => `(tactic| (k_here; k_dflt (refine' sub_news ?N ?m ?a ?b ?x ?_ ?s; (case N => k_asm); (case m => k_mem); (case a => decide); (case b => decide); (case x => rfl); (case s => with_unfolding_all rfl); k_whole)))
local macro_rules | `(tactic| walk_at "subscriptTail Name Constant ref int") => `(tactic| (k_here; k_dflt (refine' sub_news ?N ?m ?a ?b ?x ?_ ?s; (case N => k_asm); (case m => k_mem); (case a => decide); (case b => decide); (case x => rfl); (case s => with_unfolding_all rfl); k_whole)))
local macro_rules | `(tactic| walk_at "subscriptTail Subscript") => `(tactic| (k_here; k_dflt (refine' sub_newsT ?N ?m ?a ?b ?x ?_ ?s; (case N => k_asm); (case m => k_mem); (case a => decide); (case b => decide); (case x => rfl); (case s => with_unfolding_all rfl); k_whole)))
local macro_rules | `(tactic| walk_at "subscriptTail Name Constant ref int") => `(tactic| first | (k_here; k_dflt (refine' sub_news ?N ?m ?a ?b ?x ?_ ?s; (case N => k_asm); (case m => k_mem); (case a => decide); (case b => decide); (case x => rfl); (case s => with_unfolding_all rfl); k_whole)) | (k_here; k_dflt (refine' sub_newsT ?N ?m ?a ?b ?x ?_ ?s; (case N => k_asm); (case m => k_mem); (case a => decide); (case b => decide); (case x => rfl); (case s => with_unfolding_all rfl); k_whole)))

theorem least_spec {w : World} {mean : ExcName → Option Value} {mg mb : Str → Option Value} {z0 z1 z2 z3 z4 : Lead} {sp e p0 p1 p2 p3 p4 : Nat} {u0 v0 u1 v1 u2 v2 u3 v3 u4 v4 : Tok} (ht0 : z0.t ≤ 3 ∧ z0.b ≤ 5) (ht1 : z1.t ≤ 3 ∧ z1.b ≤ 5) (ht2 : z2.t ≤ 3 ∧ z2.b ≤ 5) (ht3 : z3.t ≤ 3 ∧ z3.b ≤ 5) (ht4 : z4.t ≤ 3 ∧ z4.b ≤ 5) :
  CodeSpec w mean mg mb 158 [.ref sp] [(sp, listOf #[.ref p0, .ref p1, .ref p2, .ref p3, .ref p4] e), (p0, tup2 z0.t u0 z0.b v0), (p1, tup2 z1.t u1 z1.b v1), (p2, tup2 z2.t u2 z2.b v2), (p3, tup2 z3.t u3 z3.b v3), (p4, tup2 z4.t u4 z4.b v4)] [] 10 120
   (fun r l => ∃ (ra en : Nat) (r0 r1 r2 r3 r4 r5 : It), r = .ref ra ∧ l = [(ra, listOf #[.ref r0.a, .ref r1.a, .ref r2.a, .ref r3.a, .ref r4.a, .ref r5.a] en), r0.ent, r1.ent, r2.ent, r3.ent, r4.ent, r5.ent] ∧
     IsLeast (colZ z0 z1 z2 z3 z4 1) r0.c r0.k ∧ IsLeast (colZ z0 z1 z2 z3 z4 2) r1.c r1.k ∧ IsLeast (colZ z0 z1 z2 z3 z4 3) r2.c r2.k ∧ IsLeast (colZ z0 z1 z2 z3 z4 4) r3.c r3.k ∧ IsLeast (colZ z0 z1 z2 z3 z4 5) r4.c r4.k ∧ IsLeast (colZ z0 z1 z2 z3 z4 6) r5.c r5.k) := by
  unfold CodeSpec; k_fill; intro dp un gd cn cs a ccd cl outer A₀ base h₀ L m s R B F X N T hk hdp hu hret
  k_dflt (refine' spec_codeC ?k1 ?k2 ?k3 ?k4 ?k5 ?kA ?kF ?kK ?k6 ?k7 ?k8 ?k9 ?kB ?kD ?_ ?c2 ?c3 ?c4; (case kA => exact rfl); (case kF => exact rfl); (case kK => assumption); (case k1 => k_asm); (case k2 => k_asm); (case k3 => k_asm); (case k4 => k_asm); (case k5 => k_asm); (case k6 => k_is); (case k7 => k_is); (case k8 => ktr_room); (case k9 => exact BindsTo.of_eq rfl); (case kB => exact rfl); (case kD => decide +kernel); (case c2 => exact rfl); (case c3 => exact rfl); (case c4 => exact rfl); k_whole; intro g' L' h' tk' cells' FG' F' N' Y' B' X' T' l1 hkeep; (try k_lt l1); k_cells Y'; (try simp only [List.cons_append, List.nil_append] at N'); (try dsimp only); (try k_lift B'); (try k_fold))
  repeat' ((fail_if_success (with_reducible show wpAny _ _ (exec (Stmt.For (Expr.Name (Str.ofString "size") _) _ _ _ _) _) _ _ _)); first | (k_unfold; (try dsimp only)) | (k_end; wrow_close) | walk1 | (dsimp only; walk1) | (leave1; walk_say "STEP leave1"; try dsimp only) | fail "no step")
  k_dflt (refine For_invTF (by k_asm) ?_ (by intro _; rfl))
  repeat' ((fail_if_success (with_reducible show wpAny _ _ (pyIter _) _ _ _)); first | (k_unfold; (try dsimp only)) | (k_end; wrow_close) | walk1 | (dsimp only; walk1) | (leave1; walk_say "STEP leave1"; try dsimp only) | fail "no step")
  rename IsRange _ _ _ _ _ _ _ _ => hR
  refine' packP (σ := Nat × Obj × Obj) (fun z => [(Str.ofString "least", .ref z.1)])
    (fun z => [(z.1, listOf #[] 0), (L' + 1 + 1, z.2.1), (L' + 1, z.2.2), (sp, listOf #[.ref p0, .ref p1, .ref p2, .ref p3, .ref p4] e), (p0, tup2 z0.t u0 z0.b v0), (p1, tup2 z1.t u1 z1.b v1), (p2, tup2 z2.t u2 z2.b v2), (p3, tup2 z3.t u3 z3.b v3), (p4, tup2 z4.t u4 z4.b v4)])
    (fun z => L' + 2 < z.1 ∧ z.2.1.data = .cell none ∧ z.2.2.data = .cell (some (.ref sp))) ?pF ?pN ⟨_, _, _⟩ ?pm ?pn ?pp ?_
  case pF => k_asm
  case pN => k_asm
  case pn => (dsimp only; exact (List.forall_mem_cons.mpr ⟨by k_mem, (List.forall_mem_cons.mpr ⟨by k_mem, (List.forall_mem_cons.mpr ⟨by k_mem, (List.forall_mem_cons.mpr ⟨by k_mem, (List.forall_mem_cons.mpr ⟨by k_mem, (List.forall_mem_cons.mpr ⟨by k_mem, (List.forall_mem_cons.mpr ⟨by k_mem, (List.forall_mem_cons.mpr ⟨by k_mem, (List.forall_mem_cons.mpr ⟨by k_mem, (List.forall_mem_nil _)⟩)⟩)⟩)⟩)⟩)⟩)⟩)⟩)⟩))
  case pm => kst_all
  case pp => exact ⟨(show @LT.lt Nat _ _ _ from by omega), by assumption, by assumption⟩
  rintro ⟨la, o1, o2⟩ m1 hm1 ⟨lla, d1, d2⟩ F2 N2
  dsimp only at hm1 lla d1 d2 N2
  have lla' : @LT.lt Nat _ (L' + 2) la := lla
  have lts : Offs la [L' + 1 + 1, L' + 1, sp, p0, p1, p2, p3, p4] := ⟨by
    simp only [List.forall_mem_cons]
    exact ⟨Nat.ne_of_lt (by omega), Nat.ne_of_lt (by omega), Nat.ne_of_lt (by omega), Nat.ne_of_lt (by omega), Nat.ne_of_lt (by omega), Nat.ne_of_lt (by omega), Nat.ne_of_lt (by omega), Nat.ne_of_lt (by omega), fun _ h => nomatch h⟩⟩
  refine iter_rangeT (n := 6) (σ := LeastS)
    (fun i z => (la, listOf (z.rd.map fun r => Value.ref r.a).toArray z.en) :: (L' + 1 + 1, z.oc) :: (L' + 1, o2) :: (sp, listOf #[.ref p0, .ref p1, .ref p2, .ref p3, .ref p4] e) :: (p0, tup2 z0.t u0 z0.b v0) :: (p1, tup2 z1.t u1 z1.b v1) :: (p2, tup2 z2.t u2 z2.b v2) :: (p3, tup2 z3.t u3 z3.b v3) :: (p4, tup2 z4.t u4 z4.b v4) :: z.rr)
    (fun i z => [(Str.ofString "least", .ref la)])
    (fun i z => z.oc.data = .cell z.cv ∧ z.rd.length = i ∧ (∀ (j : Nat) (r : It), z.rd[j]? = some r → IsLeast (colZ z0 z1 z2 z3 z4 (1 + (j : Int))) r.c r.k) ∧
      (∀ r ∈ z.rd, r.ent ∈ z.rr) ∧ (∀ p ∈ z.rr, p.2.cls = .type "tuple") ∧ (∀ p ∈ z.rr, L' + 2 < p.1))
    (by rfl) hR (range_small (by decide) (by decide) (by decide) (by decide)) (range_size (.inl ⟨by decide, by decide⟩)) F2 N2 (fun _ _ => rfl) ⟨⟨0, [], [], o1, none⟩, rfl, hm1,
      ⟨d1, rfl, (fun j r h => by simp at h), (fun r h => by simp at h), (fun _ h => nomatch h), (fun _ h => nomatch h)⟩⟩ ?step ?done
  case done =>
    intro z v h tk hP F3 N3
    obtain ⟨en, rd, rr, oc, cv⟩ := z
    dsimp only [kstB] at hP F3 N3
    obtain ⟨hoc, hlen, hleast, hrd, hcl, hgt⟩ := hP
    obtain ⟨r0, r1, r2, r3, r4, r5, rfl⟩ := six rd hlen
    have l0 := hleast 0 r0 rfl; have l1 := hleast 1 r1 rfl; have l2 := hleast 2 r2 rfl; have l3 := hleast 3 r3 rfl; have l4 := hleast 4 r4 rfl; have l5 := hleast 5 r5 rfl
    have m0 := hrd r0 (by simp); have m1 := hrd r1 (by simp); have m2 := hrd r2 (by simp); have m3 := hrd r3 (by simp); have m4 := hrd r4 (by simp); have m5 := hrd r5 (by simp)
    simp only [List.map_cons, List.map_nil] at N3
    clear hlen hleast hrd hcl hgt
    dsimp only
    k_steps
    refine' ret_end (sub' := [(la, listOf #[.ref r0.a, .ref r1.a, .ref r2.a, .ref r3.a, .ref r4.a, .ref r5.a] en), r0.ent, r1.ent, r2.ent, r3.ent, r4.ent, r5.ent]) (Q := fun r s' => R (.ok (.ret r)) s') hret N hkeep ?rF ?rN ?rG ?rM ?rin ?rsub ?rp
    case rF => k_asm
    case rN => k_asm
    case rG => k_asm
    case rM => k_asm
    case rin => exact List.forall_mem_cons.mpr ⟨by k_mem, tail6 (by (repeat' (first | with_reducible assumption | exact in_self | refine in_tail ?_))) m0 m1 m2 m3 m4 m5⟩
    case rsub => exact (List.forall_mem_cons.mpr ⟨.inr (by k_mem), (List.forall_mem_cons.mpr ⟨.inr (by k_mem), (List.forall_mem_cons.mpr ⟨.inr (by k_mem), (List.forall_mem_cons.mpr ⟨.inr (by k_mem), (List.forall_mem_cons.mpr ⟨.inr (by k_mem), (List.forall_mem_cons.mpr ⟨.inr (by k_mem), (List.forall_mem_nil _)⟩)⟩)⟩)⟩)⟩)⟩)
    case rp => exact ⟨la, en, r0, r1, r2, r3, r4, r5, rfl, rfl, l0, l1, l2, l3, l4, l5⟩
  case step =>
    intro s₁ I i z v t h tk hi hP ho F3 N3
    obtain ⟨en, rd, rr, oc, cv⟩ := z
    dsimp only [kstB, It.ent] at hP ho F3 N3 ⊢
    obtain ⟨hoc, hlen, hleast, hrd, hcl, hgt⟩ := hP
    have oI : Offs I [la, L' + 1 + 1, L' + 1, sp, p0, p1, p2, p3, p4] := ⟨fun a ha => by
      simp only [List.mem_cons, List.not_mem_nil, or_false] at ha
      rcases ha with rfl | rfl | rfl | rfl | rfl | rfl | rfl | rfl | rfl <;> first | exact ho (_, _) (by k_mem)⟩
    repeat' ((fail_if_success (with_reducible show wpAny _ _ (PySem.call (Value.builtin "min") _) _ _ _)); (fail_if_success (with_reducible show UnrEnd _ _ _ _ _ _ _)); (fail_if_success (with_reducible show KswEnd _ _ _ _ _ _ _ _ _ _ _ _)); first | (k_unfold; (try dsimp only)) | (k_end; wrow_close) | walk1 | (dsimp only; walk1) | (leave1; walk_say "STEP leave1"; try dsimp only) | fail "no step")
    k_dflt (refine' min_tups (its := [⟨_, z0.b + (1 + (i : Int)) * z0.t, _, 0, _⟩, ⟨_, z1.b + (1 + (i : Int)) * z1.t, _, 1, _⟩, ⟨_, z2.b + (1 + (i : Int)) * z2.t, _, 2, _⟩, ⟨_, z3.b + (1 + (i : Int)) * z3.t, _, 3, _⟩, ⟨_, z4.b + (1 + (i : Int)) * z4.t, _, 4, _⟩]) (n := 5) ?mu ?mh ?mF ?mN ?mm ?mt ?mne ?_; (case mF => k_asm); (case mN => k_asm); (case mm => k_mem); (case mt => exact (List.forall_mem_cons.mpr ⟨by k_mem, (List.forall_mem_cons.mpr ⟨by k_mem, (List.forall_mem_cons.mpr ⟨by k_mem, (List.forall_mem_cons.mpr ⟨by k_mem, (List.forall_mem_cons.mpr ⟨by k_mem, (List.forall_mem_nil _)⟩)⟩)⟩)⟩)⟩)); (case mu => ktr_units); (case mh => rfl); (case mne => exact Nat.succ_pos _))
    intro h9 r tk9 F9 N9 hr9 hle9
    have hrl := least_of hr9 hle9
    have hrg : L' + 2 < r.a := of_its hr9 (List.forall_mem_cons.mpr ⟨(show @LT.lt Nat _ _ _ from by dsimp only; omega), (List.forall_mem_cons.mpr ⟨(show @LT.lt Nat _ _ _ from by dsimp only; omega), (List.forall_mem_cons.mpr ⟨(show @LT.lt Nat _ _ _ from by dsimp only; omega), (List.forall_mem_cons.mpr ⟨(show @LT.lt Nat _ _ _ from by dsimp only; omega), (List.forall_mem_cons.mpr ⟨(show @LT.lt Nat _ _ _ from by dsimp only; omega), (List.forall_mem_nil _)⟩)⟩)⟩)⟩)⟩)
    clear hr9 hle9
    rename Fr _ _ _ _ => F8
    have N8 := news_sub N9 (l := (I, itR (1 + ((i + 1 : Nat) : Int)) (((6 : Nat) : Int) - ((i + 1 : Nat) : Int))) :: (la, listOf (rd.map fun r => Value.ref r.a).toArray en) :: (L' + 1 + 1, _) :: (L' + 1, o2) :: (sp, listOf #[.ref p0, .ref p1, .ref p2, .ref p3, .ref p4] e) :: (p0, tup2 z0.t u0 z0.b v0) :: (p1, tup2 z1.t u1 z1.b v1) :: (p2, tup2 z2.t u2 z2.b v2) :: (p3, tup2 z3.t u3 z3.b v3) :: (p4, tup2 z4.t u4 z4.b v4) :: r.ent :: rr) (List.forall_mem_cons.mpr ⟨by k_mem, (List.forall_mem_cons.mpr ⟨by k_mem, (List.forall_mem_cons.mpr ⟨by k_mem, (List.forall_mem_cons.mpr ⟨by k_mem, (List.forall_mem_cons.mpr ⟨by k_mem, (List.forall_mem_cons.mpr ⟨by k_mem, (List.forall_mem_cons.mpr ⟨by k_mem, (List.forall_mem_cons.mpr ⟨by k_mem, (List.forall_mem_cons.mpr ⟨by k_mem, (List.forall_mem_cons.mpr ⟨by k_mem, (List.forall_mem_cons.mpr ⟨by k_mem, (by (repeat' (first | with_reducible assumption | exact in_self | refine in_tail ?_)))⟩)⟩)⟩)⟩)⟩)⟩)⟩)⟩)⟩)⟩)⟩)
    clear N9
    have hcl' : ∀ p ∈ r.ent :: rr, p.2.cls = .type "tuple" := List.forall_mem_cons.mpr ⟨rfl, hcl⟩
    have hgt' : ∀ p ∈ r.ent :: rr, L' + 2 < p.1 := List.forall_mem_cons.mpr ⟨hrg, hgt⟩
    clear hcl hgt
    (try dsimp only)
    repeat' ((fail_if_success (with_reducible show wpAny _ _ (PySem.call (Value.builtin "list.append") _) _ _ _)); (fail_if_success (with_reducible show UnrEnd _ _ _ _ _ _ _)); (fail_if_success (with_reducible show KswEnd _ _ _ _ _ _ _ _ _ _ _ _)); first | (k_unfold; (try dsimp only)) | (k_end; wrow_close) | walk1 | (dsimp only; walk1) | (leave1; walk_say "STEP leave1"; try dsimp only) | fail "no step")
    k_dflt (refine' append_K (by k_asm) N8 (Upd.tail (Ne.symm (oI.at (by simp))) (Upd.head ?uo)) ?_ ?uz)
    case uo => exact (List.forall_mem_cons.mpr ⟨lts.at (by simp), (List.forall_mem_cons.mpr ⟨lts.at (by simp), (List.forall_mem_cons.mpr ⟨lts.at (by simp), (List.forall_mem_cons.mpr ⟨lts.at (by simp), (List.forall_mem_cons.mpr ⟨lts.at (by simp), (List.forall_mem_cons.mpr ⟨lts.at (by simp), (List.forall_mem_cons.mpr ⟨lts.at (by simp), (List.forall_mem_cons.mpr ⟨lts.at (by simp), (off_tup N8 (by k_mem) (by (repeat' (first | with_reducible assumption | exact in_self | refine in_tail ?_))) hcl' (by simp [tupO]))⟩)⟩)⟩)⟩)⟩)⟩)⟩)⟩)
    case uz => (simp only [List.size_toArray, List.length_map]; rw [hlen, sizeLine_eq]; omega)
    intro h7 F7 N7
    (try dsimp only)
    repeat' ( (fail_if_success (with_reducible show UnrEnd _ _ _ _ _ _ _)); (fail_if_success (with_reducible show KswEnd _ _ _ _ _ _ _ _ _ _ _ _)); first | (k_unfold; (try dsimp only)) | (k_end; wrow_close) | walk1 | (dsimp only; walk1) | (leave1; walk_say "STEP leave1"; try dsimp only) | fail "no step")
    rename Obj.data _ = _ => hoc'
    refine' unr_end2 (⟨en + 1, rd ++ [r], r.ent :: rr, _, some (.int (1 + (i : Int)) t)⟩ : LeastS) (by k_asm) N7 (by k_mem) ?es ?eo (by kst_all) ?ep
    case es =>
      dsimp only
      rw [show (List.map (fun r : It => Value.ref r.a) (rd ++ [r])).toArray = (List.map (fun r : It => Value.ref r.a) rd).toArray.push (.ref r.a) from by simp]
      exact (List.forall_mem_cons.mpr ⟨by k_mem, (List.forall_mem_cons.mpr ⟨by k_mem, (List.forall_mem_cons.mpr ⟨by k_mem, (List.forall_mem_cons.mpr ⟨by k_mem, (List.forall_mem_cons.mpr ⟨by k_mem, (List.forall_mem_cons.mpr ⟨by k_mem, (List.forall_mem_cons.mpr ⟨by k_mem, (List.forall_mem_cons.mpr ⟨by k_mem, (List.forall_mem_cons.mpr ⟨by k_mem, (by (repeat' (first | with_reducible assumption | exact in_self | refine in_tail ?_)))⟩)⟩)⟩)⟩)⟩)⟩)⟩)⟩)⟩)
    case eo =>
      dsimp only
      exact (List.forall_mem_cons.mpr ⟨oI.at (by simp), (List.forall_mem_cons.mpr ⟨oI.at (by simp), (List.forall_mem_cons.mpr ⟨oI.at (by simp), (List.forall_mem_cons.mpr ⟨oI.at (by simp), (List.forall_mem_cons.mpr ⟨oI.at (by simp), (List.forall_mem_cons.mpr ⟨oI.at (by simp), (List.forall_mem_cons.mpr ⟨oI.at (by simp), (List.forall_mem_cons.mpr ⟨oI.at (by simp), (List.forall_mem_cons.mpr ⟨oI.at (by simp), (off_tup N7 (by k_mem) (by (repeat' (first | with_reducible assumption | exact in_self | refine in_tail ?_))) hcl' (by simp [itR]))⟩)⟩)⟩)⟩)⟩)⟩)⟩)⟩)⟩)
    case ep =>
      dsimp only
      refine ⟨hoc', by simp [hlen], ?_, ?_, hcl', hgt'⟩
      · intro j q hj
        rcases Nat.lt_or_ge j rd.length with hl | hl
        · rw [List.getElem?_append_left hl] at hj
          exact hleast j q hj
        · rw [List.getElem?_append_right hl] at hj
          have e0 : j - rd.length = 0 := by
            rcases Nat.eq_zero_or_pos (j - rd.length) with h | h
            · exact h
            · rw [List.getElem?_eq_none (by show 1 ≤ j - rd.length; omega)] at hj
              cases hj
          rw [e0] at hj
          cases hj
          have ej : j = i := by omega
          subst ej
          exact hrl
      · intro q hq
        rcases List.mem_append.mp hq with h | h
        · exact .tail _ (hrd q h)
        · rw [List.mem_singleton.mp h]; exact .head _
end
/-- t capital letters, then b small ones -/
def waStr (t b : Nat) : Str := ⟨(List.replicate t 65 ++ List.replicate b 97).toArray⟩
theorem wa_len (t b : Nat) : (waStr t b).length = t + b := by simp [waStr, Str.length]
theorem wa_eq_all : ∀ t < 4, ∀ b < 6, ∀ t' < 4, ∀ b' < 6, (waStr t b == waStr t' b') = (decide (t = t') && decide (b = b')) := by decide +kernel
theorem wa_from_all : ∀ t < 4, ∀ b < 6, ∀ p < 9, Txt.slice (waStr t b) (some ((p : Nat) : Int)) none = waStr (t - p) (b - (p - t)) := by decide +kernel
theorem wa_upto_all : ∀ t < 4, ∀ b < 6, ∀ p < 9, 0 < p → Txt.slice (waStr t b) none (some (-((p : Nat) : Int))) = waStr (t - (p - b)) (b - p) := by decide +kernel
theorem wa_whole_all : ∀ t < 4, ∀ b < 6, Txt.slice (waStr t b) none none = waStr t b := by decide +kernel
theorem wa_at_all : ∀ t < 4, ∀ b < 6, ∀ p < 9, p < t + b → (seqIndex? ((p : Nat) : Int) (waStr t b).length).bind ((waStr t b).cps[·]?) = some (if p < t then 65 else 97) := by decide +kernel
theorem wa_back_all : ∀ t < 4, ∀ b < 6, ∀ p < 9, p < t + b → (seqIndex? (-((p : Nat) : Int) - 1) (waStr t b).length).bind ((waStr t b).cps[·]?) = some (if p < b then 97 else 65) := by decide +kernel
section
variable {prog : Program} {w : World} {A : Around} {E : Value → Shared → Prop} {s : Shared} {value slice : PySem.Expr} {x y : Str} {t u : Tok} {h₀ : Heap} {L : Addr} {m : Str → Option Value} {news : Led} {Q : Value → Shared → Prop} {a b : Nat}
theorem wa_room (ha : a < 4) (hb : b < 6) : (waStr a b).length ≤ sizeLine := by rw [wa_len, sizeLine_eq]; omega
theorem sl_from {i : Int} {ui : Tok} (hF : Fr h₀ L s.heap m) (hN : News h₀ L s.heap news) (e : Txt.slice x (some i) none = y) (hsz : x.length ≤ sizeLine) (h : ∀ h' t' k, Fr h₀ L h' m → News h₀ L h' news → Q (.str y t') { s with heap := h', toks := k })
    (hs : subscripted slice false (.str x t) (.ref s.heap.objs.size) = operate [.ref s.heap.objs.size, .str x t] (getItem (.str x t) (.ref s.heap.objs.size)) := by with_unfolding_all rfl)
    (ht : ∀ r, letTemporaryGo value (.str x t) r = pure () := by intro _; with_unfolding_all rfl) :
    wpAny (model prog w) A (subscriptTail value slice (.str x t) (.ref s.heap.objs.size)) Q E { s with heap := s.heap.push { cls := .type "slice", data := .fields #[.int i ui, .none, .none] } } :=
  slice_strN_sn hF hN (fun h' t' k a b => e ▸ h h' t' k a b) hs ht hsz
theorem sl_upto {i : Int} {ui : Tok} (hF : Fr h₀ L s.heap m) (hN : News h₀ L s.heap news) (e : Txt.slice x none (some i) = y) (hsz : x.length ≤ sizeLine) (h : ∀ h' t' k, Fr h₀ L h' m → News h₀ L h' news → Q (.str y t') { s with heap := h', toks := k })
    (hs : subscripted slice false (.str x t) (.ref s.heap.objs.size) = operate [.ref s.heap.objs.size, .str x t] (getItem (.str x t) (.ref s.heap.objs.size)) := by with_unfolding_all rfl)
    (ht : ∀ r, letTemporaryGo value (.str x t) r = pure () := by intro _; with_unfolding_all rfl) :
    wpAny (model prog w) A (subscriptTail value slice (.str x t) (.ref s.heap.objs.size)) Q E { s with heap := s.heap.push { cls := .type "slice", data := .fields #[.none, .int i ui, .none] } } :=
  slice_strN_ns hF hN (fun h' t' k a b => e ▸ h h' t' k a b) hs ht hsz
theorem sl_whole (hF : Fr h₀ L s.heap m) (hN : News h₀ L s.heap news) (e : Txt.slice x none none = y) (hsz : x.length ≤ sizeLine) (h : ∀ h' t' k, Fr h₀ L h' m → News h₀ L h' news → Q (.str y t') { s with heap := h', toks := k })
    (hs : subscripted slice false (.str x t) (.ref s.heap.objs.size) = operate [.ref s.heap.objs.size, .str x t] (getItem (.str x t) (.ref s.heap.objs.size)) := by with_unfolding_all rfl)
    (ht : ∀ r, letTemporaryGo value (.str x t) r = pure () := by intro _; with_unfolding_all rfl) :
    wpAny (model prog w) A (subscriptTail value slice (.str x t) (.ref s.heap.objs.size)) Q E { s with heap := s.heap.push { cls := .type "slice", data := .fields #[.none, .none, .none] } } :=
  slice_strN_nn hF hN (fun h' t' k a b => e ▸ h h' t' k a b) hs ht hsz
theorem wa_truthy {Q : Bool → Shared → Prop} (ha : a < 4) (hb : b < 6) (h : ∀ k, Q (decide (0 < a + b)) { s with toks := k }) : wpAny (model prog w) A (truthy (.str (waStr a b) t)) Q E s := by
  refine P.truthy_str (by rw [wa_len]; omega) ?_
  have e : (((waStr a b).length : Int) != 0) = decide (0 < a + b) := by
    rw [wa_len]
    rcases Nat.eq_zero_or_pos (a + b) with h | h
    · rw [h]; rfl
    · rw [decide_eq_true h, bne_iff_ne]; omega
  rw [e]
  exact h _
theorem wa_item {i : Int} {c : Nat} (hc : (seqIndex? i x.length).bind (x.cps[·]?) = some c) (h1 : -(2 ^ 63 : Int) ≤ i) (h2 : i < 2 ^ 63) (h : ∀ t' k, Q (.str ⟨#[c]⟩ t') { s with toks := k })
    (hs : subscripted slice false (.str x t) (.int i u) = operate [.str x t, .int i u] (getItem (.str x t) (.int i u)) := by with_unfolding_all rfl) : wpAny (model prog w) A (subscriptTail value slice (.str x t) (.int i u)) Q E s :=
  tail_any (typeIs_str s x t) slot_str_getitem.lookup (getItem_str (by rw [decide_eq_false (by omega), decide_eq_false (by omega)]; rfl) hc (h _ _)) hs
theorem chr_eq {c d : Nat} (h : Q (.bool (decide (c = d))) s) : wpAny (model prog w) A (compareOp .Eq (.str ⟨#[c]⟩ t) (.str ⟨#[d]⟩ u)) Q E s := by
  refine eq_str ?_
  have e : ((⟨#[c]⟩ : Str) == ⟨#[d]⟩) = decide (c = d) := by
    by_cases hc : c = d
    · subst hc; simp
    · rw [decide_eq_false hc]
      simp [hc]
  rw [e]
  exact h
end
/-- the end of a while whose ways out meet -/
def WEnd {σ : Type} (h₀ : Heap) (L : Addr) (s : Shared) (Ld : σ → Led) (ps : σ → List (Str × Value)) (Out : σ → Prop) (fl : Flow) (s₂ : Shared) : Prop :=
  fl = .next ∧ ∃ (c : σ) (h' : Heap) (tk : Nat) (m' : Str → Option Value), s₂ = { s with heap := h', toks := tk } ∧ Fr h₀ L h' m' ∧ News h₀ L h' (Ld c) ∧ (∀ p ∈ ps c, m' p.1 = some p.2) ∧ Out c
theorem wend {σ : Type} {h₀ : Heap} {L : Addr} {s : Shared} {Ld : σ → Led} {ps : σ → List (Str × Value)} {Out : σ → Prop} {h' : Heap} {tk : Nat} {m' : Str → Option Value} {news : Led} (c : σ) (F : Fr h₀ L h' m') (N : News h₀ L h' news) (hn : ∀ p ∈ Ld c, p ∈ news)
    (hk : ∀ p ∈ ps c, m' p.1 = some p.2) (ho : Out c) : WEnd h₀ L s Ld ps Out .next { s with heap := h', toks := tk } := ⟨rfl, c, h', tk, m', rfl, F, fun p hp => N p (hn p hp), hk, ho⟩
theorem while_out {prog : Program} {w : World} {A : Around} {E : Value → Shared → Prop} {Q : Flow → Shared → Prop} {s : Shared} {env : Env} {h₀ : Heap} {L : Addr} {σ : Type} {test : Expr} {body : List Stmt} {pos : Pos} {m₀ : Str → Option Value} (Ld : σ → Led) (ps : σ → List (Str × Value)) (P Out : σ → Prop) (μ : σ → Nat) (c₀ : σ)
    (F : Fr h₀ L s.heap m₀) (N : News h₀ L s.heap (Ld c₀)) (hk : ∀ p ∈ ps c₀, m₀ p.1 = some p.2) (hp : P c₀)
    (turn : ∀ (c : σ) (u : Str → Option Value) h tk, P c → Fr h₀ L h (kstB (fun z => if ([] : List Str).contains z then u z else m₀ z) (ps c)) → News h₀ L h (Ld c) →
      wpAny (model prog w) A (isTrue test env (eval test env)) (fun b s₂ =>
        if b = true then wpAny (model prog w) A (execs body env) (KswPost h₀ L s Ld ps (fun _ => True) [] m₀ P μ (WEnd h₀ L s Ld ps Out) c) E s₂ else WEnd h₀ L s Ld ps Out .next s₂) E { s with heap := h, toks := tk })
    (done : ∀ (c : σ) (u : Str → Option Value) h tk, Out c → Fr h₀ L h (kstB u (ps c)) → News h₀ L h (Ld c) → Q .next { s with heap := h, toks := tk })
    (hE : PassesOwn (model prog w) A env E := by passes_own) :
    wpAny (model prog w) A (exec (.While test body [] pos) env) Q E s := by
  refine wpAny_mono (ksw_while (Q := WEnd h₀ L s Ld ps Out) Ld ps (fun _ => True) [] P μ c₀ F N trivial hk hp (fun c u h tk _ hp F' N' => turn c u h tk hp F' N') hE) (fun fl s₂ q => ?_) fun _ _ x => x
  obtain ⟨rfl, c, h', tk, m', rfl, F', N', hm, ho⟩ := q
  rw [← kstB_self hm] at F'
  exact done c m' h' tk ho F' N'
theorem stmt_out {prog : Program} {w : World} {A : Around} {E : Value → Shared → Prop} {Q : Flow → Shared → Prop} {s : Shared} {tree : Sem Flow} {h₀ : Heap} {L : Addr} {σ : Type} (Ld : σ → Led) (ps : σ → List (Str × Value)) (Out : σ → Prop) {m₀ : Str → Option Value} (_F : Fr h₀ L s.heap m₀)
    (turn : wpAny (model prog w) A tree (WEnd h₀ L s Ld ps Out) E s)
    (done : ∀ (c : σ) (u : Str → Option Value) h tk, Out c → Fr h₀ L h (kstB u (ps c)) → News h₀ L h (Ld c) → Q .next { s with heap := h, toks := tk }) : wpAny (model prog w) A tree Q E s := by
  refine wpAny_mono turn (fun fl s₂ q => ?_) fun _ _ x => x
  obtain ⟨rfl, c, h', tk, m', rfl, F', N', hm, ho⟩ := q
  rw [← kstB_self hm] at F'
  exact done c m' h' tk ho F' N'
theorem chr_iff {p q : Prop} [Decidable p] [Decidable q] : ((if p then 65 else 97) = (if q then 65 else (97 : Nat))) ↔ (p ↔ q) := by
  by_cases hp : p <;> by_cases hq : q <;> simp [hp, hq]
theorem chr_iff' {p q : Prop} [Decidable p] [Decidable q] : ((if p then 97 else 65) = (if q then 97 else (65 : Nat))) ↔ (p ↔ q) := by
  by_cases hp : p <;> by_cases hq : q <;> simp [hp, hq]
section
variable {prog : Program} {w : World} {A : Around} {E : Value → Shared → Prop} {s : Shared} {t : Tok} {Q : Value → Shared → Prop} {a b : Nat}
theorem wa_len_call (ha : a < 4) (hb : b < 6) (h : ∀ u k, Q (.int ((a : Int) + (b : Int)) u) { s with toks := k }) : wpAny (model prog w) A (call (.builtin "len") [.str (waStr a b) t]) Q E s := by
  refine len_str (by rw [wa_len]; omega) ?_
  rw [wa_len, Int.natCast_add]
  exact h _ _
end
/-- n times one letter -/
def oneS (c n : Nat) : Str := ⟨(List.replicate n c).toArray⟩
theorem wa_caps (n : Nat) : waStr n 0 = oneS 65 n := by simp [waStr, oneS]
theorem wa_smalls (n : Nat) : waStr 0 n = oneS 97 n := by simp [waStr, oneS]
theorem one_len (c n : Nat) : (oneS c n).length = n := by simp [oneS, Str.length]
section
variable {prog : Program} {w : World} {A : Around} {E : Value → Shared → Prop} {s : Shared} {value slice : PySem.Expr} {t u : Tok} {Q : Value → Shared → Prop} {c n : Nat}
theorem one_len_call (hn : n < 9) (h : ∀ u k, Q (.int (n : Int) u) { s with toks := k }) : wpAny (model prog w) A (call (.builtin "len") [.str (oneS c n) t]) Q E s := by
  refine len_str (by rw [one_len]; omega) ?_
  rw [one_len]
  exact h _ _
theorem one_item {i : Int} (h1 : 0 ≤ i) (h2 : i < n) (hn : n < 9) (h : ∀ t' k, Q (.str ⟨#[c]⟩ t') { s with toks := k })
    (hs : subscripted slice false (.str (oneS c n) t) (.int i u) = operate [.str (oneS c n) t, .int i u] (getItem (.str (oneS c n) t) (.int i u)) := by with_unfolding_all rfl) : wpAny (model prog w) A (subscriptTail value slice (.str (oneS c n) t) (.int i u)) Q E s := by
  refine wa_item (c := c) ?_ (by omega) (by omega) h hs
  rw [one_len]
  unfold seqIndex?
  have e1 : ¬ i < 0 := by omega
  simp only [e1, if_false]
  rw [if_pos (by rw [decide_eq_true h1, decide_eq_true h2]; rfl)]
  simp only [Option.bind_some]
  have e2 : i.toNat < n := by omega
  simp [oneS, e2]
end
theorem sub_cost_spec {w : World} {mean : ExcName → Option Value} {mg mb : Str → Option Value} {c c' : Nat} {k1 k2 : Tok} (hc : (c = 65 ∧ c' = 97) ∨ (c = 97 ∧ c' = 65)) :
  CodeSpec w mean mg mb 122 [.str ⟨#[c']⟩ k1, .str ⟨#[c]⟩ k2] [] [] 4 60
   (fun r l => (∃ q, r = .int 1 q) ∧ l = []) := by
  rcases hc with ⟨rfl, rfl⟩ | ⟨rfl, rfl⟩
  · unfold CodeSpec; k_fill; intro dp un gd cn cs a ccd cl outer A₀ base h₀ L m s R B F X N T hk hdp hu hret
    k_dflt (refine' spec_code ?k1 ?k2 ?k3 ?k4 ?k5 ?kA ?kF ?kK ?k6 ?k7 ?k8 ?k9 ?kB ?_ ?c2 ?c3 ?c4 ?c5; (case kA => exact rfl); (case kF => exact rfl); (case kK => assumption); (case k1 => k_asm); (case k2 => k_asm); (case k3 => k_asm); (case k4 => k_asm); (case k5 => k_asm); (case k6 => k_is); (case k7 => k_is); (case k8 => ktr_room); (case k9 => exact BindsTo.of_eq rfl); (case c5 => decide); (case kB => exact locs rfl); (case c2 => exact rfl); (case c3 => exact rfl); (case c4 => exact rfl); k_whole; intro g' L' h' FG' F' N' B' X' T' hkeep; (try dsimp only); (try k_lift B'); (try k_fold))
    k_steps
    refine' ret_end (sub' := []) (Q := fun r s' => R (.ok (.ret r)) s') hret N hkeep ?rF133 ?rN133 ?rG133 ?rM133 ?rin133 ?rsub133 ?rp133; (case rF133 => k_asm); (case rN133 => k_asm); (case rG133 => k_asm); (case rM133 => k_asm); (case rin133 => exact (List.forall_mem_nil _)); (case rsub133 => simp)
    exact ⟨⟨_, rfl⟩, rfl⟩
  · unfold CodeSpec; k_fill; intro dp un gd cn cs a ccd cl outer A₀ base h₀ L m s R B F X N T hk hdp hu hret
    k_dflt (refine' spec_code ?k1 ?k2 ?k3 ?k4 ?k5 ?kA ?kF ?kK ?k6 ?k7 ?k8 ?k9 ?kB ?_ ?c2 ?c3 ?c4 ?c5; (case kA => exact rfl); (case kF => exact rfl); (case kK => assumption); (case k1 => k_asm); (case k2 => k_asm); (case k3 => k_asm); (case k4 => k_asm); (case k5 => k_asm); (case k6 => k_is); (case k7 => k_is); (case k8 => ktr_room); (case k9 => exact BindsTo.of_eq rfl); (case c5 => decide); (case kB => exact locs rfl); (case c2 => exact rfl); (case c3 => exact rfl); (case c4 => exact rfl); k_whole; intro g' L' h' FG' F' N' B' X' T' hkeep; (try dsimp only); (try k_lift B'); (try k_fold))
    k_steps
    refine' ret_end (sub' := []) (Q := fun r s' => R (.ok (.ret r)) s') hret N hkeep ?rF136 ?rN136 ?rG136 ?rM136 ?rin136 ?rsub136 ?rp136; (case rF136 => k_asm); (case rN136 => k_asm); (case rG136 => k_asm); (case rM136 => k_asm); (case rin136 => exact (List.forall_mem_nil _)); (case rsub136 => simp)
    exact ⟨⟨_, rfl⟩, rfl⟩
def dd (i j : Nat) : Int := 2 * max (i : Int) (j : Int) - min (i : Int) (j : Int)
/-- the row of the table: done up to j -/
structure RowOk (m i j : Nat) (row : List Value) : Prop where
  len : row.length = m
  at' : ∀ k, k < m → ∃ tk, row[k]? = some (.int (if k < j then dd (i + 1) (k + 1) else dd i (k + 1)) tk)
theorem RowOk.next {m i : Nat} {row : List Value} (h : RowOk m i m row) : RowOk m (i + 1) 0 row :=
  ⟨h.len, fun k hk => by
    obtain ⟨tk, e⟩ := h.at' k hk
    rw [if_pos hk] at e
    exact ⟨tk, by rw [e, if_neg (Nat.not_lt_zero k)]⟩⟩
theorem RowOk.old {m i j : Nat} {row : List Value} (h : RowOk m i j row) (hj : j < m) : ∃ tk, row[j]? = some (.int (dd i (j + 1)) tk) := by
  obtain ⟨tk, e⟩ := h.at' j hj
  rw [if_neg (Nat.lt_irrefl j)] at e
  exact ⟨tk, e⟩
theorem RowOk.set {m i j : Nat} {row : List Value} {v : Int} {t : Tok} (h : RowOk m i j row) (hj : j < m) (hv : v = dd (i + 1) (j + 1)) : RowOk m i (j + 1) (row.set j (.int v t)) := by
  refine ⟨by rw [List.length_set]; exact h.len, fun k hk => ?_⟩
  by_cases e : k = j
  · subst e
    refine ⟨t, ?_⟩
    rw [List.getElem?_set_self (by rw [h.len]; exact hj), if_pos (Nat.lt_succ_self _), hv]
  · obtain ⟨tk, q⟩ := h.at' k hk
    refine ⟨tk, ?_⟩
    rw [List.getElem?_set_ne (Ne.symm e), q]
    by_cases e2 : k < j
    · rw [if_pos e2, if_pos (by omega)]
    · rw [if_neg e2, if_neg (by omega)]
theorem set_some : ∀ {l : List Value} {k : Nat} {v : Value}, k < l.length → ki_setL l k v = some (l.set k v)
  | [], _, _, h => absurd h (Nat.not_lt_zero _)
  | _ :: _, 0, _, _ => rfl
  | a :: l, k + 1, v, h => by
    have e := set_some (l := l) (k := k) (v := v) (Nat.lt_of_succ_lt_succ h)
    unfold ki_setL
    rw [e]
    rfl
section
variable {prog : Program} {w : World} {A : Around} {E : Value → Shared → Prop} {s : Shared} {h₀ : Heap} {L : Addr} {m : Str → Option Value} {news : Led} {Q : Value → Shared → Prop}
theorem sub_at {value slice : PySem.Expr} {D : Addr} {row : List Value} {n j : Nat} {u : Tok} {v : Value} (N : News h₀ L s.heap news) (hm : (D, listOf row.toArray n) ∈ news) (hfit : j < 9) (hx : row[j]? = some v) (h : Q v s)
    (hs : subscripted slice false (.ref D) (.int (j : Int) u) = operate [.ref D, .int (j : Int) u] (getItem (.ref D) (.int (j : Int) u)) := by with_unfolding_all rfl) :
    wpAny (model prog w) A (subscriptTail value slice (.ref D) (.int (j : Int) u)) Q E s :=
  sub_news N hm (Int.natCast_nonneg _) (by omega) (by rw [nthV_eq]; exact hx) h hs
theorem list_step {r : Addr} {a b c : Int} {t u v : Tok} {n : Nat} (hh : A.handled = none) (F : Fr h₀ L s.heap m) (N : News h₀ L s.heap news) (hr : IsRange s.heap r a b c t u v) (hsmall : Builtin.Range.small a b c = true) (hn : Builtin.Range.rangeSize a b c = n) (hlen : n ≤ 2 ^ 24)
    (h : ∀ D (us : List Value) e h' tk, Fr h₀ L h' m → News h₀ L h' ((D, listOf us.toArray e) :: news) → (∀ p ∈ news, p.1 < D) → us.length = n → (∀ (i : Nat) x, us[i]? = some x → ∃ t, x = .int (a + (i : Int) * c) t) → Q (.ref D) { s with heap := h', toks := tk }) :
    wpAny (model prog w) A (call (.type "list") [.ref r]) Q E s := by
  refine call_list_range hh hr hsmall hn hlen fun h' tk acc e hk hD hI => ?_
  refine h _ acc.toList e h' tk (F.keeps hk) (fun p hp => ?_) (fun p hp => Heap.lt_size (N p hp).1) (by rw [Array.length_toList]; exact hI.1) fun i x hx => hI.2 i x (by rw [← Array.getElem?_toList]; exact hx)
  rcases List.mem_cons.mp hp with rfl | hp
  · exact ⟨hD, Nat.ne_of_gt F.ns.lt, next_is_new F⟩
  · exact ⟨hk _ _ (N p hp).1, (N p hp).2⟩
end
theorem range2_size {m : Nat} (h1 : 1 ≤ m) (h3 : m ≤ 3) : Builtin.Range.rangeSize 2 (2 * ((m : Int) + 1)) 2 = (m : Int) ∧ Builtin.Range.small 2 (2 * ((m : Int) + 1)) 2 = true := by
  rcases (by omega : m = 1 ∨ m = 2 ∨ m = 3) with rfl | rfl | rfl <;> exact ⟨by decide +kernel, by decide +kernel⟩

structure LevDue (t b t' b' : Nat) (mc : Int) : Prop where
  down : t' ≤ t → b' ≤ b → mc = 2 * ((t : Int) - t' + (b - b'))
  up : t ≤ t' → b ≤ b' → mc = 2 * ((t' : Int) - t + (b' - b))
  over : t' ≤ t → b ≤ b' → (t : Int) - t' ≤ b' - b → mc = 2 * ((b' : Int) - b - (t - t')) + (t - t')
  over' : t' ≤ t → b ≤ b' → (b' : Int) - b ≤ t - t' → mc = 2 * ((t : Int) - t' - (b' - b)) + (b' - b)
  under : t ≤ t' → b' ≤ b → (t' : Int) - t ≤ b - b' → mc = 2 * ((b : Int) - b' - (t' - t)) + (t' - t)
  under' : t ≤ t' → b' ≤ b → (b : Int) - b' ≤ t' - t → mc = 2 * ((t' : Int) - t - (b - b')) + (b - b')
structure DpS where
  row : List Value
  en : Nat
  r : Int
  kr : Tok
structure InS where
  row : List Value
  en : Nat
  d : Int
  r : Int
  mn : Int
  kd : Tok
  kr : Tok
  km : Tok
theorem RowOk.lt {m i j : Nat} {row : List Value} (h : RowOk m i j row) (hj : j < m) : j < row.length := by rw [h.len]; exact hj
theorem set_at {m i j : Nat} {row : List Value} {v : Value} (h : RowOk m i j row) (hj : j < m) : ki_setL row.toArray.toList ((j : Int)).toNat v = some (row.set j v) := set_some (h.lt hj)
section
local macro_rules | `(tactic| walk_at "subscriptTail Name Slice str ref") => `(tactic| ((with_reducible show wpAny _ _ (subscriptTail _ (Expr.Slice (some _) none none _) (Value.str (waStr _ _) _) _) _ _ _); (with_reducible rename Fr _ _ _ _ => F'); (with_reducible rename News _ _ _ _ => N'); refine' sl_from (s := ⟨_, _, _, _, _⟩) F' N' ?he ?hz ?_; (case he => exact wa_from_all _ (by omega) _ (by omega) _ (by omega)); (case hz => exact wa_room (by omega) (by omega)); intro _ _ _ _ _))
local macro_rules | `(tactic| walk_at "subscriptTail Name Slice str ref") => `(tactic| ((with_reducible show wpAny _ _ (subscriptTail _ (Expr.Slice none (some _) none _) (Value.str (waStr _ _) _) _) _ _ _); (with_reducible rename Fr _ _ _ _ => F'); (with_reducible rename News _ _ _ _ => N'); refine' sl_upto (s := ⟨_, _, _, _, _⟩) F' N' ?he ?hz ?_; (case he => exact wa_upto_all _ (by omega) _ (by omega) _ (by omega) (by omega)); (case hz => exact wa_room (by omega) (by omega)); intro _ _ _ _ _))
local macro_rules | `(tactic| walk_at "subscriptTail Name Slice str ref") => `(tactic| ((with_reducible show wpAny _ _ (subscriptTail _ (Expr.Slice none (some _) none _) (Value.str (waStr _ _) _) _) _ _ _); (with_reducible rename Fr _ _ _ _ => F'); (with_reducible rename News _ _ _ _ => N'); refine' sl_whole (s := ⟨_, _, _, _, _⟩) F' N' ?he ?hz ?_; (case he => exact wa_whole_all _ (by omega) _ (by omega)); (case hz => exact wa_room (by omega) (by omega)); intro _ _ _ _ _))
local macro_rules | `(tactic| walk_at "truthy str") => `(tactic| ((with_reducible show wpAny _ _ (PySem.truthy (Value.str (waStr _ _) _)) _ _ _); refine wa_truthy (by omega) (by omega) ?_; intro _))
local macro_rules | `(tactic| walk_at "compareOp Eq str str") => `(tactic| ((with_reducible show wpAny _ _ (compareOp _ (Value.str ⟨#[_]⟩ _) (Value.str ⟨#[_]⟩ _)) _ _ _); refine chr_eq ?_))
local macro_rules | `(tactic| walk_at "subscriptTail Name Name str int") => `(tactic| ((with_reducible show wpAny _ _ (subscriptTail _ _ (Value.str (waStr _ _) _) _) _ _ _); refine' wa_item (wa_at_all _ (by omega) _ (by omega) _ (by omega) (by omega)) (by omega) (by omega) ?_; intro _ _))
local macro_rules | `(tactic| walk_at "subscriptTail Name BinOp str int") => `(tactic| ((with_reducible show wpAny _ _ (subscriptTail _ _ (Value.str (waStr _ _) _) _) _ _ _); refine' wa_item (wa_back_all _ (by omega) _ (by omega) _ (by omega) (by omega)) (by omega) (by omega) ?_; intro _ _))
local macro_rules | `(tactic| walk_at "call builtin:len") => `(tactic| ((with_reducible show wpAny _ _ (PySem.call (Value.builtin _) [Value.str (waStr _ _) _]) _ _ _); refine wa_len_call (by omega) (by omega) ?_; intro _ _))
local macro_rules | `(tactic| walk_at "call builtin:len") => `(tactic| ((with_reducible show wpAny _ _ (PySem.call (Value.builtin _) [Value.str (oneS _ _) _]) _ _ _); refine one_len_call (by omega) ?_; intro _ _))
local macro_rules | `(tactic| walk_at "subscriptTail Name Name str int") => `(tactic| ((with_reducible show wpAny _ _ (subscriptTail _ _ (Value.str (oneS _ _) _) _) _ _ _); refine one_item (by omega) (by omega) (by omega) ?_; intro _ _))
local macro_rules | `(tactic| walk_at "subscriptTail Name Name ref int") => `(tactic| (k_here; k_dflt (refine' sub_at ?N ?m ?f ?x ?_ ?s; (case N => k_asm); (case m => k_mem); (case x => with_reducible assumption); (case f => omega); (case s => with_unfolding_all rfl); k_whole)))
local macro_rules | `(tactic| walk_at "call ref") => `(tactic| (k_here; k_dflt (refine' pure_use (sub_cost_spec (by with_reducible assumption)) ?uB ?uF ?uX ?uN ?uT ?uk ?uin ?ud ?uu ?_; (case uB => k_asm); (case uF => k_asm); (case uX => k_asm); (case uN => k_asm); (case uT => k_asm); (case uk => first | exact rfl | assumption); (case uin => exact (List.forall_mem_nil _)); (case ud => ktr_room); (case uu => ktr_units); k_whole); intro r9 h9 tk9 F9 N9 P9; obtain ⟨q9, e9⟩ := P9; subst e9; (try dsimp only); (try k_fold)))
local macro_rules | `(tactic| walk_at "setItem ref int int") => `(tactic| (k_here; k_dflt (refine' ki_set ?F ?N ?a ?b ?e ?U ?_; (case F => k_asm); (case N => k_asm); (case U => k_upd); (case a => exact Int.natCast_nonneg _); (case b => omega); (case e => exact set_at (by with_reducible assumption) (by with_reducible assumption))); ki_rest))
local macro_rules | `(tactic| k_ne) => `(tactic| (refine neN ?_; (try dsimp only); first | with_reducible assumption | exact Ne.symm (by with_reducible assumption)))
theorem lev_spec {w : World} {mean : ExcName → Option Value} {mg mb : Str → Option Value} {t b t' b' : Nat} {mc : Int} {k1 k2 k3 : Tok} (ht : t ≤ 3) (hb : b ≤ 5) (ht' : t' ≤ 3) (hb' : b' ≤ 5) (hmc : LevDue t b t' b' mc) :
  CodeSpec w mean mg mb 129 [.str (waStr t b) k1, .str (waStr t' b') k2, .int mc k3] [] [] 10 120
   (fun r l => (∃ q, r = .int mc q) ∧ l = []) := by
  have he := wa_eq_all t (by omega) b (by omega) t' (by omega) b' (by omega)
  unfold CodeSpec; k_fill; intro dp un gd cn cs a ccd cl outer A₀ base h₀ L m s R B F X N T hk hdp hu hret
  k_dflt (refine' spec_code ?k1 ?k2 ?k3 ?k4 ?k5 ?kA ?kF ?kK ?k6 ?k7 ?k8 ?k9 ?kB ?_ ?c2 ?c3 ?c4 ?c5; (case kA => exact rfl); (case kF => exact rfl); (case kK => assumption); (case k1 => k_asm); (case k2 => k_asm); (case k3 => k_asm); (case k4 => k_asm); (case k5 => k_asm); (case k6 => k_is); (case k7 => k_is); (case k8 => ktr_room); (case k9 => exact BindsTo.of_eq rfl); (case c5 => decide); (case kB => exact locs rfl); (case c2 => exact rfl); (case c3 => exact rfl); (case c4 => exact rfl); k_whole; intro g' L' h' FG' F' N' B' X' T' hkeep; (try dsimp only); (try k_lift B'); (try k_fold))
  repeat' ((fail_if_success (with_reducible show wpAny _ _ (exec (Stmt.While _ _ _ _) _) _ _ _)); first | (k_unfold; (try dsimp only)) | (k_end; wrow_close) | walk1 | (dsimp only; walk1) | (leave1; walk_say "STEP leave1"; try dsimp only) | fail "no step")
  · rename (waStr t b == waStr t' b') = true => h1
    rw [he] at h1
    simp only [Bool.and_eq_true, decide_eq_true_eq] at h1
    have e0 := hmc.down (by omega) (by omega)
    have e1 : mc = 0 := by omega
    subst e1
    refine' ret_end (sub' := []) (Q := fun r s' => R (.ok (.ret r)) s') hret N hkeep ?rF146 ?rN146 ?rG146 ?rM146 ?rin146 ?rsub146 ?rp146; (case rF146 => k_asm); (case rN146 => k_asm); (case rG146 => k_asm); (case rM146 => k_asm); (case rin146 => exact (List.forall_mem_nil _)); (case rsub146 => simp)
    exact ⟨⟨_, rfl⟩, rfl⟩
  have hne : ¬ (t = t' ∧ b = b') := by
    rename (waStr t b == waStr t' b') = false => h1
    rw [he] at h1
    intro q
    rw [decide_eq_true q.1, decide_eq_true q.2] at h1
    cases h1
  refine while_out (σ := Nat × Tok) (fun _ => []) (fun z => [(Str.ofString "a", .str (waStr t b) k1), (Str.ofString "b", .str (waStr t' b') k2), (Str.ofString "max_cost", .int mc k3), (Str.ofString "pre", .int z.1 z.2)])
    (fun z => z.1 ≤ t + b ∧ z.1 ≤ t' + b' ∧ (z.1 ≤ min t t' ∨ (t = t' ∧ z.1 ≤ t + min b b'))) (fun z => (t = t' ∧ z.1 = t + min b b') ∨ (t ≠ t' ∧ z.1 = min t t')) (fun z => t + b - z.1) ⟨0, _⟩ (by k_asm) (by k_asm) (by kst_all) (by dsimp only; omega) ?turn ?done
  case turn =>
    intro c u h tk hP F4 N4
    obtain ⟨pre, tp⟩ := c
    dsimp only [kstB] at hP F4 N4 ⊢
    repeat' ( (fail_if_success (with_reducible show UnrEnd _ _ _ _ _ _ _)); (fail_if_success (with_reducible show KswEnd _ _ _ _ _ _ _ _ _ _ _ _)); first | (k_unfold; (try dsimp only)) | (k_end; wrow_close) | walk1 | (dsimp only; walk1) | (leave1; walk_say "STEP leave1"; try dsimp only) | fail "no step")
    all_goals simp only [decide_eq_true_eq, chr_iff] at *
    rotate_left
    all_goals first | (refine wend (⟨pre, _⟩ : Nat × Tok) (by k_asm) (by k_asm) (List.forall_mem_nil _) (by kst_all) ?_; dsimp only; omega) | skip
    refine ksw_end (⟨pre + 1, _⟩ : Nat × Tok) (by k_asm) (by k_asm) (List.forall_mem_nil _) trivial (by kst_all) (by ksw_same) ?_ ?_
    · dsimp only; omega
    · dsimp only; omega
  case done =>
    intro z u h tk hO F4 N4
    obtain ⟨pre, tp⟩ := z
    dsimp only [kstB] at hO F4 N4
    have hp9 : pre < 9 := by omega
    dsimp only
    repeat' ((fail_if_success (with_reducible show wpAny _ _ (exec (Stmt.While _ _ _ _) _) _ _ _)); first | (k_unfold; (try dsimp only)) | (k_end; wrow_close) | walk1 | (dsimp only; walk1) | (leave1; walk_say "STEP leave1"; try dsimp only) | fail "no step")
    refine' packP (σ := Nat × Nat × Nat × Nat × Tok × Tok × Tok) (fun z => [(Str.ofString "a", .str (waStr z.1 z.2.1) z.2.2.2.2.1), (Str.ofString "b", .str (waStr z.2.2.1 z.2.2.2.1) z.2.2.2.2.2.1), (Str.ofString "max_cost", .int mc k3), (Str.ofString "post", .int 0 z.2.2.2.2.2.2)]) (fun _ => [])
      (fun z => (t = t' ∧ z.1 = 0 ∧ z.2.2.1 = 0 ∧ z.2.1 = b - min b b' ∧ z.2.2.2.1 = b' - min b b') ∨ (t ≠ t' ∧ z.1 = t - t' ∧ z.2.2.1 = t' - t ∧ z.2.1 = b ∧ z.2.2.2.1 = b')) ?pF ?pN ⟨_, _, _, _, _, _, _⟩ ?pm ?pn ?pp ?_
    case pF => k_asm
    case pN => k_asm
    case pn => exact (List.forall_mem_nil _)
    case pm => kst_all
    case pp => (dsimp only; omega)
    rintro ⟨X, Y, X', Y', j1, j2, j3⟩ m2 hm2 hXY F5 N5
    dsimp only at hm2 hXY N5
    clear hp9
    have hX : X < 4 := by omega
    have hX' : X' < 4 := by omega
    have hY : Y < 6 := by omega
    have hY' : Y' < 6 := by omega
    refine while_out (σ := Nat × Int × Tok) (fun _ => []) (fun z => [(Str.ofString "a", .str (waStr X Y) j1), (Str.ofString "b", .str (waStr X' Y') j2), (Str.ofString "max_cost", .int mc k3), (Str.ofString "post", .int z.2.1 z.2.2)])
      (fun z => z.1 ≤ min Y Y' ∧ z.2.1 = -(z.1 : Int)) (fun z => z.1 = min Y Y' ∧ z.2.1 = -(z.1 : Int)) (fun z => 9 - z.1) ⟨0, 0, _⟩ F5 N5 hm2 ⟨Nat.zero_le _, (show (0 : Int) = -((0 : Nat) : Int) from by decide)⟩ ?turn2 ?done2
    case turn2 =>
      intro c u h tk hP F4 N4
      obtain ⟨p, pv, tp⟩ := c
      dsimp only [kstB] at hP F4 N4 ⊢
      obtain ⟨hP, hv⟩ := hP
      subst hv
      repeat' ( (fail_if_success (with_reducible show UnrEnd _ _ _ _ _ _ _)); (fail_if_success (with_reducible show KswEnd _ _ _ _ _ _ _ _ _ _ _ _)); first | (k_unfold; (try dsimp only)) | (k_end; wrow_close) | walk1 | (dsimp only; walk1) | (leave1; walk_say "STEP leave1"; try dsimp only) | fail "no step")
      all_goals simp only [decide_eq_true_eq, chr_iff'] at *
      all_goals first
        | (refine wend (⟨p, _, _⟩ : Nat × Int × Tok) (by k_asm) (by k_asm) (List.forall_mem_nil _) (by kst_all) ?_; dsimp only; omega)
        | (refine ksw_end (⟨p + 1, _, _⟩ : Nat × Int × Tok) (by k_asm) (by k_asm) (List.forall_mem_nil _) trivial (by kst_all) (by ksw_same) ?_ ?_ <;> (dsimp only; omega))
    case done2 =>
      intro z u h tk hO2 F4 N4
      obtain ⟨p, pv, tp⟩ := z
      dsimp only [kstB] at hO2 F4 N4
      obtain ⟨hO2, hv⟩ := hO2
      subst hv
      dsimp only
      clear hO
      repeat' ((fail_if_success (with_reducible show wpAny _ _ (exec (Stmt.Assign [Expr.Name (Str.ofString "a") _] _ _) _) _ _ _)); first | (k_unfold; (try dsimp only)) | (k_end; wrow_close) | walk1 | (dsimp only; walk1) | (leave1; walk_say "STEP leave1"; try dsimp only) | fail "no step")
      refine stmt_out (σ := Nat × Nat × Tok) (fun _ => []) (fun z => [(Str.ofString "a", .str (waStr z.1 z.2.1) z.2.2), (Str.ofString "b", .str (waStr X' Y') j2), (Str.ofString "max_cost", .int mc k3), (Str.ofString "post", .int (-(p : Int)) tp)]) (fun z => z.1 = X ∧ z.2.1 = Y - p) (by k_asm) ?turn3 ?done3
      case turn3 =>
        repeat' ( (fail_if_success (with_reducible show UnrEnd _ _ _ _ _ _ _)); (fail_if_success (with_reducible show KswEnd _ _ _ _ _ _ _ _ _ _ _ _)); first | (k_unfold; (try dsimp only)) | (k_end; wrow_close) | walk1 | (dsimp only; walk1) | (leave1; walk_say "STEP leave1"; try dsimp only) | fail "no step")
        all_goals (refine wend (⟨_, _, _⟩ : Nat × Nat × Tok) (by k_asm) (by k_asm) (List.forall_mem_nil _) (by kst_all) ?_; dsimp only; omega)
      case done3 =>
        rintro ⟨X2, Y2, j4⟩ u h tk ⟨hX2, hY2⟩ F5 N5
        dsimp only [kstB] at hX2 hY2 F5 N5
        dsimp only
        subst hX2 hY2
        repeat' ((fail_if_success (with_reducible show wpAny _ _ (exec (Stmt.Assign [Expr.Name (Str.ofString "b") _] _ _) _) _ _ _)); first | (k_unfold; (try dsimp only)) | (k_end; wrow_close) | walk1 | (dsimp only; walk1) | (leave1; walk_say "STEP leave1"; try dsimp only) | fail "no step")
        refine stmt_out (σ := Nat × Nat × Tok) (fun _ => []) (fun z => [(Str.ofString "a", .str (waStr X2 (Y - p)) j4), (Str.ofString "b", .str (waStr z.1 z.2.1) z.2.2), (Str.ofString "max_cost", .int mc k3)]) (fun z => z.1 = X' ∧ z.2.1 = Y' - p) (by k_asm) ?turn4 ?done4
        case turn4 =>
          repeat' ( (fail_if_success (with_reducible show UnrEnd _ _ _ _ _ _ _)); (fail_if_success (with_reducible show KswEnd _ _ _ _ _ _ _ _ _ _ _ _)); first | (k_unfold; (try dsimp only)) | (k_end; wrow_close) | walk1 | (dsimp only; walk1) | (leave1; walk_say "STEP leave1"; try dsimp only) | fail "no step")
          all_goals (refine wend (⟨_, _, _⟩ : Nat × Nat × Tok) (by k_asm) (by k_asm) (List.forall_mem_nil _) (by kst_all) ?_; dsimp only; omega)
        case done4 =>
          rintro ⟨X3, Y3, j5⟩ u h tk ⟨hX3, hY3⟩ F6 N6
          dsimp only [kstB] at hX3 hY3 F6 N6
          dsimp only
          subst hX3 hY3
          repeat' ((fail_if_success (with_reducible show wpAny _ _ (exec (Stmt.If (Expr.Compare _ _ _ _) _ _ _) _) _ _ _)); first | (k_unfold; (try dsimp only)) | (k_end; wrow_close) | walk1 | (dsimp only; walk1) | (leave1; walk_say "STEP leave1"; try dsimp only) | fail "no step")
          rotate_left
          · (have e1 : mc = 2 * ((X2 : Int) + ((Y - p : Nat) : Int) + ((X3 : Int) + ((Y' - p : Nat) : Int))) := by have d1 := hmc.down; have d2 := hmc.up; omega); (refine' ret_end (sub' := []) (Q := fun r s' => R (.ok (.ret r)) s') hret N hkeep ?rF155 ?rN155 ?rG155 ?rM155 ?rin155 ?rsub155 ?rp155; (case rF155 => k_asm); (case rN155 => k_asm); (case rG155 => k_asm); (case rM155 => k_asm); (case rin155 => exact (List.forall_mem_nil _)); (case rsub155 => simp)); exact ⟨⟨_, by rw [e1]⟩, rfl⟩
          · (have e1 : mc = 2 * ((X2 : Int) + ((Y - p : Nat) : Int) + ((X3 : Int) + ((Y' - p : Nat) : Int))) := by have d1 := hmc.down; have d2 := hmc.up; omega); (refine' ret_end (sub' := []) (Q := fun r s' => R (.ok (.ret r)) s') hret N hkeep ?rF156 ?rN156 ?rG156 ?rM156 ?rin156 ?rsub156 ?rp156; (case rF156 => k_asm); (case rN156 => k_asm); (case rG156 => k_asm); (case rM156 => k_asm); (case rin156 => exact (List.forall_mem_nil _)); (case rsub156 => simp)); exact ⟨⟨_, by rw [e1]⟩, rfl⟩
          have hcase : (1 ≤ X2 ∧ Y - p = 0 ∧ X3 = 0 ∧ 1 ≤ Y' - p) ∨ (X2 = 0 ∧ 1 ≤ Y - p ∧ 1 ≤ X3 ∧ Y' - p = 0) := by omega
          refine stmt_out (σ := Nat × Nat × Nat × Nat × Tok × Tok) (fun _ => []) (fun z => [(Str.ofString "a", .str (oneS z.1 z.2.1) z.2.2.2.2.1), (Str.ofString "b", .str (oneS z.2.2.1 z.2.2.2.1) z.2.2.2.2.2), (Str.ofString "max_cost", .int mc k3)]) (fun z => ((z.1 = 65 ∧ z.2.2.1 = 97) ∨ (z.1 = 97 ∧ z.2.2.1 = 65)) ∧ 1 ≤ z.2.1 ∧ z.2.1 ≤ z.2.2.2.1 ∧ z.2.1 ≤ 3 ∧ z.2.2.2.1 ≤ 5 ∧ mc = 2 * ((z.2.2.2.1 : Int) - z.2.1) + z.2.1) (by k_asm) ?turn5 ?done5
          case turn5 =>
            have d1 := hmc.over; have d2 := hmc.over'; have d3 := hmc.under; have d4 := hmc.under'
            rcases hcase with ⟨c1, c2, c3, c4⟩ | ⟨c1, c2, c3, c4⟩
            · rename Fr _ _ _ _ => F7
              simp only [c2, c3, wa_caps, wa_smalls] at F7
              repeat' ( (fail_if_success (with_reducible show UnrEnd _ _ _ _ _ _ _)); (fail_if_success (with_reducible show KswEnd _ _ _ _ _ _ _ _ _ _ _ _)); first | (k_unfold; (try dsimp only)) | (k_end; wrow_close) | walk1 | (dsimp only; walk1) | (leave1; walk_say "STEP leave1"; try dsimp only) | fail "no step")
              all_goals (refine wend (⟨_, _, _, _, _, _⟩ : Nat × Nat × Nat × Nat × Tok × Tok) (by k_asm) (by k_asm) (List.forall_mem_nil _) (by kst_all) ?_; dsimp only; omega)
            · rename Fr _ _ _ _ => F7
              simp only [c1, c4, wa_caps, wa_smalls] at F7
              repeat' ( (fail_if_success (with_reducible show UnrEnd _ _ _ _ _ _ _)); (fail_if_success (with_reducible show KswEnd _ _ _ _ _ _ _ _ _ _ _ _)); first | (k_unfold; (try dsimp only)) | (k_end; wrow_close) | walk1 | (dsimp only; walk1) | (leave1; walk_say "STEP leave1"; try dsimp only) | fail "no step")
              all_goals (refine wend (⟨_, _, _, _, _, _⟩ : Nat × Nat × Nat × Nat × Tok × Tok) (by k_asm) (by k_asm) (List.forall_mem_nil _) (by kst_all) ?_; dsimp only; omega)
          case done5 =>
            clear hcase hXY hne he hO2 hX hX' hY hY' hmc
            rintro ⟨ca, m0, cb, n0, j6, j7⟩ u h tk ⟨hcc, hm1, hmn, hm3, hn5, hmv⟩ F8 N8
            dsimp only [kstB] at hcc hm1 hmn hm3 hn5 hmv F8 N8
            dsimp only
            rename (waStr t b == waStr t' b') = false => z1
            clear z1
            rename 0 < X2 + (Y - p) => z1
            rename 0 < X3 + (Y' - p) => z2
            clear z1 z2
            repeat' ((fail_if_success (with_reducible show wpAny _ _ (PySem.call (Value.type "list") _) _ _ _)); first | (k_unfold; (try dsimp only)) | (k_end; wrow_close) | walk1 | (dsimp only; walk1) | (leave1; walk_say "STEP leave1"; try dsimp only) | fail "no step")
            rename IsRange _ _ _ _ _ _ _ _ => hR
            k_dflt (refine' list_step (n := m0) ?la ?lF ?lN ?lr ?ls ?ln ?ll ?_; (case la => rfl); (case lF => k_asm); (case lN => k_asm); (case lr => exact hR); (case ls => exact (range2_size hm1 hm3).2) ; (case ln => exact (range2_size hm1 hm3).1); (case ll => omega))
            intro D row e h9 tk9 F9 N9 l9 hlen hrow
            clear hR
            repeat' ((fail_if_success (with_reducible show wpAny _ _ (pyIter _) _ _ _)); first | (k_unfold; (try dsimp only)) | (k_end; wrow_close) | walk1 | (dsimp only; walk1) | (leave1; walk_say "STEP leave1"; try dsimp only) | fail "no step")
            rename IsRange _ _ _ _ _ _ _ _ => hR
            have hr0 : RowOk m0 0 0 row := ⟨hlen, fun k hk => by
              obtain ⟨t, q⟩ := hrow k row[k] (List.getElem?_eq_getElem (by omega))
              refine ⟨t, ?_⟩
              rw [List.getElem?_eq_getElem (by omega), q, if_neg (Nat.not_lt_zero k)]
              congr 2
              unfold dd
              omega⟩
            clear hrow hlen
            refine' packP (σ := Tok) (fun z => [(Str.ofString "a", .str (oneS ca m0) j6), (Str.ofString "b", .str (oneS cb n0) j7), (Str.ofString "max_cost", .int mc k3), (Str.ofString "row", .ref D), (Str.ofString "result", .int 0 z)]) (fun _ => [(D, listOf row.toArray e)]) (fun _ => True) ?pF ?pN _ ?pm ?pn ?pp ?_
            case pF => k_asm
            case pN => k_asm
            case pn => exact (List.forall_mem_cons.mpr ⟨by k_mem, (List.forall_mem_nil _)⟩)
            case pm => kst_all
            case pp => trivial
            rintro j8 m9 hm9 _ F10 N10

            refine iter_rangeUnr (n := n0) (by rfl) hR (range_small (by decide) (by decide) (by omega) (by omega)) (range_size (.inl ⟨by omega, by omega⟩)) F10 N10 (fun I hI => ?_)
            refine range_inv (σ := DpS) (fun i z => [(D, listOf z.row.toArray z.en)]) (fun i z => [(Str.ofString "a", .str (oneS ca m0) j6), (Str.ofString "b", .str (oneS cb n0) j7), (Str.ofString "max_cost", .int mc k3), (Str.ofString "row", .ref D), (Str.ofString "result", .int z.r z.kr)])
              (fun i z => RowOk m0 i 0 z.row ∧ (i = 0 ∨ z.r = dd i m0)) ?step ?done9 n0 0 _ _ (by omega) (fun p hp => Nat.ne_of_lt (hI p hp)) ⟨⟨row, e, 0, j8⟩, rfl, hm9, hr0, .inl rfl⟩
            case done9 =>
              intro z v h tk hP F11 N11
              obtain ⟨row2, en, r, kr⟩ := z
              dsimp only [kstB] at hP F11 N11
              have hr : r = mc := by
                rcases hP.2 with q | q
                · omega
                · rw [q, hmv]; unfold dd; omega
              subst hr
              dsimp only
              k_steps
              refine' ret_end (sub' := []) (Q := fun r s' => R (.ok (.ret r)) s') hret N hkeep ?rF162 ?rN162 ?rG162 ?rM162 ?rin162 ?rsub162 ?rp162; (case rF162 => k_asm); (case rN162 => k_asm); (case rG162 => k_asm); (case rM162 => k_asm); (case rin162 => exact (List.forall_mem_nil _)); (case rsub162 => simp)
              exact ⟨⟨_, rfl⟩, rfl⟩
            case step =>
              intro i z v t h tk hi hP ho F11 N11
              obtain ⟨row2, en, r, kr⟩ := z
              dsimp only [kstB] at hP ho F11 N11 ⊢
              obtain ⟨hrow, hres⟩ := hP
              have oD : D ≠ I := ho (D, _) (.head _)
              clear ho
              simp only [Int.zero_add] at F11
              repeat' ((fail_if_success (with_reducible show wpAny _ _ (pyIter _) _ _ _)); (fail_if_success (with_reducible show UnrEnd _ _ _ _ _ _ _)); (fail_if_success (with_reducible show KswEnd _ _ _ _ _ _ _ _ _ _ _ _)); first | (k_unfold; (try dsimp only)) | (k_end; wrow_close) | walk1 | (dsimp only; walk1) | (leave1; walk_say "STEP leave1"; try dsimp only) | fail "no step")
              rename IsRange _ _ _ _ _ _ _ _ => hR3
              refine' packP (σ := Tok × Tok × Tok × Tok) (fun z => [(Str.ofString "a", .str (oneS ca m0) j6), (Str.ofString "b", .str (oneS cb n0) j7), (Str.ofString "max_cost", .int mc k3), (Str.ofString "row", .ref D), (Str.ofString "bindex", .int (i : Int) t), (Str.ofString "bchar", .str ⟨#[cb]⟩ z.1), (Str.ofString "distance", .int (dd i 0) z.2.1), (Str.ofString "result", .int (2 * (i : Int)) z.2.2.1), (Str.ofString "minimum", .int 9223372036854775807 z.2.2.2)]) (fun _ => [(I, itR (0 + ((i + 1 : Nat) : Int)) ((n0 : Int) - ((i + 1 : Nat) : Int))), (D, listOf row2.toArray en)]) (fun _ => True) ?pF ?pN ⟨_, _, _, _⟩ ?pm ?pn ?pp ?_
              case pF => k_asm
              case pN => k_asm
              case pn => exact (List.forall_mem_cons.mpr ⟨by k_mem, (List.forall_mem_cons.mpr ⟨by k_mem, (List.forall_mem_nil _)⟩)⟩)
              case pm =>
                rw [show dd i 0 = (i : Int) * 2 from by unfold dd; omega, show 2 * (i : Int) = (i : Int) * 2 from Int.mul_comm _ _]
                kst_all
              case pp => trivial
              rintro ⟨g1, g2, g3, g4⟩ m9 hm9 _ F10 N10
              dsimp only at hm9
              refine iter_rangeUnr (n := m0) (by rfl) hR3 (range_small (by decide) (by decide) (by omega) (by omega)) (range_size (.inl ⟨by omega, by omega⟩)) F10 N10 (fun I2 hI2 => ?_)
              refine range_inv (σ := InS) (fun j z => [(I, itR (0 + ((i + 1 : Nat) : Int)) ((n0 : Int) - ((i + 1 : Nat) : Int))), (D, listOf z.row.toArray z.en)])
                (fun j z => [(Str.ofString "a", .str (oneS ca m0) j6), (Str.ofString "b", .str (oneS cb n0) j7), (Str.ofString "max_cost", .int mc k3), (Str.ofString "row", .ref D), (Str.ofString "bindex", .int (i : Int) t), (Str.ofString "bchar", .str ⟨#[cb]⟩ g1), (Str.ofString "distance", .int z.d z.kd), (Str.ofString "result", .int z.r z.kr), (Str.ofString "minimum", .int z.mn z.km)])
                (fun j z => RowOk m0 i j z.row ∧ z.d = dd i j ∧ ((j = 0 ∧ z.r = 2 * (i : Int)) ∨ (0 < j ∧ z.r = dd (i + 1) j)) ∧ (∀ k, k < j → z.mn ≤ dd (i + 1) (k + 1)))
                ?step2 ?done10 m0 0 _ _ (by omega) (fun p hp => Nat.ne_of_lt (hI2 p hp)) ⟨⟨row2, en, dd i 0, 2 * (i : Int), 9223372036854775807, g2, g3, g4⟩, rfl, hm9, hrow, rfl, .inl ⟨rfl, rfl⟩, fun k hk => absurd hk (Nat.not_lt_zero k)⟩
              case done10 =>
                intro z v h tk hP F11 N11
                obtain ⟨row3, en3, d3, r3, mn3, kd3, kr3, km3⟩ := z
                dsimp only [kstB] at hP F11 N11
                obtain ⟨q1, q2, q3, q4⟩ := hP
                have hmn3 : mn3 ≤ mc := by
                  have := q4 (min (i + 1) m0 - 1) (by omega)
                  unfold dd at this
                  omega
                have q5 : r3 = dd (i + 1) m0 := by
                  rcases q3 with q | q
                  · omega
                  · exact q.2
                clear q2 q3 q4
                dsimp only
                repeat' ( (fail_if_success (with_reducible show UnrEnd _ _ _ _ _ _ _)); (fail_if_success (with_reducible show KswEnd _ _ _ _ _ _ _ _ _ _ _ _)); first | (k_unfold; (try dsimp only)) | (k_end; wrow_close) | walk1 | (dsimp only; walk1) | (leave1; walk_say "STEP leave1"; try dsimp only) | fail "no step")
                all_goals first
                  | (exfalso; omega)
                  | (refine unr_end2 (⟨row3, en3, r3, kr3⟩ : DpS) (by k_asm) N11 (by k_mem) (List.forall_mem_cons.mpr ⟨by k_mem, (List.forall_mem_nil _)⟩) (List.forall_mem_cons.mpr ⟨oD, List.forall_mem_nil _⟩) (by kst_all) ⟨q1.next, .inr q5⟩)
              case step2 =>
                intro j z v t3 h tk hj hP ho F11 N11
                obtain ⟨row3, en3, d3, r3, mn3, kd3, kr3, km3⟩ := z
                dsimp only [kstB] at hP ho F11 N11 ⊢
                obtain ⟨q1, q2, q3, q4⟩ := hP
                have oD2 : D ≠ I2 := ho (D, _) (by k_mem)
                have oI2 : I ≠ I2 := ho (I, _) (by k_mem)
                clear ho
                simp only [Int.zero_add] at F11
                obtain ⟨tko, ho⟩ := q1.old hj
                repeat' ( (fail_if_success (with_reducible show UnrEnd _ _ _ _ _ _ _)); (fail_if_success (with_reducible show KswEnd _ _ _ _ _ _ _ _ _ _ _ _)); first | (k_unfold; (try dsimp only)) | (k_end; wrow_close) | walk1 | (dsimp only; walk1) | (leave1; walk_say "STEP leave1"; try dsimp only) | fail "no step")
                all_goals
                  have hv : (if d3 + 1 < (if dd i (j + 1) < r3 then dd i (j + 1) else r3) + 2 then d3 + 1 else (if dd i (j + 1) < r3 then dd i (j + 1) else r3) + 2) = dd (i + 1) (j + 1) := by
                    subst q2
                    unfold dd at *
                    split <;> split <;> omega
                  rename News _ _ _ _ => Nn
                  rename Fr _ _ _ _ => Fn
                  simp only [hv] at Nn Fn
                  refine' unr_end2 (⟨row3.set j (.int (dd (i + 1) (j + 1)) _), en3, dd i (j + 1), dd (i + 1) (j + 1), _, _, _, _⟩ : InS) Fn Nn (by k_mem) (List.forall_mem_cons.mpr ⟨by k_mem, (List.forall_mem_cons.mpr ⟨by k_mem, (List.forall_mem_nil _)⟩)⟩) (List.forall_mem_cons.mpr ⟨oI2, List.forall_mem_cons.mpr ⟨oD2, List.forall_mem_nil _⟩⟩) (by kst_all) ⟨q1.set hj rfl, rfl, .inr ⟨Nat.succ_pos _, rfl⟩, ?q5⟩
                  case q5 =>
                    intro k hk
                    dsimp only
                    rcases (by omega : k < j ∨ k = j) with h | h
                    · have := q4 k h
                      omega
                    · subst h
                      omega
end
def ZEnd (h₀ : Heap) (L : Addr) (m : Str → Option Value) (s₁ : Shared) (led : Led) (V : Value → Prop) (y : Value) (s₂ : Shared) : Prop :=
  ∃ h' tk, s₂ = { s₁ with heap := h', toks := tk } ∧ Fr h₀ L h' m ∧ News h₀ L h' led ∧ V y
theorem zend {h₀ : Heap} {L : Addr} {m : Str → Option Value} {s₁ : Shared} {led all : Led} {V : Value → Prop} {y : Value} {h' : Heap} {tk : Nat} (F : Fr h₀ L h' m) (N : News h₀ L h' all) (hs : ∀ p ∈ led, p ∈ all) (v : V y) : ZEnd h₀ L m s₁ led V y { s₁ with heap := h', toks := tk } :=
  ⟨h', tk, rfl, F, fun p hp => N p (hs p hp), v⟩
section
open LCg
variable {prog : Program} {w : World} {A : Around} {E : Value → Shared → Prop} {s : Shared} {h₀ : Heap} {L : Addr} {m : Str → Option Value} {env : Env} {news : Led}
theorem pair_block {elt iter : Expr} {a b : Str} {pa pb tp : Pos} {kk : Nat} {scope : Scope} {cl : List (Str × Addr)} {pos : Pos} {s₂ : Shared} {I : Addr} {fp wr : List Addr} {n : Nat} {Pt : Nat → Array Value → Prop} {St : Nat → Heap → Prop} {Mid : Nat → Addr → Heap → Prop} {V : Nat → Value → Prop} {RR : Value → Addr → Result → Shared → Prop}
    (W : WalksU prog w A I fp wr n Pt St Mid) (hh : A.handled = none) (hPt : ∀ i vals, Pt i vals → ∃ x y, vals = #[x, y]) (hsz : n ≤ sizeLine)
    (hcell : ∀ y ∈ scope.names, y.2 ≠ .cell) (hkind : scope.kind = .function) (hxa : scope.names.lookup a = some .local) (hxb : scope.names.lookup b = some .local) (hab : ¬ a = b)
    (hst : St 0 s₂.heap) (hfp : ∀ b ∈ fp, b < s₂.heap.objs.size) (hwr : ∀ b ∈ wr, h₀.get? b = none) (hLf : L ∉ fp) (F : Fr h₀ L s₂.heap m) (N : News h₀ L s₂.heap news) (hnw : ∀ p ∈ news, p.1 ∉ wr)
    (turn : ∀ i x y, Pt i #[x, y] → ∀ C oC m₂ h tk rest (E' : Value → Shared → Prop), NsObj oC m₂ → m₂ a = some x → m₂ b = some y → Fr h₀ L h m → News h₀ L h ((C, oC) :: rest) →
      wpAny (model prog w) A (eval elt (compEnvC scope cl C env)) (ZEnd h₀ L m { s₂ with heap := h, toks := tk } ((C, oC) :: rest) (V i)) E' { s₂ with heap := h, toks := tk })
    (hRR : ∀ D C h tk m' ys, Fr h₀ L h m → News h₀ L h ((D, lst ys) :: news) → (∀ p ∈ news, p.1 ≠ D) → h.Ns C m' → h₀.get? C = none → C ≠ L → C ≠ D → (∀ p ∈ news, p.1 ≠ C) → ys.length = n → (∀ i v, ys[i]? = some v → V i v) →
      RR (.ref D) C (.ok .next) { s₂ with heap := h, toks := tk }) :
    wpAny (model prog w) A (newList []) (fun acc s₃ => wpAny (model prog w) A (newFunctionEnv scope env.globals cl [] env.qual none .none (some env)) (fun cenv s₄ =>
      codeAny (model prog w) A (.compStart (.ListComp elt [⟨.Tuple [.Name a pa, .Name b pb] kk tp, iter, [], 0⟩] scope pos) 0 (.ref I) acc { cenv with scope := relabel scope env }) (RR acc cenv.locals) s₄) E s₃) E s₂ := by
  refine wpAny_newObj_type (wpAny_newFunctionEnv hcell (by intro y hy; simp at hy) (fun h₁ hns₁ hsb₁ => ?_) hkind)
  dsimp only at hns₁ hsb₁ ⊢
  generalize hH2 : s₂.heap.push { cls := .type "list", dict := none, data := .seq ([] : List Value).toArray } = H2 at hns₁ hsb₁ ⊢
  have hC : H2.objs.size = s₂.heap.objs.size + 1 := by rw [← hH2, Heap.size_push]
  have below : ∀ b, b < s₂.heap.objs.size → b ≠ H2.objs.size ∧ b ≠ s₂.heap.objs.size := fun b hb => ⟨by rw [hC]; exact Nat.ne_of_lt (Nat.lt_succ_of_lt hb), Nat.ne_of_lt hb⟩
  have hDC : s₂.heap.objs.size ≠ H2.objs.size := by rw [hC]; exact Nat.ne_of_lt (Nat.lt_succ_self _)
  have hDf : s₂.heap.objs.size ∉ fp := fun hm => Nat.lt_irrefl _ (hfp _ hm)
  have hCf : H2.objs.size ∉ fp := fun hm => by have := hfp _ hm; rw [hC] at this; exact Nat.lt_irrefl _ (Nat.lt_of_succ_lt this)
  have old : ∀ b o, s₂.heap.get? b = some o → h₁.get? b = some o := fun b o e => hsb₁.extBut b o (below b (Heap.lt_size e)).1 (Heap.get?_push_of_some _ (hH2 ▸ Heap.get?_push_of_some _ e))
  have hacc : h₁.get? s₂.heap.objs.size = some (lst []) := hsb₁.extBut _ _ hDC (Heap.get?_push_of_some _ (hH2 ▸ Heap.get?_push_size _ rfl))
  have fresh₀ : ∀ a, s₂.heap.objs.size ≤ a → h₀.get? a = none := fun a ha => by
    cases e : h₀.get? a with
    | none => rfl
    | some o' => exact absurd (Heap.lt_size (F.keep a o' e)) (Nat.not_lt.mpr ha)
  have hD₀ : h₀.get? s₂.heap.objs.size = none := fresh₀ _ (Nat.le_refl _)
  have hC₀ : h₀.get? H2.objs.size = none := fresh₀ _ (by rw [hC]; exact Nat.le_succ _)
  have hLlt : L < s₂.heap.objs.size := F.ns.lt
  have hDL : s₂.heap.objs.size ≠ L := Ne.symm (below L hLlt).2
  have hCL : H2.objs.size ≠ L := Ne.symm (below L hLlt).1
  have offN : ∀ p ∈ news, p.1 ≠ H2.objs.size ∧ p.1 ≠ s₂.heap.objs.size := fun p hp => below _ (Heap.lt_size (N p hp).1)
  have hCw : H2.objs.size ∉ wr := fun h => hCf (W.sub _ h)
  have hDw : s₂.heap.objs.size ∉ wr := fun h => hDf (W.sub _ h)
  have hLw : L ∉ wr := fun h => hLf (W.sub _ h)
  have oldw : ∀ b o, h₀.get? b = some o → b ∉ wr := fun b o e hb => by rw [hwr b hb] at e; cases e
  have loop : ∀ s₃ : Shared, s₃ = { s₂ with heap := h₁, toks := s₂.toks + ([] : List (Str × Value)).length } →
      codeAny (model prog w) A (.compLoop (.ListComp elt [⟨.Tuple [.Name a pa, .Name b pb] kk tp, iter, [], 0⟩] scope pos) 0 (.ref I) (.ref s₂.heap.objs.size) (compEnvC scope cl H2.objs.size env))
        (RR (.ref s₂.heap.objs.size) H2.objs.size) s₃ := by
    rintro s₃ rfl
    refine kcp_loop
      (fun k s' => ∃ h' tk i ys m', s' = { s₂ with heap := h', toks := tk } ∧ i ≤ n ∧ k = n + 1 - i ∧ ys.length = i ∧ St i h' ∧ Fr h₀ L h' m ∧ h'.Ns H2.objs.size m' ∧
        News h₀ L h' ((s₂.heap.objs.size, lst ys) :: news) ∧ (∀ j v, ys[j]? = some v → V j v)) ?_ (n + 1)
      ⟨h₁, _, 0, [], _, rfl, Nat.zero_le _, rfl, rfl, W.frame _ _ _ hst fun b _ o e => old b o e, F.keeps old, hns₁, fun p hp => ?_, fun j v e => by simp at e⟩
    · rintro k s' ⟨h', tk, i, ys, m', rfl, hi, rfl, hyl, hst', F', hn', N', hV⟩
      by_cases hlt : i < n
      · refine W.item i _ _ _ hlt hst' fun T vals h₂ tk₂ hP hT hMd hk₂ => ?_
        obtain ⟨x, y, rfl⟩ := hPt i vals hP
        refine W.go _ _ _ i T _ _ _ hMd fun h₃ hst₃ hk₃ => ?_
        have hT₃ : h₃.IsTuple T #[x, y] := hT.at fun o e => hk₃ T o (W.apart i T h₂ hMd) e
        have up₃ : ∀ c o, c ∉ wr → h'.get? c = some o → h₃.get? c = some o := fun c o hc e => hk₃ c o hc (hk₂ c o hc e)
        refine kcp_assign (env := compEnvC scope cl H2.objs.size env) hh hT₃ (lookup_relabel_local hxa) (lookup_relabel_local hxb) (by simp [compEnvC, relabel, hkind]) (hn'.at' fun o e => up₃ _ o hCw e) fun h₄ tk₄ hn₄ hs₄ => ?_
        have up : ∀ c o, c ∉ wr → c ≠ H2.objs.size → h'.get? c = some o → h₄.get? c = some o := fun c o h1 h2 e => hs₄ c o h2 (up₃ c o h1 e)
        have hst₄ : St (i + 1) h₄ := W.frame _ _ _ hst₃ fun b hb o e => hs₄ b o (fun q => hCf (by have q' : b = H2.objs.size := q; rw [← q']; exact hb)) e
        obtain ⟨oC, heC, hoC⟩ := ns_obj hn₄
        have F₄ : Fr h₀ L h₄ m := ⟨F'.ns.at' fun o e => up _ o hLw (Ne.symm hCL) e, fun c o e => up c o (oldw c o e) (fun q => by rw [q, hC₀] at e; cases e) (F'.keep c o e), F'.above⟩
        have Nown : News h₀ L h₄ (ownOf h₀ fp h₄) := news_ownOf hLf
        have N₄ : News h₀ L h₄ ((H2.objs.size, oC) :: (s₂.heap.objs.size, lst ys) :: (news ++ ownOf h₀ fp h₄)) := fun q hq => by
          rcases List.mem_cons.mp hq with rfl | hq
          · exact ⟨heC, hCL, hC₀⟩
          · rcases List.mem_cons.mp hq with rfl | hq
            · have z := N' _ List.mem_cons_self
              exact ⟨up _ _ hDw hDC z.1, z.2⟩
            · rcases List.mem_append.mp hq with hq | hq
              · have z := N' q (List.mem_cons_of_mem _ hq)
                exact ⟨up _ _ (hnw q hq) (offN q hq).1 z.1, z.2⟩
              · exact Nown q hq
        refine wpAny_mono (turn i x y hP H2.objs.size oC _ h₄ tk₄ _ _ hoC (by simp [hab]) (by simp) F₄ N₄) (fun v s₅ h₅ => ?_) fun _ _ e => e
        obtain ⟨h₅, tk₅, rfl, F₅, N₅, hv⟩ := h₅
        have zC := (N₅ _ List.mem_cons_self).1
        have zD := (N₅ _ (List.mem_cons_of_mem _ List.mem_cons_self)).1
        have N₅' : News h₀ L h₅ (news ++ ownOf h₀ fp h₄) := fun q hq => N₅ q (List.mem_cons_of_mem _ (List.mem_cons_of_mem _ hq))
        have hst₅ : St (i + 1) h₅ := W.frame _ _ _ hst₄ fun b hb o e => by
          cases hn : h₀.get? b with
          | some o₀ =>
            have : o₀ = o := by have := F₄.keep b o₀ hn; rw [e] at this; exact (Option.some.inj this).symm
            exact this ▸ F₅.keep b o₀ hn
          | none => exact (N₅' _ (List.mem_append_right _ (mem_ownOf hb hn e))).1
        refine append_at (hsz := by show ys.toArray.size ≤ sizeLine; rw [List.size_toArray, hyl]; exact Nat.le_trans hi hsz) zD fun h₆ hs₆ hD₆ => ?_
        refine ⟨n + 1 - (i + 1), by omega, h₆, tk₅, i + 1, ys ++ [v], _, rfl, hlt, rfl, by rw [List.length_append, List.length_singleton, hyl], W.frame _ _ _ hst₅ fun b hb o e => hs₆.extBut b o (fun q => hDf (by have q' : b = s₂.heap.objs.size := q; rw [← q']; exact hb)) e, F₅.change hs₆ hDL hD₀,
          (hoC.ns zC).sameBut hs₆ (Ne.symm hDC), fun q hq => ?_, fun j v' e => ?_⟩
        · rcases List.mem_cons.mp hq with rfl | hq
          · exact ⟨hD₆.trans (congrArg some (lst_snoc ys v)), hDL, hD₀⟩
          · have z := N₅' q (List.mem_append_left _ hq)
            exact ⟨hs₆.extBut _ _ (offN q hq).2 z.1, z.2⟩
        · rcases Nat.lt_or_ge j ys.length with hl | hl
          · rw [List.getElem?_append_left hl] at e
            exact hV j v' e
          · rw [List.getElem?_append_right hl] at e
            rcases Nat.eq_zero_or_pos (j - ys.length) with h | h
            · rw [h] at e
              cases e
              have : j = i := by omega
              exact this ▸ hv
            · rw [List.getElem?_eq_none (by show 1 ≤ j - ys.length; omega)] at e
              cases e
      · obtain rfl : i = n := Nat.le_antisymm hi (Nat.not_lt.mp hlt)
        refine W.done _ _ _ hst' fun h₂ tk₂ hk₂ => ?_
        refine hRR _ _ h₂ tk₂ _ ys ⟨F'.ns.at' fun o e => hk₂ _ o hLw e, fun c o e => hk₂ c o (oldw c o e) (F'.keep c o e), F'.above⟩ (fun p hp => ⟨hk₂ _ _ ?_ (N' p hp).1, (N' p hp).2⟩) (fun p hp => (offN p hp).2) (hn'.at' fun o e => hk₂ _ o hCw e) hC₀ hCL (Ne.symm hDC) (fun p hp => (offN p hp).1) hyl hV
        rcases List.mem_cons.mp hp with rfl | hp
        · exact hDw
        · exact hnw p hp
    · rcases List.mem_cons.mp hp with rfl | hp
      · exact ⟨hacc, hDL, hD₀⟩
      · exact ⟨old _ _ (N p hp).1, (N p hp).2⟩
  exact codeAny_compStart_list (loop _ rfl) (W.self 0 _ _ _ (W.frame _ _ _ hst fun b _ o e => old b o e) (loop _ rfl))
end
section
open LCg
variable {prog : Program} {w : World} {A : Around} {E : Value → Shared → Prop} {s : Shared} {h₀ : Heap} {L : Addr} {m : Str → Option Value} {env : Env} {news : Led}
def ZSrc (prog : Program) (w : World) (A : Around) (h₀ : Heap) (L : Addr) (m : Str → Option Value) (env : Env) (elt : Expr) (a b : Str) (scope : Scope) (cl : List (Str × Addr)) (Q : Value → Shared → Prop) (xv : Value) (s₁ : Shared) : Prop :=
  ∃ (z TI TO i1 i2 l1 l2 : Addr) (xs ys : List Value) (V : Nat → Value → Prop) (news : Led), xv = .ref z ∧ A.handled = none ∧ ZipApart z TI TO i1 i2 l1 l2 ∧
    (IsZip s₁.heap z TI TO .none ∧ IsPair s₁.heap TI (.ref i1) (.ref i2) ∧ (∃ a b, IsPair s₁.heap TO a b) ∧ s₁.heap.IsListIter i1 l1 0 ∧ s₁.heap.IsListIter i2 l2 0 ∧ s₁.heap.IsList l1 xs.toArray ∧ s₁.heap.IsList l2 ys.toArray) ∧
    Fr h₀ L s₁.heap m ∧ News h₀ L s₁.heap news ∧ (∀ b ∈ [z, TI, TO, i1, i2, l1, l2], b < s₁.heap.objs.size ∧ b ≠ L) ∧ (∀ b ∈ [z, TO, i1, i2], h₀.get? b = none ∧ ∀ p ∈ news, p.1 ≠ b) ∧ xs.length = ys.length ∧ xs.length ≤ sizeLine ∧
    (∀ i x y, xs[i]? = some x → ys[i]? = some y → ∀ C oC m₂ h tk rest (E' : Value → Shared → Prop), NsObj oC m₂ → m₂ a = some x → m₂ b = some y → Fr h₀ L h m → News h₀ L h ((C, oC) :: rest) →
      wpAny (model prog w) A (eval elt (compEnvC scope cl C env)) (ZEnd h₀ L m { s₁ with heap := h, toks := tk } ((C, oC) :: rest) (V i)) E' { s₁ with heap := h, toks := tk }) ∧
    ∀ D vs h tk, Fr h₀ L h m → News h₀ L h ((D, lst vs) :: news) → (∀ p ∈ news, p.1 ≠ D) → vs.length = xs.length → (∀ i v, vs[i]? = some v → V i v) → Q (.ref D) { s₁ with heap := h, toks := tk }
theorem ListComp_zip {elt iter : PySem.Expr} {a b : Str} {pa pb tp : Pos} {kk : Nat} {scope : Scope} {cl : List (Str × Addr)} {pos : Pos} {Q : Value → Shared → Prop} (_F₀ : Fr h₀ L s.heap m)
    (hclos : closureFor scope env = pure cl) (hcell : ∀ y ∈ scope.names, y.2 ≠ .cell) (hkind : scope.kind = .function)
    (hnames : ∀ y ∈ scope.names, y.2 = .local → scope.names.lookup y.1 = some .local) (hxa : scope.names.lookup a = some .local) (hxb : scope.names.lookup b = some .local) (hab : ¬ a = b)
    (h : wpAny (model prog w) A (eval iter env) (ZSrc prog w A h₀ L m env elt a b scope cl Q) E s)
    (hs : ∀ x, foldedSetIterable iter env x = pure x := by intro _; rfl) :
    wpAny (model prog w) A (eval (.ListComp elt [⟨.Tuple [.Name a pa, .Name b pb] kk tp, iter, [], 0⟩] scope pos) env) Q E s := by
  rw [eval_ListComp]
  refine wpAny_comprehension_free (use := none) rfl hs hclos hkind hnames (wpAny_mono h (fun xv s₁ h₁ => ?_) fun _ _ e => e)
  obtain ⟨z, TI, TO, i1, i2, l1, l2, xs, ys, V, news, rfl, hh, D, hst, F, N, hlt, hnew, hlen, hsz, turn, fin⟩ := h₁
  refine wpAny_pyIter_zip hst.1 ?_
  refine pair_block (V := V) (WalksT.zip2 hh z TI TO i1 i2 l1 l2 D xs.toArray ys.toArray).toU hh (fun i vals ⟨x, y, _, _, e⟩ => ⟨x, y, e⟩) (by rw [List.size_toArray, List.size_toArray, ← hlen, Nat.min_self]; exact hsz) hcell hkind hxa hxb hab hst (fun b hb => (hlt b hb).1) (fun b hb => (hnew b hb).1)
    (fun hm => (hlt L hm).2 rfl) F N (fun p hp hm => (hnew _ hm).2 p hp rfl) (fun i x y hP => ?_) ?_
  · obtain ⟨x', y', hx, hy, e⟩ := hP
    obtain ⟨e1, e2⟩ : x = x' ∧ y = y' := by simpa using congrArg Array.toList e
    subst e1 e2
    exact turn i x y (by simpa using hx) (by simpa using hy)
  · intro D' C h tk m' vs F' N' offD hn hC₀ hCL hCD offC hvl hV
    refine ⟨m', hn, fun h'' hs'' => fin D' vs h'' tk (F'.change hs'' hCL hC₀) (fun p hp => ⟨hs''.extBut _ _ ?_ (N' p hp).1, (N' p hp).2⟩) offD (by rw [hvl, List.size_toArray, List.size_toArray, ← hlen, Nat.min_self]) hV⟩
    rcases List.mem_cons.mp hp with rfl | hp
    · exact Ne.symm hCD
    · exact offC p hp
theorem zip_call {elt : PySem.Expr} {a b : Str} {scope : Scope} {cl : List (Str × Addr)} {Q : Value → Shared → Prop} {l1 l2 : Addr} {xs ys : List Value} {n1 n2 : Nat} (V : Nat → Value → Prop) (hh : A.handled = none) (F : Fr h₀ L s.heap m) (N : News h₀ L s.heap news)
    (hm1 : (l1, listOf xs.toArray n1) ∈ news) (hm2 : (l2, listOf ys.toArray n2) ∈ news) (hlen : xs.length = ys.length) (hsz : xs.length ≤ 1000)
    (turn : ∀ i x y, xs[i]? = some x → ys[i]? = some y → ∀ C oC m₂ h tk rest (E' : Value → Shared → Prop), NsObj oC m₂ → m₂ a = some x → m₂ b = some y → Fr h₀ L h m → News h₀ L h ((C, oC) :: rest) →
      wpAny (model prog w) A (eval elt (compEnvC scope cl C env)) (ZEnd h₀ L m { s with heap := h, toks := tk } ((C, oC) :: rest) (V i)) E' { s with heap := h, toks := tk })
    (fin : ∀ D vs h tk, Fr h₀ L h m → News h₀ L h ((D, lst vs) :: news) → (∀ p ∈ news, p.1 ≠ D) → vs.length = xs.length → (∀ i v, vs[i]? = some v → V i v) → Q (.ref D) { s with heap := h, toks := tk }) :
    wpAny (model prog w) A (call (.type "zip") [.ref l1, .ref l2]) (ZSrc prog w A h₀ L m env elt a b scope cl Q) E s := by
  have z1 := N _ hm1
  have z2 := N _ hm2
  have hl1 : s.heap.IsList l1 xs.toArray := ⟨_, z1.1, rfl, _, rfl⟩
  have hl2 : s.heap.IsList l2 ys.toArray := ⟨_, z2.1, rfl, _, rfl⟩
  have t1 : l1 < s.heap.objs.size := Heap.lt_size z1.1
  have t2 : l2 < s.heap.objs.size := Heap.lt_size z2.1
  have tL : L < s.heap.objs.size := F.ns.lt
  refine call_zip_2 hl1 hl2 fun h' hz hTI hTO hi1 hi2 hsize hk => ?_
  have up : ∀ k, L ≠ s.heap.objs.size + k := fun k e => Nat.ne_of_lt (Nat.lt_of_lt_of_le tL (Nat.le_add_right _ k)) e
  have nw : ∀ k, h₀.get? (s.heap.objs.size + k) = none := fun k => Heap.get?_none_of_le (Nat.le_trans F.above (Nat.le_trans (Nat.le_of_lt tL) (Nat.le_add_right _ k)))
  have dn : ∀ p ∈ news, ∀ k, p.1 ≠ s.heap.objs.size + k := fun p hp k e => Nat.ne_of_lt (Nat.lt_of_lt_of_le (Heap.lt_size (N p hp).1) (Nat.le_add_right _ k)) e
  refine ⟨_, _, _, _, _, l1, l2, xs, ys, V, news, rfl, hh, zipApart_new t1 t2, ⟨hz, hTI, ⟨_, _, hTO⟩, hi1, hi2, hl1.at fun o e => hk _ o e, hl2.at fun o e => hk _ o e⟩, F.keeps hk, N.grown hk, fun b hb => ?_, fun b hb => ?_, hlen, by rw [sizeLine_eq]; omega, turn, fin⟩
  · show b < h'.objs.size ∧ b ≠ L
    rw [hsize]
    simp only [List.mem_cons, List.not_mem_nil, or_false] at hb
    rcases hb with rfl | rfl | rfl | rfl | rfl | rfl | rfl
    · exact ⟨Nat.add_lt_add_left (by decide) _, Ne.symm (up 4)⟩
    · exact ⟨Nat.add_lt_add_left (by decide) _, Ne.symm (up 2)⟩
    · exact ⟨Nat.add_lt_add_left (by decide) _, Ne.symm (up 3)⟩
    · exact ⟨Nat.lt_add_of_pos_right (by decide), Ne.symm (up 0)⟩
    · exact ⟨Nat.add_lt_add_left (by decide) _, Ne.symm (up 1)⟩
    · exact ⟨Nat.lt_of_lt_of_le t1 (Nat.le_add_right _ 5), z1.2.1⟩
    · exact ⟨Nat.lt_of_lt_of_le t2 (Nat.le_add_right _ 5), z2.2.1⟩
  · simp only [List.mem_cons, List.not_mem_nil, or_false] at hb
    rcases hb with rfl | rfl | rfl | rfl
    · exact ⟨nw 4, fun p hp => dn p hp 4⟩
    · exact ⟨nw 3, fun p hp => dn p hp 3⟩
    · exact ⟨nw 0, fun p hp => dn p hp 0⟩
    · exact ⟨nw 1, fun p hp => dn p hp 1⟩
end

/-- a lead as its word and its marks show it -/
structure MarkZ where
  t : Nat
  b : Nat
  a : Nat
  m1 : Int
  m2 : Int
  m3 : Int
  q1 : Tok
  q2 : Tok
  q3 : Tok
  wt : Tok
abbrev MarkZ.ent (m : MarkZ) : Addr × Obj := (m.a, listOf #[.int m.m1 m.q1, .int m.m2 m.q2, .int m.m3 m.q3] 0)
structure MarkZ.Ok (m : MarkZ) : Prop where
  t3 : m.t ≤ 3
  b5 : m.b ≤ 5
  e1 : m.m1 = 2 * ((m.b : Int) + 1 * m.t)
  e2 : m.m2 = (m.b : Int) + 2 * m.t
  e3 : m.m3 = 3 * ((m.b : Int) + 1 * m.t) - ((m.b : Int) + 2 * m.t)
structure Row where
  a : Nat
  its : List Value
  en : Nat
abbrev Row.ent (r : Row) : Addr × Obj := (r.a, listOf r.its.toArray r.en)
theorem sub_pickG {prog : Program} {w : World} {A : Around} {E : Value → Shared → Prop} {s : Shared} {Q : Value → Shared → Prop} {value slice : PySem.Expr} {h₀ : Heap} {L D : Addr} {news : Led} {α : Type} {M0 M1 M2 M3 M4 X : α} {n : Nat} {k : Nat} {u : Tok} (f : α → Value)
    (N : News h₀ L s.heap news) (hm : (D, listOf #[f M0, f M1, f M2, f M3, f M4] n) ∈ news) (h5 : k < 5) (hX : pick M0 M1 M2 M3 M4 (k : Int) = X) (h : Q (f X) s)
    (hs : subscripted slice false (.ref D) (.int (k : Int) u) = operate [.ref D, .int (k : Int) u] (getItem (.ref D) (.int (k : Int) u)) := by with_unfolding_all rfl) :
    wpAny (model prog w) A (subscriptTail value slice (.ref D) (.int (k : Int) u)) Q E s := by
  refine sub_news N hm (Int.natCast_nonneg _) (by omega) ?_ h hs
  subst hX
  rcases (by omega : k = 0 ∨ k = 1 ∨ k = 2 ∨ k = 3 ∨ k = 4) with rfl | rfl | rfl | rfl | rfl <;> rfl
def dueM (x y : MarkZ) : Int := max (max ((x.m1 - y.m1).natAbs : Int) ((x.m2 - y.m2).natAbs : Int)) ((x.m3 - y.m3).natAbs : Int)
theorem of_allLt {d : Addr} : ∀ {l : Led}, AllLt d l → ∀ p ∈ l, p.1 < d
  | [], _, _, h => nomatch h
  | _ :: _, ⟨h1, h2⟩, p, h => by
    rcases List.mem_cons.mp h with rfl | h
    · exact h1
    · exact of_allLt h2 p h
theorem off_lt {rr : Led} {c d : Nat} (h : ∀ p ∈ rr, p.1 < c) (hd : c ≤ d) : ∀ p ∈ rr, p.1 ≠ d := fun p hp => Nat.ne_of_lt (Nat.lt_of_lt_of_le (h p hp) hd)
theorem push_row (l : List Value) (v : Value) : l.toArray.push v = (l ++ [v]).toArray := by simp
abbrev refsOf (rows : List Row) : List Value := rows.map fun r => Value.ref r.a
def mAt (x : MarkZ) : Nat → Int
  | 0 => x.m1
  | 1 => x.m2
  | _ => x.m3
theorem mAt_of {x : MarkZ} {i : Nat} {v : Value} (h : [Value.int x.m1 x.q1, .int x.m2 x.q2, .int x.m3 x.q3][i]? = some v) (ok : x.Ok) : ∃ t, v = .int (mAt x i) t ∧ -100 ≤ mAt x i ∧ mAt x i ≤ 100 := by
  obtain ⟨h1, h2, h3, h4, h5⟩ := ok
  match i, h with
  | 0, h => exact ⟨_, (Option.some.inj h).symm, by show -100 ≤ x.m1; omega, by show x.m1 ≤ 100; omega⟩
  | 1, h => exact ⟨_, (Option.some.inj h).symm, by show -100 ≤ x.m2; omega, by show x.m2 ≤ 100; omega⟩
  | 2, h => exact ⟨_, (Option.some.inj h).symm, by show -100 ≤ x.m3; omega, by show x.m3 ≤ 100; omega⟩
  | n + 3, h => cases h
theorem abs_if (z : Int) : (if z < 0 then -z else z) = (z.natAbs : Int) := by
  split <;> omega
theorem three_ints {X Y : MarkZ} {vs : List Value} (hl : vs.length = 3) (hV : ∀ (i : Nat) (v : Value), vs[i]? = some v → ∃ t, v = .int ((mAt X i - mAt Y i).natAbs : Int) t) :
    ∃ t0 t1 t2, vs = [Value.int ((X.m1 - Y.m1).natAbs : Int) t0, Value.int ((X.m2 - Y.m2).natAbs : Int) t1, Value.int ((X.m3 - Y.m3).natAbs : Int) t2] := by
  match vs, hl with
  | [a, b, c], _ =>
    obtain ⟨t0, rfl⟩ := hV 0 a rfl
    obtain ⟨t1, rfl⟩ := hV 1 b rfl
    obtain ⟨t2, rfl⟩ := hV 2 c rfl
    exact ⟨t0, t1, t2, rfl⟩
theorem due_ok {X Y : MarkZ} {M : Int} (hx : X.Ok) (hy : Y.Ok) (ha : M = ((X.m1 - Y.m1).natAbs : Int) ∨ M = ((X.m2 - Y.m2).natAbs : Int) ∨ M = ((X.m3 - Y.m3).natAbs : Int)) (hb : ((X.m1 - Y.m1).natAbs : Int) ≤ M ∧ ((X.m2 - Y.m2).natAbs : Int) ≤ M ∧ ((X.m3 - Y.m3).natAbs : Int) ≤ M) :
    M = dueM X Y ∧ LevDue X.t X.b Y.t Y.b M := by
  obtain ⟨h1, h2, h3, h4, h5⟩ := hx
  obtain ⟨g1, g2, g3, g4, g5⟩ := hy
  rw [h3, g3, h4, g4, h5, g5] at ha hb
  refine ⟨?_, ⟨?_, ?_, ?_, ?_, ?_, ?_⟩⟩
  · unfold dueM
    rw [h3, g3, h4, g4, h5, g5]
    omega
  all_goals (intros; omega)
theorem five {α : Type} : ∀ (l : List α), l.length = 5 → ∃ a b c d e, l = [a, b, c, d, e]
  | [a, b, c, d, e], _ => ⟨a, b, c, d, e, rfl⟩
theorem snoc_get {α : Type} {l : List α} {x : α} {k n : Nat} (hl : l.length = n) {p : α → Prop} (h1 : k < n → ∀ y, l[k]? = some y → p y) (h2 : k = n → p x) : ∀ y, (l ++ [x])[k]? = some y → p y := fun y hy => by
  rcases Nat.lt_or_ge k l.length with h | h
  · rw [List.getElem?_append_left h] at hy
    exact h1 (hl ▸ h) y hy
  · rw [List.getElem?_append_right h] at hy
    rcases Nat.eq_zero_or_pos (k - l.length) with q | q
    · rw [q] at hy
      cases hy
      exact h2 (by omega)
    · rw [List.getElem?_eq_none (by show 1 ≤ k - l.length; omega)] at hy
      cases hy
/-- a row of the table of distances -/
def RowIs (p : Int → MarkZ) (k : Nat) (its : List Value) : Prop := ∀ l : Nat, l ≤ k → ∃ tk, its[l]? = some (.int (dueM (p k) (p l)) tk)
structure FarS where
  en : Nat
  rows : List Row
  rr : Led
structure FarI where
  its : List Value
  en : Nat
section
local macro_rules | `(tactic| walk_at "subscriptTail Name Name ref int") => `(tactic| (k_here; k_dflt (first | (refine' sub_pickG (fun m : MarkZ => Value.ref m.a) ?N ?m ?h5 ?x ?_ ?s; (case N => k_asm); (case m => k_mem); (case h5 => with_reducible assumption); (case x => with_reducible assumption); (case s => with_unfolding_all rfl); k_whole; (try dsimp only)) | (refine' sub_pickG (fun m : MarkZ => Value.str (waStr m.t m.b) m.wt) ?N ?m ?h5 ?x ?_ ?s; (case N => k_asm); (case m => k_mem); (case h5 => with_reducible assumption); (case x => with_reducible assumption); (case s => with_unfolding_all rfl); k_whole; (try dsimp only)) | (refine' sub_at ?N ?m ?f ?x ?_ ?s; (case N => k_asm); (case m => k_mem); (case x => with_reducible assumption); (case f => omega); (case s => with_unfolding_all rfl); k_whole))))
local macro_rules | `(tactic| k_ne) => `(tactic| (refine neN ?_; (try dsimp only); first | (refine Offs.at (by with_reducible assumption) ?_; (simp; done)) | (refine Ne.symm (Offs.at (by with_reducible assumption) ?_); (simp; done)) | exact Nat.ne_of_gt (by omega) | exact Nat.ne_of_lt (by omega)))
local macro_rules | `(tactic| walk_at "call ref") => `(tactic| (k_here; k_dflt (refine' pure_use (lev_spec (by with_reducible assumption) (by with_reducible assumption) (by with_reducible assumption) (by with_reducible assumption) (by with_reducible assumption)) ?uB ?uF ?uX ?uN ?uT ?uk ?uin ?ud ?uu ?_; (case uB => k_asm); (case uF => k_asm); (case uX => k_asm); (case uN => k_asm); (case uT => k_asm); (case uk => first | exact rfl | assumption); (case uin => exact (List.forall_mem_nil _)); (case ud => ktr_room); (case uu => ktr_units); k_whole); intro r9 h9 tk9 F9 N9 P9; obtain ⟨q9, e9⟩ := P9; subst e9; (try dsimp only); (try k_fold)))
local macro_rules | `(tactic| walk_at "eval ListComp") => `(tactic| (k_here; k_dflt (refine ListComp_zip (by k_asm) (by with_unfolding_all rfl) (by decide) (by rfl) (by decide) (by rfl) (by rfl) (by decide) ?_)))
local macro_rules | `(tactic| walk_at "call type:range") => `(tactic| ((rename Fr _ _ _ _ => F'); (rename News _ _ _ _ => N'); first | (with_unfolding_all refine range1_rows F' N' ?_; intro _ _ _ _ _ _ _ _ _) | (with_unfolding_all refine range2_rows F' N' ?_; intro _ _ _ _ _ _ _ _ _)))
theorem far_spec {w : World} {mean : ExcName → Option Value} {mg mb : Str → Option Value} {M0 M1 M2 M3 M4 : MarkZ} {wd mk ew em : Nat} (hb : ∀ k : Int, (pick M0 M1 M2 M3 M4 k).Ok) :
  CodeSpec w mean mg mb 146 [.ref wd, .ref mk] [(wd, listOf #[.str (waStr M0.t M0.b) M0.wt, .str (waStr M1.t M1.b) M1.wt, .str (waStr M2.t M2.b) M2.wt, .str (waStr M3.t M3.b) M3.wt, .str (waStr M4.t M4.b) M4.wt] ew), (mk, listOf #[.ref M0.a, .ref M1.a, .ref M2.a, .ref M3.a, .ref M4.a] em), M0.ent, M1.ent, M2.ent, M3.ent, M4.ent] [] 20 200
   (fun r l => ∃ (fa en : Nat) (R0 R1 R2 R3 R4 : Row), r = .ref fa ∧ l = [(fa, listOf #[.ref R0.a, .ref R1.a, .ref R2.a, .ref R3.a, .ref R4.a] en), R0.ent, R1.ent, R2.ent, R3.ent, R4.ent] ∧
     RowIs (pick M0 M1 M2 M3 M4) 0 R0.its ∧ RowIs (pick M0 M1 M2 M3 M4) 1 R1.its ∧ RowIs (pick M0 M1 M2 M3 M4) 2 R2.its ∧ RowIs (pick M0 M1 M2 M3 M4) 3 R3.its ∧ RowIs (pick M0 M1 M2 M3 M4) 4 R4.its) := by
  unfold CodeSpec; k_fill; intro dp un gd cn cs a ccd cl outer A₀ base h₀ L m s R B F X N T hk hdp hu hret
  k_dflt (refine' spec_code ?k1 ?k2 ?k3 ?k4 ?k5 ?kA ?kF ?kK ?k6 ?k7 ?k8 ?k9 ?kB ?_ ?c2 ?c3 ?c4 ?c5; (case kA => exact rfl); (case kF => exact rfl); (case kK => assumption); (case k1 => k_asm); (case k2 => k_asm); (case k3 => k_asm); (case k4 => k_asm); (case k5 => k_asm); (case k6 => k_is); (case k7 => k_is); (case k8 => ktr_room); (case k9 => exact BindsTo.of_eq rfl); (case c5 => decide); (case kB => exact locs rfl); (case c2 => exact rfl); (case c3 => exact rfl); (case c4 => exact rfl); k_whole; intro g' L' h' FG' F' N' B' X' T' hkeep; (try dsimp only); (try k_lift B'); (try k_fold))
  repeat' ((fail_if_success (with_reducible show wpAny _ _ (pyIter _) _ _ _)); first | (k_unfold; (try dsimp only)) | (k_end; wrow_close) | walk1 | (dsimp only; walk1) | (leave1; walk_say "STEP leave1"; try dsimp only) | fail "no step")
  rename IsRange _ _ _ _ _ _ _ _ => hR
  refine' packP (σ := Nat) (fun z => [(Str.ofString "words", .ref wd), (Str.ofString "marks", .ref mk), (Str.ofString "far", .ref z)]) (fun z => (z, listOf #[] 0) :: [(wd, listOf #[.str (waStr M0.t M0.b) M0.wt, .str (waStr M1.t M1.b) M1.wt, .str (waStr M2.t M2.b) M2.wt, .str (waStr M3.t M3.b) M3.wt, .str (waStr M4.t M4.b) M4.wt] ew), (mk, listOf #[.ref M0.a, .ref M1.a, .ref M2.a, .ref M3.a, .ref M4.a] em), M0.ent, M1.ent, M2.ent, M3.ent, M4.ent]) (fun z => @LT.lt Nat _ wd z ∧ @LT.lt Nat _ mk z ∧ @LT.lt Nat _ M0.a z ∧ @LT.lt Nat _ M1.a z ∧ @LT.lt Nat _ M2.a z ∧ @LT.lt Nat _ M3.a z ∧ @LT.lt Nat _ M4.a z) ?pF ?pN _ ?pm ?pn ?pp ?_
  case pF => k_asm
  case pN => k_asm
  case pn => exact (List.forall_mem_cons.mpr ⟨by k_mem, (List.forall_mem_cons.mpr ⟨by k_mem, (List.forall_mem_cons.mpr ⟨by k_mem, (List.forall_mem_cons.mpr ⟨by k_mem, (List.forall_mem_cons.mpr ⟨by k_mem, (List.forall_mem_cons.mpr ⟨by k_mem, (List.forall_mem_cons.mpr ⟨by k_mem, (List.forall_mem_cons.mpr ⟨by k_mem, (List.forall_mem_nil _)⟩)⟩)⟩)⟩)⟩)⟩)⟩)⟩)
  case pm => kst_all
  case pp => exact ⟨by omega, by omega, by omega, by omega, by omega, by omega, by omega⟩
  rintro fa m9 hm9 hlt F10 N10
  refine iter_rangeUnr (n := 5) (by rfl) hR (range_small (by decide) (by decide) (by decide) (by decide)) (range_size (.inl ⟨by decide, by decide⟩)) F10 N10 (fun I hI => ?_)
  refine range_inv (σ := FarS) (fun i z => (fa, listOf (refsOf z.rows).toArray z.en) :: [(wd, listOf #[.str (waStr M0.t M0.b) M0.wt, .str (waStr M1.t M1.b) M1.wt, .str (waStr M2.t M2.b) M2.wt, .str (waStr M3.t M3.b) M3.wt, .str (waStr M4.t M4.b) M4.wt] ew), (mk, listOf #[.ref M0.a, .ref M1.a, .ref M2.a, .ref M3.a, .ref M4.a] em), M0.ent, M1.ent, M2.ent, M3.ent, M4.ent] ++ z.rr) (fun i z => [(Str.ofString "words", .ref wd), (Str.ofString "marks", .ref mk), (Str.ofString "far", .ref fa)])
    (fun i z => z.rows.length = i ∧ (∀ r ∈ z.rows, r.ent ∈ z.rr) ∧ (∀ p ∈ z.rr, fa < p.1) ∧ ∀ (k : Nat) (r : Row), z.rows[k]? = some r → RowIs (pick M0 M1 M2 M3 M4) k r.its) ?step ?done 5 0 _ _ rfl (fun p hp => Nat.ne_of_lt (hI p hp)) ⟨⟨0, [], []⟩, rfl, hm9, ⟨rfl, (fun r h => nomatch h), (fun p h => nomatch h), fun k r h => by simp at h⟩⟩
  case done =>
    intro z v h tk hP F11 N11
    obtain ⟨en, rows, rr⟩ := z
    dsimp only [kstB, List.cons_append, List.nil_append] at hP F11 N11
    obtain ⟨hlen, hrows, hgt, hrow⟩ := hP
    obtain ⟨R0, R1, R2, R3, R4, rfl⟩ := five rows hlen
    have l0 := hrow 0 R0 rfl; have l1 := hrow 1 R1 rfl; have l2 := hrow 2 R2 rfl; have l3 := hrow 3 R3 rfl; have l4 := hrow 4 R4 rfl
    have m0 := hrows R0 (by simp); have m1 := hrows R1 (by simp); have m2 := hrows R2 (by simp); have m3 := hrows R3 (by simp); have m4 := hrows R4 (by simp)
    simp only [refsOf, List.map_cons, List.map_nil] at N11
    clear hlen hrows hgt hrow
    dsimp only
    k_steps
    refine' ret_end (sub' := [(fa, listOf #[.ref R0.a, .ref R1.a, .ref R2.a, .ref R3.a, .ref R4.a] en), R0.ent, R1.ent, R2.ent, R3.ent, R4.ent]) (Q := fun r s' => R (.ok (.ret r)) s') hret N hkeep ?rF ?rN ?rG ?rM ?rin ?rsub ?rp
    case rF => k_asm
    case rN => k_asm
    case rG => k_asm
    case rM => k_asm
    case rin =>
      have q : ∀ p ∈ rr, p ∈ (fa, listOf #[.ref R0.a, .ref R1.a, .ref R2.a, .ref R3.a, .ref R4.a] en) :: [(wd, listOf #[.str (waStr M0.t M0.b) M0.wt, .str (waStr M1.t M1.b) M1.wt, .str (waStr M2.t M2.b) M2.wt, .str (waStr M3.t M3.b) M3.wt, .str (waStr M4.t M4.b) M4.wt] ew), (mk, listOf #[.ref M0.a, .ref M1.a, .ref M2.a, .ref M3.a, .ref M4.a] em), M0.ent, M1.ent, M2.ent, M3.ent, M4.ent] ++ rr := fun p hp => List.mem_append_right _ hp
      exact List.forall_mem_cons.mpr ⟨by k_mem, List.forall_mem_cons.mpr ⟨q _ m0, List.forall_mem_cons.mpr ⟨q _ m1, List.forall_mem_cons.mpr ⟨q _ m2, List.forall_mem_cons.mpr ⟨q _ m3, List.forall_mem_cons.mpr ⟨q _ m4, List.forall_mem_nil _⟩⟩⟩⟩⟩⟩
    case rsub => exact (List.forall_mem_cons.mpr ⟨.inr (by k_mem), (List.forall_mem_cons.mpr ⟨.inr (by k_mem), (List.forall_mem_cons.mpr ⟨.inr (by k_mem), (List.forall_mem_cons.mpr ⟨.inr (by k_mem), (List.forall_mem_cons.mpr ⟨.inr (by k_mem), (List.forall_mem_cons.mpr ⟨.inr (by k_mem), (List.forall_mem_cons.mpr ⟨.inr (by k_mem), (List.forall_mem_nil _)⟩)⟩)⟩)⟩)⟩)⟩)⟩)
    case rp => exact ⟨fa, en, R0, R1, R2, R3, R4, rfl, rfl, l0, l1, l2, l3, l4⟩
  case step =>
    intro i z v t h tk hi hP ho F11 N11
    obtain ⟨en, rows, rr⟩ := z
    dsimp only [kstB, List.cons_append, List.nil_append] at hP ho F11 N11 ⊢
    obtain ⟨hlen, hrows, hgt, hrow⟩ := hP
    simp only [Int.zero_add] at F11
    repeat' ((fail_if_success (with_reducible show wpAny _ _ (pyIter _) _ _ _)); (fail_if_success (with_reducible show UnrEnd _ _ _ _ _ _ _)); (fail_if_success (with_reducible show KswEnd _ _ _ _ _ _ _ _ _ _ _ _)); first | (k_unfold; (try dsimp only)) | (k_end; wrow_close) | walk1 | (dsimp only; walk1) | (leave1; walk_say "STEP leave1"; try dsimp only) | fail "no step")
    rename I < _ ∧ _ => l1
    rename_i cr h9 F12 N12
    have lI : @LT.lt Nat _ I cr := l1.1
    have lf : @LT.lt Nat _ fa cr := l1.2.1
    have lr : ∀ p ∈ rr, p.1 < cr := of_allLt l1.2.2.2.2.2.2.2.2.2
    clear l1
    have oI : fa ≠ I := ho (fa, _) (.head _)
    k_dflt (refine' append_K F12 N12 (Upd.tail (neN (Nat.ne_of_gt lf)) (Upd.tail (neN (Ne.symm oI)) (Upd.head ?uo))) ?_ ?uz)
    case uo => exact (List.forall_mem_cons.mpr ⟨by dsimp only; exact Nat.ne_of_lt (by omega), (List.forall_mem_cons.mpr ⟨by dsimp only; exact Nat.ne_of_lt (by omega), (List.forall_mem_cons.mpr ⟨by dsimp only; exact Nat.ne_of_lt (by omega), (List.forall_mem_cons.mpr ⟨by dsimp only; exact Nat.ne_of_lt (by omega), (List.forall_mem_cons.mpr ⟨by dsimp only; exact Nat.ne_of_lt (by omega), (List.forall_mem_cons.mpr ⟨by dsimp only; exact Nat.ne_of_lt (by omega), (List.forall_mem_cons.mpr ⟨by dsimp only; exact Nat.ne_of_lt (by omega), (off_gt hgt (Nat.le_refl _))⟩)⟩)⟩)⟩)⟩)⟩)⟩)
    case uz => (simp only [List.size_toArray, List.length_map]; rw [hlen, sizeLine_eq]; omega)
    intro h7 F7 N7
    rw [push_row] at N7
    (try dsimp only)
    repeat' ((fail_if_success (with_reducible show wpAny _ _ (pyIter _) _ _ _)); (fail_if_success (with_reducible show UnrEnd _ _ _ _ _ _ _)); (fail_if_success (with_reducible show KswEnd _ _ _ _ _ _ _ _ _ _ _ _)); first | (k_unfold; (try dsimp only)) | (k_end; wrow_close) | walk1 | (dsimp only; walk1) | (leave1; walk_say "STEP leave1"; try dsimp only) | fail "no step")
    rename IsRange _ _ _ _ _ _ _ _ => hR
    rename News _ _ _ _ => N7
    have hfi : (refsOf rows ++ [Value.ref cr])[i]? = some (.ref cr) := by rw [List.getElem?_append_right (by simp [hlen])]; simp [hlen]
    obtain ⟨X, hX⟩ : ∃ X, pick M0 M1 M2 M3 M4 (i : Int) = X := ⟨_, rfl⟩
    have hXb : X.Ok := hX ▸ hb i
    refine iter_rangeUnr (n := i + 1) (by rfl) hR (range_small (by decide) (by decide) (by omega) (by omega)) (range_size (.inl ⟨by omega, by omega⟩)) (by k_asm) N7 (fun I2 hI2 => ?_)
    refine range_inv (σ := FarI) (fun j z => (cr, listOf z.its.toArray z.en) :: (I, itR (0 + ((i + 1 : Nat) : Int)) (((5 : Nat) : Int) - ((i + 1 : Nat) : Int))) :: (fa, listOf (refsOf rows ++ [Value.ref cr]).toArray (en + 1)) :: [(wd, listOf #[.str (waStr M0.t M0.b) M0.wt, .str (waStr M1.t M1.b) M1.wt, .str (waStr M2.t M2.b) M2.wt, .str (waStr M3.t M3.b) M3.wt, .str (waStr M4.t M4.b) M4.wt] ew), (mk, listOf #[.ref M0.a, .ref M1.a, .ref M2.a, .ref M3.a, .ref M4.a] em), M0.ent, M1.ent, M2.ent, M3.ent, M4.ent] ++ rr) (fun j z => [(Str.ofString "words", .ref wd), (Str.ofString "marks", .ref mk), (Str.ofString "far", .ref fa), (Str.ofString "i", .int (i : Int) t)])
      (fun j z => z.its.length = j ∧ ∀ k : Nat, k < j → ∃ tk, z.its[k]? = some (.int (dueM X (pick M0 M1 M2 M3 M4 (k : Int))) tk)) ?step2 ?done2 (i + 1) 0 _ _ rfl (fun p hp => Nat.ne_of_lt (hI2 p hp)) ⟨⟨[], 0⟩, rfl, by kst_all, rfl, fun k hk => absurd hk (Nat.not_lt_zero k)⟩
    case done2 =>
      intro z v h tk hP F13 N13
      obtain ⟨its, ei⟩ := z
      dsimp only [kstB, List.cons_append, List.nil_append] at hP F13 N13
      obtain ⟨hil, hits⟩ := hP
      dsimp only
      repeat' ( (fail_if_success (with_reducible show UnrEnd _ _ _ _ _ _ _)); (fail_if_success (with_reducible show KswEnd _ _ _ _ _ _ _ _ _ _ _ _)); first | (k_unfold; (try dsimp only)) | (k_end; wrow_close) | walk1 | (dsimp only; walk1) | (leave1; walk_say "STEP leave1"; try dsimp only) | fail "no step")
      refine unr_end2 (⟨en + 1, rows ++ [⟨cr, its, ei⟩], (cr, listOf its.toArray ei) :: rr⟩ : FarS) F13 N13 (by k_mem) ?es ?eo (by kst_all) ?ep
      case es =>
        dsimp only
        rw [show refsOf (rows ++ [⟨cr, its, ei⟩]) = refsOf rows ++ [Value.ref cr] from by simp [refsOf]]
        exact (List.forall_mem_cons.mpr ⟨by k_mem, (List.forall_mem_cons.mpr ⟨by k_mem, (List.forall_mem_cons.mpr ⟨by k_mem, (List.forall_mem_cons.mpr ⟨by k_mem, (List.forall_mem_cons.mpr ⟨by k_mem, (List.forall_mem_cons.mpr ⟨by k_mem, (List.forall_mem_cons.mpr ⟨by k_mem, (List.forall_mem_cons.mpr ⟨by k_mem, (List.forall_mem_cons.mpr ⟨by k_mem, (by (repeat' (first | with_reducible assumption | exact in_self | refine in_tail ?_)))⟩)⟩)⟩)⟩)⟩)⟩)⟩)⟩)⟩)
      case eo =>
        dsimp only
        refine List.forall_mem_cons.mpr ⟨oI, fun p hp => ?_⟩
        rcases List.mem_append.mp (show p ∈ [(wd, listOf #[.str (waStr M0.t M0.b) M0.wt, .str (waStr M1.t M1.b) M1.wt, .str (waStr M2.t M2.b) M2.wt, .str (waStr M3.t M3.b) M3.wt, .str (waStr M4.t M4.b) M4.wt] ew), (mk, listOf #[.ref M0.a, .ref M1.a, .ref M2.a, .ref M3.a, .ref M4.a] em), M0.ent, M1.ent, M2.ent, M3.ent, M4.ent] ++ ((cr, listOf its.toArray ei) :: rr) from hp) with hp | hp
        · exact ho p (.tail _ (List.mem_append_left rr hp))
        · rcases List.mem_cons.mp hp with rfl | hp
          · exact Nat.ne_of_gt lI
          · exact ho p (.tail _ (List.mem_append_right [(wd, listOf #[.str (waStr M0.t M0.b) M0.wt, .str (waStr M1.t M1.b) M1.wt, .str (waStr M2.t M2.b) M2.wt, .str (waStr M3.t M3.b) M3.wt, .str (waStr M4.t M4.b) M4.wt] ew), (mk, listOf #[.ref M0.a, .ref M1.a, .ref M2.a, .ref M3.a, .ref M4.a] em), M0.ent, M1.ent, M2.ent, M3.ent, M4.ent] hp))
      case ep =>
        dsimp only
        refine ⟨by simp [hlen], ?_, List.forall_mem_cons.mpr ⟨lf, hgt⟩, fun k r => snoc_get hlen (fun _ y hy => hrow k y hy) (fun e => ?_) r⟩
        · intro r hr
          rcases List.mem_append.mp hr with hr | hr
          · exact .tail _ (hrows r hr)
          · rw [List.mem_singleton.mp hr]; exact .head _
        · intro l hl
          subst e
          obtain ⟨q, hq⟩ := hits l (by omega)
          exact ⟨q, by rw [hX]; exact hq⟩
    case step2 =>
      intro j z v t3 h tk hj hP ho2 F13 N13
      obtain ⟨its, ei⟩ := z
      dsimp only [kstB, List.cons_append, List.nil_append] at hP ho2 F13 N13 ⊢
      obtain ⟨hil, hits⟩ := hP
      simp only [Int.zero_add] at F13
      have hj5 : j < 5 := by omega
      obtain ⟨Y, hY⟩ : ∃ Y, pick M0 M1 M2 M3 M4 (j : Int) = Y := ⟨_, rfl⟩
      have hYb : Y.Ok := hY ▸ hb j
      have mX : X.ent ∈ [(wd, listOf #[.str (waStr M0.t M0.b) M0.wt, .str (waStr M1.t M1.b) M1.wt, .str (waStr M2.t M2.b) M2.wt, .str (waStr M3.t M3.b) M3.wt, .str (waStr M4.t M4.b) M4.wt] ew), (mk, listOf #[.ref M0.a, .ref M1.a, .ref M2.a, .ref M3.a, .ref M4.a] em), M0.ent, M1.ent, M2.ent, M3.ent, M4.ent] := hX ▸ pick_all (p := fun m : MarkZ => m.ent ∈ [(wd, listOf #[.str (waStr M0.t M0.b) M0.wt, .str (waStr M1.t M1.b) M1.wt, .str (waStr M2.t M2.b) M2.wt, .str (waStr M3.t M3.b) M3.wt, .str (waStr M4.t M4.b) M4.wt] ew), (mk, listOf #[.ref M0.a, .ref M1.a, .ref M2.a, .ref M3.a, .ref M4.a] em), M0.ent, M1.ent, M2.ent, M3.ent, M4.ent]) (by k_mem) (by k_mem) (by k_mem) (by k_mem) (by k_mem) (i : Int)
      have mY : Y.ent ∈ [(wd, listOf #[.str (waStr M0.t M0.b) M0.wt, .str (waStr M1.t M1.b) M1.wt, .str (waStr M2.t M2.b) M2.wt, .str (waStr M3.t M3.b) M3.wt, .str (waStr M4.t M4.b) M4.wt] ew), (mk, listOf #[.ref M0.a, .ref M1.a, .ref M2.a, .ref M3.a, .ref M4.a] em), M0.ent, M1.ent, M2.ent, M3.ent, M4.ent] := hY ▸ pick_all (p := fun m : MarkZ => m.ent ∈ [(wd, listOf #[.str (waStr M0.t M0.b) M0.wt, .str (waStr M1.t M1.b) M1.wt, .str (waStr M2.t M2.b) M2.wt, .str (waStr M3.t M3.b) M3.wt, .str (waStr M4.t M4.b) M4.wt] ew), (mk, listOf #[.ref M0.a, .ref M1.a, .ref M2.a, .ref M3.a, .ref M4.a] em), M0.ent, M1.ent, M2.ent, M3.ent, M4.ent]) (by k_mem) (by k_mem) (by k_mem) (by k_mem) (by k_mem) (j : Int)
      have N14 := news_sub N13 (l := X.ent :: Y.ent :: _) (List.forall_mem_cons.mpr ⟨.tail _ (.tail _ (.tail _ (.tail _ (List.mem_append_left rr mX)))), List.forall_mem_cons.mpr ⟨.tail _ (.tail _ (.tail _ (.tail _ (List.mem_append_left rr mY)))), fun p hp => hp⟩⟩)
      clear N13
      dsimp only [MarkZ.ent] at N14
      repeat' ((fail_if_success (with_reducible show wpAny _ _ (PySem.call (Value.type "zip") _) _ _ _)); (fail_if_success (with_reducible show UnrEnd _ _ _ _ _ _ _)); (fail_if_success (with_reducible show KswEnd _ _ _ _ _ _ _ _ _ _ _ _)); first | (k_unfold; (try dsimp only)) | (k_end; wrow_close) | walk1 | (dsimp only; walk1) | (leave1; walk_say "STEP leave1"; try dsimp only) | fail "no step")
      k_dflt (refine' zip_call (xs := [.int X.m1 X.q1, .int X.m2 X.q2, .int X.m3 X.q3]) (ys := [.int Y.m1 Y.q1, .int Y.m2 Y.q2, .int Y.m3 Y.q3]) (n1 := 0) (n2 := 0) (fun i v => ∃ t, v = .int ((mAt X i - mAt Y i).natAbs : Int) t) ?zh ?zF ?zN ?z1 ?z2 ?zl ?zs ?zt ?zf; (case zh => rfl); (case zF => k_asm); (case zN => k_asm); (case z1 => k_mem); (case z2 => k_mem); (case zl => rfl); (case zs => exact Nat.le_of_ble_eq_true rfl))
      case zt =>
        intro i x y hx hy C oC m₂ h tk rest E' hC ha hb F9 N9
        obtain ⟨tx, rfl, bx, bx'⟩ := mAt_of hx hXb
        obtain ⟨ty, rfl, bY, bY'⟩ := mAt_of hy hYb
        generalize mAt X i = kx at *
        generalize mAt Y i = ky at *
        clear hx hy
        repeat' ( (fail_if_success (with_reducible show UnrEnd _ _ _ _ _ _ _)); (fail_if_success (with_reducible show KswEnd _ _ _ _ _ _ _ _ _ _ _ _)); first | (k_unfold; (try dsimp only)) | (k_end; wrow_close) | walk1 | (dsimp only; walk1) | (leave1; walk_say "STEP leave1"; try dsimp only) | fail "no step")
        refine zend (by k_asm) (by k_asm) (fun p hp => hp) ⟨_, congrArg (fun z => Value.int z _) (abs_if _)⟩
      case zf =>
        intro D vs h tk F9 N9 offD hvl hV
        obtain ⟨t0, t1, t2, rfl⟩ := three_ints hvl hV
        clear hvl hV
        (try dsimp only)
        repeat' ((fail_if_success (with_reducible show wpAny _ _ (PySem.call (Value.ref _) _) _ _ _)); (fail_if_success (with_reducible show UnrEnd _ _ _ _ _ _ _)); (fail_if_success (with_reducible show KswEnd _ _ _ _ _ _ _ _ _ _ _ _)); first | (k_unfold; (try dsimp only)) | (k_end; wrow_close) | walk1 | (dsimp only; walk1) | (leave1; walk_say "STEP leave1"; try dsimp only) | fail "no step")
        rename_i hA Mv tv kA FA NA ha9 hb9 hB FB NB
        obtain ⟨hM, hLD⟩ := due_ok hXb hYb ha9 hb9
        have p1 := hXb.t3; have p2 := hXb.b5; have p3 := hYb.t3; have p4 := hYb.b5
        clear ha9 hb9
        repeat' ((fail_if_success (with_reducible show wpAny _ _ (PySem.call (Value.builtin "list.append") _) _ _ _)); (fail_if_success (with_reducible show UnrEnd _ _ _ _ _ _ _)); (fail_if_success (with_reducible show KswEnd _ _ _ _ _ _ _ _ _ _ _ _)); first | (k_unfold; (try dsimp only)) | (k_end; wrow_close) | walk1 | (dsimp only; walk1) | (leave1; walk_say "STEP leave1"; try dsimp only) | fail "no step")
        · exact absurd rfl (by assumption)
        rename News _ _ _ _ => N15
        have N16 := news_sub N15 (l := (I2, itR (0 + ((j + 1 : Nat) : Int)) (((i + 1 : Nat) : Int) - ((j + 1 : Nat) : Int))) :: (cr, listOf its.toArray ei) :: (I, itR (0 + ((i + 1 : Nat) : Int)) (((5 : Nat) : Int) - ((i + 1 : Nat) : Int))) :: (fa, listOf (refsOf rows ++ [Value.ref cr]).toArray (en + 1)) :: [(wd, listOf #[.str (waStr M0.t M0.b) M0.wt, .str (waStr M1.t M1.b) M1.wt, .str (waStr M2.t M2.b) M2.wt, .str (waStr M3.t M3.b) M3.wt, .str (waStr M4.t M4.b) M4.wt] ew), (mk, listOf #[.ref M0.a, .ref M1.a, .ref M2.a, .ref M3.a, .ref M4.a] em), M0.ent, M1.ent, M2.ent, M3.ent, M4.ent] ++ rr) (by dsimp only [List.cons_append, List.nil_append]; exact (List.forall_mem_cons.mpr ⟨by k_mem, (List.forall_mem_cons.mpr ⟨by k_mem, (List.forall_mem_cons.mpr ⟨by k_mem, (List.forall_mem_cons.mpr ⟨by k_mem, (List.forall_mem_cons.mpr ⟨by k_mem, (List.forall_mem_cons.mpr ⟨by k_mem, (List.forall_mem_cons.mpr ⟨by k_mem, (List.forall_mem_cons.mpr ⟨by k_mem, (List.forall_mem_cons.mpr ⟨by k_mem, (List.forall_mem_cons.mpr ⟨by k_mem, (List.forall_mem_cons.mpr ⟨by k_mem, (by (repeat' (first | with_reducible assumption | exact in_self | refine in_tail ?_)))⟩)⟩)⟩)⟩)⟩)⟩)⟩)⟩)⟩)⟩)⟩))
        dsimp only [List.cons_append, List.nil_append] at N16
        clear N15
        have oI2 : cr ≠ I2 := ho2 (cr, _) (.head _)
        k_dflt (refine' append_K (by k_asm) N16 (Upd.tail (neN (Ne.symm oI2)) (Upd.head ?uo)) ?_ ?uz)
        case uo => exact (List.forall_mem_cons.mpr ⟨by dsimp only; exact Nat.ne_of_lt (by omega), (List.forall_mem_cons.mpr ⟨by dsimp only; exact Nat.ne_of_lt (by omega), (List.forall_mem_cons.mpr ⟨by dsimp only; exact Nat.ne_of_lt (by omega), (List.forall_mem_cons.mpr ⟨by dsimp only; exact Nat.ne_of_lt (by omega), (List.forall_mem_cons.mpr ⟨by dsimp only; exact Nat.ne_of_lt (by omega), (List.forall_mem_cons.mpr ⟨by dsimp only; exact Nat.ne_of_lt (by omega), (List.forall_mem_cons.mpr ⟨by dsimp only; exact Nat.ne_of_lt (by omega), (List.forall_mem_cons.mpr ⟨by dsimp only; exact Nat.ne_of_lt (by omega), (List.forall_mem_cons.mpr ⟨by dsimp only; exact Nat.ne_of_lt (by omega), (off_lt lr (Nat.le_refl _))⟩)⟩)⟩)⟩)⟩)⟩)⟩)⟩)⟩)
        case uz => (simp only [List.size_toArray]; rw [hil, sizeLine_eq]; omega)
        intro h7 F7 N7
        rw [push_row] at N7
        (try dsimp only)
        repeat' ( (fail_if_success (with_reducible show UnrEnd _ _ _ _ _ _ _)); (fail_if_success (with_reducible show KswEnd _ _ _ _ _ _ _ _ _ _ _ _)); first | (k_unfold; (try dsimp only)) | (k_end; wrow_close) | walk1 | (dsimp only; walk1) | (leave1; walk_say "STEP leave1"; try dsimp only) | fail "no step")
        refine' unr_end2 (⟨its ++ [.int Mv tv], ei + 1⟩ : FarI) (by k_asm) N7 (.head _) (in_tail in_self) ?eo (by kst_all) ?ep
        case eo => exact List.forall_mem_cons.mpr ⟨oI2, fun p hp => ho2 p (.tail _ hp)⟩
        case ep =>
          dsimp only
          refine ⟨by simp [hil], fun k hk => ?_⟩
          rcases Nat.lt_or_ge k its.length with hl | hl
          · rw [List.getElem?_append_left hl]
            exact hits k (by omega)
          · rw [List.getElem?_append_right hl]
            have e0 : k - its.length = 0 := by omega
            have ek : k = j := by omega
            rw [e0, ek, hY, ← hM]
            exact ⟨_, rfl⟩
end
theorem sum_led {prog : Program} {w : World} {A : Around} {E : Value → Shared → Prop} {s : Shared} {h₀ : Heap} {L l : Addr} {m : Str → Option Value} {news : Led} {vs : List Value} {ns : List Int} {Q : Value → Shared → Prop} (hh : A.handled = none) (F : Fr h₀ L s.heap m) (N : News h₀ L s.heap news) (hl : s.heap.IsList l vs.toArray) (hi : IntsAre vs ns)
    (h : ∀ h' tk t', Fr h₀ L h' m → News h₀ L h' news → Q (.int ns.sum t') { s with heap := h', toks := tk }) : wpAny (model prog w) A (call (.builtin "sum") [.ref l]) Q E s := by
  obtain ⟨xs, hx⟩ := hi.allInts.items
  have hn : numsOf vs.toArray.toList = ns := by rw [show vs.toArray.toList = vs from rfl, hi.numsOf]
  rw [hx] at hl hn
  rw [nums_intItems] at hn
  refine sum_intListG hh hl fun h' tk t' hk => ?_
  have := h h' tk t' (F.keeps hk) (N.grown hk)
  rw [preSum_eq, List.take_of_length_le (by simp), hn]
  exact this
theorem sum_pick {prog : Program} {w : World} {A : Around} {E : Value → Shared → Prop} {s : Shared} {h₀ : Heap} {L l : Addr} {m : Str → Option Value} {news : Led} {vs : List Value} {ns : List Int} {lo up st : Option Int} {k : Nat} {Q : Value → Shared → Prop} (hh : A.handled = none) (F : Fr h₀ L s.heap m) (N : News h₀ L s.heap news) (hm : (l, ({ cls := .type "list", data := .seq (slicePick vs.toArray lo up st) k } : Obj)) ∈ news) (hi : IntsAre vs ns)
    (h : ∀ h' tk t', Fr h₀ L h' m → News h₀ L h' news → Q (.int (pickNums ns lo up st).sum t') { s with heap := h', toks := tk }) : wpAny (model prog w) A (call (.builtin "sum") [.ref l]) Q E s :=
  sum_led (vs := (slicePick vs.toArray lo up st).toList) hh F N ⟨_, (N _ hm).1, rfl, k, by simp⟩ (hi.pick lo up st) h
theorem sub_pick5 {prog : Program} {w : World} {A : Around} {E : Value → Shared → Prop} {s : Shared} {Q : Value → Shared → Prop} {value slice : PySem.Expr} {h₀ : Heap} {L D : Addr} {news : Led} {a0 a1 a2 a3 a4 : Int} {t0 t1 t2 t3 t4 : Tok} {n : Nat} {k : Nat} {u : Tok}
    (N : News h₀ L s.heap news) (hm : (D, listOf #[.int a0 t0, .int a1 t1, .int a2 t2, .int a3 t3, .int a4 t4] n) ∈ news) (h5 : k < 5) (h : Q (.int (pick a0 a1 a2 a3 a4 (k : Int)) (pick t0 t1 t2 t3 t4 (k : Int))) s)
    (hs : subscripted slice false (.ref D) (.int (k : Int) u) = operate [.ref D, .int (k : Int) u] (getItem (.ref D) (.int (k : Int) u)) := by with_unfolding_all rfl) :
    wpAny (model prog w) A (subscriptTail value slice (.ref D) (.int (k : Int) u)) Q E s := by
  refine sub_news N hm (Int.natCast_nonneg _) (by omega) ?_ h hs
  rcases (by omega : k = 0 ∨ k = 1 ∨ k = 2 ∨ k = 3 ∨ k = 4) with rfl | rfl | rfl | rfl | rfl <;> rfl
/-- a def that reads the script -/
def CodeSpecS (w : World) (mean : ExcName → Option Value) (mg mb : Str → Option Value) (f sl : Addr) (vs : List Value) (d u : Nat) (Post : Value → Led → Prop) : Prop :=
  ∀ (dp un : Nat) (gd : Option (List Code)) (cn : Str) (cs : Scope) (a : Addr) (ccd : Value) (cl : List (Str × Addr)) (outer : List Env) (A₀ : Around) (base h₀ : Heap) (L : Addr) (m : Str → Option Value) (s : Shared) (R : Result → Shared → Prop),
    h₀.IsList sl vs.toArray → Below A₀ base outer h₀ → Fr h₀ L s.heap m → (hd.heap_39 w.params).In h₀ → News h₀ L s.heap [] → Top hd.view_39 (looseW hd.view_39 [Str.ofString "Whitespace"]) mean mg mb h₀ → cs.kind = .function → dp + d < recursionLimit → un + u < cLine →
    Ret h₀ L m s [] [] Post (fun r s' => R (.ok (.ret r)) s') →
    codeAny (model PySem.Challenge.rw_qj0008_01.row.prog w) (ktrTop dp un gd cn cs L a ccd cl outer) (.call (.ref f) ⟨[.ref sl], []⟩) R s
theorem keeps_list {h g : Heap} {l : Addr} {its : Array Value} (hl : h.IsList l its) (hk : Keeps h g []) : g.IsList l its := by
  obtain ⟨o, ho, r⟩ := hl
  exact ⟨o, hk l o ho (fun q => nomatch q), r⟩
structure SpotS where
  vs : List Value
  ns : List Int
  en : Nat
structure WhlS where
  x : Int
  j : Nat
  k : Tok
theorem in_led {prog : Program} {w : World} {A : Around} {E : Value → Shared → Prop} {s : Shared} {Q : Value → Shared → Prop} {h₀ : Heap} {L D : Addr} {news : Led} {vs : List Value} {ns : List Int} {n : Nat} {k : Int} {t : Tok} (N : News h₀ L s.heap news) (hm : (D, listOf vs.toArray n) ∈ news) (hi : IntsAre vs ns)
    (h : Q (.bool (ns.any (· == k))) s) : wpAny (model prog w) A (compareOp .In (.int k t) (.ref D)) Q E s :=
  in_list_ints ⟨_, (N _ hm).1, rfl, n, rfl⟩ hi h
theorem fm24 (a : Int) : Int.fmod a 24 = a % 24 := Int.fmod_eq_emod_of_nonneg _ (by decide)
theorem filter_lt {α : Type} {p q : α → Bool} : ∀ {l : List α} {x : α}, (∀ y, q y = true → p y = true) → x ∈ l → p x = true → q x = false → (l.filter q).length < (l.filter p).length
  | a :: l, x, h, hx, hp, hq => by
    have le : ∀ l : List α, (l.filter q).length ≤ (l.filter p).length := fun l => by
      induction l with
      | nil => exact Nat.le_refl _
      | cons b l ih =>
        cases hb : q b with
        | true => rw [List.filter_cons_of_pos hb, List.filter_cons_of_pos (h b hb)]; exact Nat.succ_le_succ ih
        | false =>
          rw [List.filter_cons_of_neg (by simp [hb])]
          cases hc : p b with
          | true => rw [List.filter_cons_of_pos hc]; exact Nat.le_succ_of_le ih
          | false => rw [List.filter_cons_of_neg (by simp [hc])]; exact ih
    rcases List.mem_cons.mp hx with rfl | hx
    · rw [List.filter_cons_of_neg (by simp [hq]), List.filter_cons_of_pos hp]
      exact Nat.lt_succ_of_le (le l)
    · have ih := filter_lt h hx hp hq
      cases hb : q a with
      | true => rw [List.filter_cons_of_pos hb, List.filter_cons_of_pos (h a hb)]; exact Nat.succ_lt_succ ih
      | false =>
        rw [List.filter_cons_of_neg (by simp [hb])]
        cases hc : p a with
        | true => rw [List.filter_cons_of_pos hc]; exact Nat.lt_succ_of_lt ih
        | false => rw [List.filter_cons_of_neg (by simp [hc])]; exact ih
/-- what is left to try -/
def leftOf (s0 : Int) (ms : List Int) (j : Nat) : Nat := (ms.filter fun y => decide (∀ i : Nat, i < j → y ≠ (s0 + 5 * (i : Int)) % 24)).length
theorem left_lt {s0 x : Int} {ms : List Int} {j : Nat} (hx : x ∈ ms) (hxj : x = (s0 + 5 * (j : Int)) % 24) (hj : j < 24) : leftOf s0 ms (j + 1) < leftOf s0 ms j := by
  refine filter_lt (fun y hy => ?_) hx ?_ ?_
  · simp only [decide_eq_true_eq] at hy ⊢
    exact fun i hi => hy i (by omega)
  · simp only [decide_eq_true_eq]
    intro i hi
    omega
  · simp only [decide_eq_false_iff_not]
    exact fun h => h j (Nat.lt_succ_self j) hxj

theorem five_ints {us : List Value} {n0 n1 n2 n3 n4 : Int} (h : IntsAre us [n0, n1, n2, n3, n4]) : ∃ g0 g1 g2 g3 g4, us = [Value.int n0 g0, Value.int n1 g1, Value.int n2 g2, Value.int n3 g3, Value.int n4 g4] := by
  cases h with | cons _ g0 h => cases h with | cons _ g1 h => cases h with | cons _ g2 h => cases h with | cons _ g3 h => cases h with | cons _ g4 h => cases h with | nil => exact ⟨g0, g1, g2, g3, g4, rfl⟩
def OkPair (T B : Int) : Prop := ∃ t b : Nat, T = t ∧ B = b ∧ t ≤ 3 ∧ b ≤ 5
theorem okPair {n : Int} (h0 : 0 ≤ n) (h : n < 24) : OkPair (n.fmod 4) (n.fdiv 4) := by
  refine ⟨(n % 4).toNat, (n / 4).toNat, ?_, ?_, by omega, by omega⟩
  · rw [Int.fmod_eq_emod_of_nonneg _ (by decide)]; omega
  · rw [Int.fdiv_eq_ediv_of_nonneg _ (by decide)]; omega
def Apart (T B T' B' : Int) : Prop := T ≠ T' ∨ B ≠ B'
theorem apart {n n' : Int} (h : n ≠ n') : Apart (n.fmod 4) (n.fdiv 4) (n'.fmod 4) (n'.fdiv 4) := by
  unfold Apart
  rw [Int.fmod_eq_emod_of_nonneg _ (by decide), Int.fmod_eq_emod_of_nonneg _ (by decide), Int.fdiv_eq_ediv_of_nonneg _ (by decide), Int.fdiv_eq_ediv_of_nonneg _ (by decide)]
  omega
structure SpotsOk (T0 B0 T1 B1 T2 B2 T3 B3 T4 B4 : Int) : Prop where
  o0 : OkPair T0 B0
  o1 : OkPair T1 B1
  o2 : OkPair T2 B2
  o3 : OkPair T3 B3
  o4 : OkPair T4 B4
  a01 : Apart T0 B0 T1 B1
  a02 : Apart T0 B0 T2 B2
  a03 : Apart T0 B0 T3 B3
  a04 : Apart T0 B0 T4 B4
  a12 : Apart T1 B1 T2 B2
  a13 : Apart T1 B1 T3 B3
  a14 : Apart T1 B1 T4 B4
  a23 : Apart T2 B2 T3 B3
  a24 : Apart T2 B2 T4 B4
  a34 : Apart T3 B3 T4 B4
section
local macro_rules | `(tactic| walk_at "compareOp In int ref") => `(tactic| (k_here; k_dflt (refine' in_led ?N ?m ?i ?_; (case N => k_asm); (case m => k_mem); (case i => with_reducible assumption); k_whole)))
local macro_rules | `(tactic| walk_at "call type:range") => `(tactic| ((rename Fr _ _ _ _ => F'); (rename News _ _ _ _ => N'); first | (with_unfolding_all refine range1_rows F' N' ?_; intro _ _ _ _ _ _ _ _ _) | (with_unfolding_all refine range2_rows F' N' ?_; intro _ _ _ _ _ _ _ _ _)))
local macro_rules | `(tactic| walk_at "subscriptTail") => `(tactic| (k_here; k_dflt (refine' sub_pick5 ?N ?m ?h5 ?_ ?s; (case N => k_asm); (case m => k_mem); (case h5 => with_reducible assumption); (case s => with_unfolding_all rfl); k_whole)))
local macro_rules | `(tactic| walk_at "call builtin:sum") => `(tactic| (k_here; (with_reducible show wpAny _ _ (PySem.call (Value.builtin "sum") [Value.ref _]) _ _ _); k_dflt (refine' sum_pick ?h ?F ?N ?l ?i ?_; (case h => rfl); (case F => k_asm); (case N => k_asm); (case l => k_mem); (case i => with_reducible assumption); k_whole); intro h' tk' t' F' N'))
theorem spots_spec {w : World} {mean : ExcName → Option Value} {mg mb : Str → Option Value} {sl : Nat} {vs : List Value} {ns : List Int} (hi : IntsAre vs ns) (hlen : ns.length ≤ 63) :
  CodeSpecS w mean mg mb 134 sl vs 10 120
   (fun r l => ∃ (sp en p0 p1 p2 p3 p4 : Nat) (T0 B0 T1 B1 T2 B2 T3 B3 T4 B4 : Int) (u0 v0 u1 v1 u2 v2 u3 v3 u4 v4 : Tok), r = .ref sp ∧ l = [(sp, listOf #[.ref p0, .ref p1, .ref p2, .ref p3, .ref p4] en), (p0, tup2 T0 u0 B0 v0), (p1, tup2 T1 u1 B1 v1), (p2, tup2 T2 u2 B2 v2), (p3, tup2 T3 u3 B3 v3), (p4, tup2 T4 u4 B4 v4)] ∧ SpotsOk T0 B0 T1 B1 T2 B2 T3 B3 T4 B4) := by
  unfold CodeSpecS; k_fill; intro dp un gd cn cs a ccd cl outer A₀ base h₀ L m s R hsl B F X N T hk hdp hu hret
  k_dflt (refine' spec_code ?k1 ?k2 ?k3 ?k4 ?k5 ?kA ?kF ?kK ?k6 ?k7 ?k8 ?k9 ?kB ?_ ?c2 ?c3 ?c4 ?c5; (case kA => exact rfl); (case kF => exact rfl); (case kK => assumption); (case k1 => k_asm); (case k2 => k_asm); (case k3 => k_asm); (case k4 => k_asm); (case k5 => k_asm); (case k6 => k_is); (case k7 => k_is); (case k8 => ktr_room); (case k9 => exact BindsTo.of_eq rfl); (case c5 => decide); (case kB => exact locs rfl); (case c2 => exact rfl); (case c3 => exact rfl); (case c4 => exact rfl); k_whole; intro g' L' h' FG' F' N' B' X' T' hkeep; (try dsimp only); (try k_lift B'); (try k_fold))
  have hsl' : g'.IsList sl vs.toArray := keeps_list (hsl.at fun o e => F.keep _ o e) hkeep
  repeat' ((fail_if_success (with_reducible show wpAny _ _ (pyIter _) _ _ _)); first | (k_unfold; (try dsimp only)) | (k_end; wrow_close) | walk1 | (dsimp only; walk1) | (leave1; walk_say "STEP leave1"; try dsimp only) | fail "no step")
  rename IsRange _ _ _ _ _ _ _ _ => hR
  refine' packP (σ := Nat) (fun z => [(Str.ofString "script", .ref sl), (Str.ofString "spots", .ref z)]) (fun z => [(z, listOf #[] 0)]) (fun z => True) ?pF ?pN _ ?pm ?pn ?pp ?_
  case pF => k_asm
  case pN => k_asm
  case pn => exact (List.forall_mem_cons.mpr ⟨by k_mem, (List.forall_mem_nil _)⟩)
  case pm => kst_all
  case pp => trivial
  rintro sp m9 hm9 _ F10 N10
  refine iter_rangeUnr (n := 5) (by rfl) hR (range_small (by decide) (by decide) (by decide) (by decide)) (range_size (.inl ⟨by decide, by decide⟩)) F10 N10 (fun I hI => ?_)
  refine range_inv (σ := SpotS) (fun i z => [(sp, listOf z.vs.toArray z.en)]) (fun i z => [(Str.ofString "script", .ref sl), (Str.ofString "spots", .ref sp)])
    (fun i z => z.ns.length = i ∧ IntsAre z.vs z.ns ∧ (∀ x ∈ z.ns, 0 ≤ x ∧ x < 24) ∧ z.ns.Nodup) ?step ?done 5 0 _ _ rfl (fun p hp => Nat.ne_of_lt (hI p hp)) ⟨⟨[], [], 0⟩, rfl, hm9, rfl, .nil, (fun x h => nomatch h), List.nodup_nil⟩
  case done =>
    intro z v h tk hP F11 N11
    obtain ⟨us, ms, en⟩ := z
    dsimp only [kstB] at hP F11 N11
    obtain ⟨hml, hus, hms, hnd⟩ := hP
    obtain ⟨n0, n1, n2, n3, n4, rfl⟩ := five ms hml
    obtain ⟨g0, g1, g2, g3, g4, rfl⟩ := five_ints hus
    dsimp only
    repeat' ((fail_if_success (with_reducible show wpAny _ _ (pyIter _) _ _ _)); first | (k_unfold; (try dsimp only)) | (k_end; wrow_close) | walk1 | (dsimp only; walk1) | (leave1; walk_say "STEP leave1"; try dsimp only) | fail "no step")
    have hd5 := hnd
    simp only [List.nodup_cons, List.mem_cons, List.not_mem_nil, or_false, not_or] at hd5
    obtain ⟨⟨d01, d02, d03, d04⟩, ⟨d12, d13, d14⟩, ⟨d23, d24⟩, d34, _⟩ := hd5
    have q0 := hms n0 (by simp); have q1 := hms n1 (by simp); have q2 := hms n2 (by simp); have q3 := hms n3 (by simp); have q4 := hms n4 (by simp)
    refine' ret_end (sub' := [(_, listOf #[.ref _, .ref _, .ref _, .ref _, .ref _] 5), (_, tup2 (n0.fmod 4) _ (n0.fdiv 4) _), (_, tup2 (n1.fmod 4) _ (n1.fdiv 4) _), (_, tup2 (n2.fmod 4) _ (n2.fdiv 4) _), (_, tup2 (n3.fmod 4) _ (n3.fdiv 4) _), (_, tup2 (n4.fmod 4) _ (n4.fdiv 4) _)]) (Q := fun r s' => R (.ok (.ret r)) s') hret N hkeep ?rF ?rN ?rG ?rM ?rin ?rsub ?rp
    case rF => k_asm
    case rN => k_asm
    case rG => k_asm
    case rM => k_asm
    case rin => exact (List.forall_mem_cons.mpr ⟨by k_mem, (List.forall_mem_cons.mpr ⟨by k_mem, (List.forall_mem_cons.mpr ⟨by k_mem, (List.forall_mem_cons.mpr ⟨by k_mem, (List.forall_mem_cons.mpr ⟨by k_mem, (List.forall_mem_cons.mpr ⟨by k_mem, (List.forall_mem_nil _)⟩)⟩)⟩)⟩)⟩)⟩)
    case rsub => exact (List.forall_mem_nil _)
    case rp => exact ⟨_, _, _, _, _, _, _, _, _, _, _, _, _, _, _, _, _, _, _, _, _, _, _, _, _, _, _, rfl, rfl, ⟨okPair q0.1 q0.2, okPair q1.1 q1.2, okPair q2.1 q2.2, okPair q3.1 q3.2, okPair q4.1 q4.2, apart d01, apart d02, apart d03, apart d04, apart d12, apart d13, apart d14, apart d23, apart d24, apart d34⟩⟩
  case step =>
    intro i z v t h tk hi5 hP ho F11 N11
    obtain ⟨us, ms, en⟩ := z
    dsimp only [kstB] at hP ho F11 N11 ⊢
    obtain ⟨hml, hus, hms, hnd⟩ := hP
    simp only [Int.zero_add] at F11
    have oS : sp ≠ I := ho (sp, _) (.head _)
    repeat' ((fail_if_success (with_reducible show wpAny _ _ (exec (Stmt.While _ _ _ _) _) _ _ _)); (fail_if_success (with_reducible show UnrEnd _ _ _ _ _ _ _)); (fail_if_success (with_reducible show KswEnd _ _ _ _ _ _ _ _ _ _ _ _)); first | (k_unfold; (try dsimp only)) | (k_end; wrow_close) | walk1 | (dsimp only; walk1) | (leave1; walk_say "STEP leave1"; try dsimp only) | fail "no step")
    refine' packP (σ := Int × Tok) (fun z => [(Str.ofString "script", .ref sl), (Str.ofString "spots", .ref sp), (Str.ofString "spot", .int z.1 z.2)]) (fun z => [(I, itR (0 + ((i + 1 : Nat) : Int)) (((5 : Nat) : Int) - ((i + 1 : Nat) : Int))), (sp, listOf us.toArray en)]) (fun z => 0 ≤ z.1 ∧ z.1 < 24) ?pF ?pN ⟨_, _⟩ ?pm ?pn ?pp ?_
    case pF => k_asm
    case pN => k_asm
    case pn => exact (List.forall_mem_cons.mpr ⟨by k_mem, (List.forall_mem_cons.mpr ⟨by k_mem, (List.forall_mem_nil _)⟩)⟩)
    case pm => kst_all
    case pp => (dsimp only; rw [fm24]; omega)
    rintro ⟨s0, k0⟩ m8 hm8 ⟨h0, h24⟩ F12 N12
    dsimp only at hm8 h0 h24
    refine ksw_while (σ := WhlS) (fun c => [(I, itR (0 + ((i + 1 : Nat) : Int)) (((5 : Nat) : Int) - ((i + 1 : Nat) : Int))), (sp, listOf us.toArray en)]) (fun c => [(Str.ofString "script", .ref sl), (Str.ofString "spots", .ref sp), (Str.ofString "spot", .int c.x c.k)])
      (fun _ => True) [] (fun c => 0 ≤ c.x ∧ c.x < 24 ∧ c.x = (s0 + 5 * (c.j : Int)) % 24 ∧ c.j + leftOf s0 ms c.j ≤ ms.length) (fun c => leftOf s0 ms c.j) ⟨s0, 0, k0⟩ F12 N12 trivial hm8 ⟨h0, h24, by dsimp only; omega, by rw [Nat.zero_add]; exact List.length_filter_le _ _⟩ ?turn
    case turn =>
      intro c u h9 tk9 _ hP9 F4 N4
      obtain ⟨x, j, kx⟩ := c
      dsimp only [kstB] at hP9 F4 N4 ⊢
      obtain ⟨x0, x24, hxj, hjl⟩ := hP9
      repeat' ((fail_if_success (with_reducible show wpAny _ _ (PySem.call (Value.builtin "list.append") _) _ _ _)); (fail_if_success (with_reducible show UnrEnd _ _ _ _ _ _ _)); (fail_if_success (with_reducible show KswEnd _ _ _ _ _ _ _ _ _ _ _ _)); first | (k_unfold; (try dsimp only)) | (k_end; wrow_close) | walk1 | (dsimp only; walk1) | (leave1; walk_say "STEP leave1"; try dsimp only) | fail "no step")
      · rename List.any ms _ = true => hx
        have hxm : x ∈ ms := by
          obtain ⟨y, hy, e⟩ := List.any_eq_true.mp hx
          exact (beq_iff_eq.mp e) ▸ hy
        have hlt := left_lt hxm hxj (by omega)
        refine ksw_end (⟨_, j + 1, _⟩ : WhlS) (by k_asm) (by k_asm) (List.forall_mem_cons.mpr ⟨by k_mem, (List.forall_mem_cons.mpr ⟨by k_mem, (List.forall_mem_nil _)⟩)⟩) trivial (by kst_all) (by ksw_same) ⟨?_, ?_, ?_, ?_⟩ hlt
        · dsimp only; rw [fm24]; omega
        · dsimp only; rw [fm24]; omega
        · dsimp only; rw [fm24]; omega
        · dsimp only; omega
      · rename List.any ms _ = false => hx
        have hxm : x ∉ ms := fun hm => by
          have := List.any_eq_false.mp hx x hm
          simp at this
        rename News _ _ _ _ => N15
        k_dflt (refine' append_K (by k_asm) N15 (Upd.tail (neN (Ne.symm oS)) (Upd.head (List.forall_mem_nil _))) ?_ ?uz)
        case uz => (simp only [List.size_toArray]; rw [hus.length, hml, sizeLine_eq]; omega)
        intro h7 F7 N7
        rw [push_row] at N7
        (try dsimp only)
        repeat' ( (fail_if_success (with_reducible show UnrEnd _ _ _ _ _ _ _)); (fail_if_success (with_reducible show KswEnd _ _ _ _ _ _ _ _ _ _ _ _)); first | (k_unfold; (try dsimp only)) | (k_end; wrow_close) | walk1 | (dsimp only; walk1) | (leave1; walk_say "STEP leave1"; try dsimp only) | fail "no step")
        refine' unr_end2 (⟨us ++ [.int x kx], ms ++ [x], en + 1⟩ : SpotS) (by k_asm) N7 (.head _) (List.forall_mem_cons.mpr ⟨by k_mem, (List.forall_mem_nil _)⟩) (List.forall_mem_cons.mpr ⟨oS, List.forall_mem_nil _⟩) (by kst_all) ⟨by simp [hml], hus.append (.cons x kx .nil), ?e1, ?e2⟩
        case e1 =>
          intro y hy
          rcases List.mem_append.mp hy with hy | hy
          · exact hms y hy
          · rw [List.mem_singleton.mp hy]; exact ⟨x0, x24⟩
        case e2 =>
          refine List.nodup_append.mpr ⟨hnd, List.nodup_cons.mpr ⟨by simp, List.nodup_nil⟩, fun y hy z hz e => ?_⟩
          rw [List.mem_singleton.mp hz] at e
          exact hxm (e ▸ hy)
end
theorem turn_spec {w : World} {mean : ExcName → Option Value} {mg mb : Str → Option Value} {p q way signs : Int} {k1 k2 k3 k4 : Tok} (hp : 0 ≤ p ∧ p < 5) (hq : 0 ≤ q ∧ q < 5) (hw : 0 ≤ way ∧ way ≤ 100) (hs : 0 ≤ signs ∧ signs ≤ 100) (ht : 0 < way - 2 * signs) :
  CodeSpec w mean mg mb 165 [.int p k1, .int q k2, .int way k3, .int signs k4] [] [] 4 60
   (fun r l => (∃ k, r = .int (Int.fdiv (way - signs - (if q < p then 1 else 0)) (way - 2 * signs) + 1) k) ∧ l = []) := by
  unfold CodeSpec; k_fill; intro dp un gd cn cs a ccd cl outer A₀ base h₀ L m s R B F X N T hk hdp hu hret
  k_dflt (refine' spec_code ?k1 ?k2 ?k3 ?k4 ?k5 ?kA ?kF ?kK ?k6 ?k7 ?k8 ?k9 ?kB ?_ ?c2 ?c3 ?c4 ?c5; (case kA => exact rfl); (case kF => exact rfl); (case kK => assumption); (case k1 => k_asm); (case k2 => k_asm); (case k3 => k_asm); (case k4 => k_asm); (case k5 => k_asm); (case k6 => k_is); (case k7 => k_is); (case k8 => ktr_room); (case k9 => exact BindsTo.of_eq rfl); (case c5 => decide); (case kB => exact locs rfl); (case c2 => exact rfl); (case c3 => exact rfl); (case c4 => exact rfl); k_whole; intro g' L' h' FG' F' N' B' X' T' hkeep; (try dsimp only); (try k_lift B'); (try k_fold))
  k_steps
  · rename q < p => hqp
    refine' ret_end (sub' := []) (Q := fun r s' => R (.ok (.ret r)) s') hret N hkeep ?rF204 ?rN204 ?rG204 ?rM204 ?rin204 ?rsub204 ?rp204; (case rF204 => k_asm); (case rN204 => k_asm); (case rG204 => k_asm); (case rM204 => k_asm); (case rin204 => exact (List.forall_mem_nil _)); (case rsub204 => simp)
    exact ⟨⟨_, by rw [if_pos hqp]⟩, rfl⟩
  · rename ¬ q < p => hqp
    refine' ret_end (sub' := []) (Q := fun r s' => R (.ok (.ret r)) s') hret N hkeep ?rF205 ?rN205 ?rG205 ?rM205 ?rin205 ?rsub205 ?rp205; (case rF205 => k_asm); (case rN205 => k_asm); (case rG205 => k_asm); (case rM205 => k_asm); (case rin205 => exact (List.forall_mem_nil _)); (case rsub205 => simp)
    exact ⟨⟨_, by rw [if_neg hqp]⟩, rfl⟩
def GEnd (h₀ : Heap) (L : Addr) (m : Str → Option Value) (s₁ : Shared) (led : Led) (V : Value → Led → Prop) (y : Value) (s₂ : Shared) : Prop :=
  ∃ h' tk own, s₂ = { s₁ with heap := h', toks := tk } ∧ Fr h₀ L h' m ∧ News h₀ L h' (own ++ led) ∧ (∀ p ∈ own, ∀ q ∈ led, p.1 ≠ q.1) ∧ V y own
theorem gend {h₀ : Heap} {L : Addr} {m : Str → Option Value} {s₁ : Shared} {led all : Led} {V : Value → Led → Prop} {y : Value} {h' : Heap} {tk : Nat} (own : Led) (F : Fr h₀ L h' m) (N : News h₀ L h' all) (hs : ∀ p ∈ own ++ led, p ∈ all) (hn : ∀ p ∈ own, ∀ q ∈ led, p.1 ≠ q.1) (v : V y own) : GEnd h₀ L m s₁ led V y { s₁ with heap := h', toks := tk } :=
  ⟨h', tk, own, rfl, F, fun p hp => N p (hs p hp), hn, v⟩
section
open LCg
variable {prog : Program} {w : World} {A : Around} {E : Value → Shared → Prop} {s : Shared} {h₀ : Heap} {L : Addr} {m : Str → Option Value} {env : Env} {news : Led}
/-- a comprehension over a list of the ledger; its turns may make things -/
theorem comp_block {elt target iter : Expr} {scope : Scope} {cl : List (Str × Addr)} {pos : Pos} {s₂ : Shared} {I ax : Addr} {items : List Value} {V : Nat → Value → Led → Prop} {B : Nat → (Str → Option Value) → Prop} {RR : Value → Addr → Result → Shared → Prop} {na : Nat}
    (hh : A.handled = none) (hsz : items.length ≤ sizeLine) (hne : ax ≠ I) (hcell : ∀ y ∈ scope.names, y.2 ≠ .cell) (hkind : scope.kind = .function)
    (hit : s₂.heap.IsListIter I ax 0) (hax : (ax, listOf items.toArray na) ∈ news) (hI₀ : h₀.get? I = none) (hIL : L ≠ I)
    (F : Fr h₀ L s₂.heap m) (N : News h₀ L s₂.heap news) (hnI : ∀ p ∈ news, p.1 ≠ I)
    (hgo : ∀ i v (s : Shared) (Q : Unit → Shared → Prop) (E : Value → Shared → Prop), items[i]? = some v → s.heap.IsListIter I ax (i + 1) → Q () s → wpAny (model prog w) A (letOwnedTupleGo target (.ref I) v) Q E s)
    (hassign : ∀ i v C h tk m' (Q : Unit → Shared → Prop) (E : Value → Shared → Prop), items[i]? = some v → News h₀ L h news → h.Ns C m' →
      (∀ h' tk' m'', h'.Ns C m'' → B i m'' → (∀ c o, c ≠ C → h.get? c = some o → h'.get? c = some o) → Q () { s₂ with heap := h', toks := tk' }) → wpAny (model prog w) A (assign target (compEnvC scope cl C env) v) Q E { s₂ with heap := h, toks := tk })
    (turn : ∀ i, i < items.length → ∀ C oC m₂ h tk rest (E' : Value → Shared → Prop), NsObj oC m₂ → B i m₂ → Fr h₀ L h m → News h₀ L h ((C, oC) :: (news ++ rest)) →
      wpAny (model prog w) A (eval elt (compEnvC scope cl C env)) (GEnd h₀ L m { s₂ with heap := h, toks := tk } ((C, oC) :: (news ++ rest)) (V i)) E' { s₂ with heap := h, toks := tk })
    (hRR : ∀ D C h tk m' ys (owns : List Led), Fr h₀ L h m → News h₀ L h ((D, lst ys) :: (owns.flatten ++ news)) → (∀ p ∈ owns.flatten ++ news, p.1 ≠ D) → h.Ns C m' → h₀.get? C = none → C ≠ L → C ≠ D → (∀ p ∈ owns.flatten ++ news, p.1 ≠ C) → ys.length = items.length → owns.length = items.length → (∀ i v o, ys[i]? = some v → owns[i]? = some o → V i v o) →
      RR (.ref D) C (.ok .next) { s₂ with heap := h, toks := tk }) :
    wpAny (model prog w) A (newList []) (fun acc s₃ => wpAny (model prog w) A (newFunctionEnv scope env.globals cl [] env.qual none .none (some env)) (fun cenv s₄ =>
      codeAny (model prog w) A (.compStart (.ListComp elt [⟨target, iter, [], 0⟩] scope pos) 0 (.ref I) acc { cenv with scope := relabel scope env }) (RR acc cenv.locals) s₄) E s₃) E s₂ := by
  refine wpAny_newObj_type (wpAny_newFunctionEnv hcell (by intro y hy; simp at hy) (fun h₁ hns₁ hsb₁ => ?_) hkind)
  dsimp only at hns₁ hsb₁ ⊢
  generalize hH2 : s₂.heap.push { cls := .type "list", dict := none, data := .seq ([] : List Value).toArray } = H2 at hns₁ hsb₁ ⊢
  have hC : H2.objs.size = s₂.heap.objs.size + 1 := by rw [← hH2, Heap.size_push]
  have below : ∀ b, b < s₂.heap.objs.size → b ≠ H2.objs.size ∧ b ≠ s₂.heap.objs.size := fun b hb => ⟨by rw [hC]; exact Nat.ne_of_lt (Nat.lt_succ_of_lt hb), Nat.ne_of_lt hb⟩
  have hDC : s₂.heap.objs.size ≠ H2.objs.size := by rw [hC]; exact Nat.ne_of_lt (Nat.lt_succ_self _)
  have old : ∀ b o, s₂.heap.get? b = some o → h₁.get? b = some o := fun b o e => hsb₁.extBut b o (below b (Heap.lt_size e)).1 (Heap.get?_push_of_some _ (hH2 ▸ Heap.get?_push_of_some _ e))
  have hacc : h₁.get? s₂.heap.objs.size = some (lst []) := hsb₁.extBut _ _ hDC (Heap.get?_push_of_some _ (hH2 ▸ Heap.get?_push_size _ rfl))
  have fresh₀ : ∀ a, s₂.heap.objs.size ≤ a → h₀.get? a = none := fun a ha => by
    cases e : h₀.get? a with
    | none => rfl
    | some o' => exact absurd (Heap.lt_size (F.keep a o' e)) (Nat.not_lt.mpr ha)
  have hIlt : I < s₂.heap.objs.size := by obtain ⟨_, e, _⟩ := hit; exact Heap.lt_size e
  have hD₀ : h₀.get? s₂.heap.objs.size = none := fresh₀ _ (Nat.le_refl _)
  have hC₀ : h₀.get? H2.objs.size = none := fresh₀ _ (by rw [hC]; exact Nat.le_succ _)
  have hLlt : L < s₂.heap.objs.size := F.ns.lt
  have hDL : s₂.heap.objs.size ≠ L := Ne.symm (below L hLlt).2
  have hCL : H2.objs.size ≠ L := Ne.symm (below L hLlt).1
  have hCI : H2.objs.size ≠ I := Ne.symm (below I hIlt).1
  have hDI : s₂.heap.objs.size ≠ I := Ne.symm (below I hIlt).2
  have offN : ∀ p ∈ news, p.1 ≠ H2.objs.size ∧ p.1 ≠ s₂.heap.objs.size := fun p hp => below _ (Heap.lt_size (N p hp).1)
  have oldI : ∀ b o, h₀.get? b = some o → b ≠ I := fun b o e q => by rw [q, hI₀] at e; cases e
  have isl : ∀ h, News h₀ L h news → h.IsList ax items.toArray := fun h n => ⟨_, (n _ hax).1, rfl, _, rfl⟩
  have W := Walks.list (prog := prog) (w := w) hh I ax hne items.toArray
  have loop : ∀ s₃ : Shared, s₃ = { s₂ with heap := h₁, toks := s₂.toks + ([] : List (Str × Value)).length } →
      codeAny (model prog w) A (.compLoop (.ListComp elt [⟨target, iter, [], 0⟩] scope pos) 0 (.ref I) (.ref s₂.heap.objs.size) (compEnvC scope cl H2.objs.size env))
        (RR (.ref s₂.heap.objs.size) H2.objs.size) s₃ := by
    rintro s₃ rfl
    refine kcp_loop
      (fun k s' => ∃ h' tk i ys m' owns, s' = { s₂ with heap := h', toks := tk } ∧ i ≤ items.length ∧ k = items.length + 1 - i ∧ ys.length = i ∧ owns.length = i ∧ h'.IsListIter I ax i ∧ Fr h₀ L h' m ∧ h'.Ns H2.objs.size m' ∧
        News h₀ L h' ((s₂.heap.objs.size, lst ys) :: (owns.flatten ++ news)) ∧ (∀ p ∈ owns.flatten ++ news, p.1 ≠ H2.objs.size ∧ p.1 ≠ s₂.heap.objs.size ∧ p.1 ≠ I) ∧ (∀ j v o, ys[j]? = some v → owns[j]? = some o → V j v o)) ?_ (items.length + 1)
      ⟨h₁, _, 0, [], _, [], rfl, Nat.zero_le _, rfl, rfl, rfl, hit.at fun o e => old _ o e, F.keeps old, hns₁, fun p hp => ?_, fun p hp => ⟨(offN p hp).1, (offN p hp).2, hnI p hp⟩, fun j v o e => by simp at e⟩
    · rintro k s' ⟨h', tk, i, ys, m', owns, rfl, hi, rfl, hyl, hol, hit', F', hn', N', off', hV⟩
      have Nn : News h₀ L h' news := fun p hp => N' p (.tail _ (List.mem_append_right _ hp))
      by_cases hlt : i < items.length
      · refine W.item i _ _ _ (by simpa using hlt) ⟨hit', isl _ Nn⟩ fun v h₂ tk₂ hP hst₂ hk₂ => ?_
        have hv : items[i]? = some v := by simpa using hP
        refine hgo i v _ _ _ hv hst₂.1 ?_
        have up₂ : ∀ c o, c ≠ I → h'.get? c = some o → h₂.get? c = some o := fun c o hc e => hk₂ c o (by simpa using hc) e
        have Nn₂ : News h₀ L h₂ news := fun p hp => ⟨up₂ _ _ (hnI p hp) (Nn p hp).1, (Nn p hp).2⟩
        refine hassign i v H2.objs.size h₂ tk₂ m' _ _ hv Nn₂ (hn'.at' fun o e => up₂ _ o hCI e) fun h₄ tk₄ m₄ hn₄ hB hs₄ => ?_
        have up : ∀ c o, c ≠ I → c ≠ H2.objs.size → h'.get? c = some o → h₄.get? c = some o := fun c o h1 h2 e => hs₄ c o h2 (up₂ c o h1 e)
        obtain ⟨oI, heI, hoI⟩ := (hst₂.1.at fun o e => hs₄ I o (Ne.symm hCI) e : h₄.IsListIter I ax (i + 1))
        obtain ⟨oC, heC, hoC⟩ := ns_obj hn₄
        have F₄ : Fr h₀ L h₄ m := ⟨F'.ns.at' fun o e => up _ o hIL (Ne.symm hCL) e, fun c o e => up c o (oldI c o e) (fun q => by rw [q, hC₀] at e; cases e) (F'.keep c o e), F'.above⟩
        have N₄ : News h₀ L h₄ ((H2.objs.size, oC) :: (news ++ (I, oI) :: (s₂.heap.objs.size, lst ys) :: owns.flatten)) := fun q hq => by
          rcases List.mem_cons.mp hq with rfl | hq
          · exact ⟨heC, hCL, hC₀⟩
          · rcases List.mem_append.mp hq with hq | hq
            · have o := off' q (List.mem_append_right _ hq)
              exact ⟨up _ _ o.2.2 o.1 (Nn q hq).1, (Nn q hq).2⟩
            · rcases List.mem_cons.mp hq with rfl | hq
              · exact ⟨heI, Ne.symm hIL, hI₀⟩
              · rcases List.mem_cons.mp hq with rfl | hq
                · have z := N' _ List.mem_cons_self
                  exact ⟨up _ _ hDI hDC z.1, z.2⟩
                · have o := off' q (List.mem_append_left _ hq)
                  have z := N' q (.tail _ (List.mem_append_left _ hq))
                  exact ⟨up _ _ o.2.2 o.1 z.1, z.2⟩
        refine wpAny_mono (turn i hlt H2.objs.size oC m₄ h₄ tk₄ _ _ hoC hB F₄ N₄) (fun v s₅ h₅ => ?_) fun _ _ e => e
        obtain ⟨h₅, tk₅, own, rfl, F₅, N₅, hfr, hv⟩ := h₅
        have N₅' : ∀ p ∈ (H2.objs.size, oC) :: (news ++ (I, oI) :: (s₂.heap.objs.size, lst ys) :: owns.flatten), h₅.get? p.1 = some p.2 ∧ p.1 ≠ L ∧ h₀.get? p.1 = none := fun p hp => N₅ p (List.mem_append_right _ hp)
        have zC := (N₅' _ List.mem_cons_self).1
        have zI := (N₅' (I, oI) (.tail _ (List.mem_append_right _ (.head _)))).1
        have zD := (N₅' (s₂.heap.objs.size, lst ys) (.tail _ (List.mem_append_right _ (.tail _ (.head _))))).1
        have frC : ∀ p ∈ own, p.1 ≠ H2.objs.size ∧ p.1 ≠ s₂.heap.objs.size ∧ p.1 ≠ I := fun p hp => by
          exact ⟨hfr p hp (H2.objs.size, oC) (.head _), hfr p hp (s₂.heap.objs.size, lst ys) (.tail _ (List.mem_append_right _ (.tail _ (.head _)))), hfr p hp (I, oI) (.tail _ (List.mem_append_right _ (.head _)))⟩
        refine append_at (hsz := by show ys.toArray.size ≤ sizeLine; rw [List.size_toArray, hyl]; exact Nat.le_trans hi hsz) zD fun h₆ hs₆ hD₆ => ?_
        have offn : ∀ p ∈ (owns ++ [own]).flatten ++ news, p.1 ≠ H2.objs.size ∧ p.1 ≠ s₂.heap.objs.size ∧ p.1 ≠ I := fun p hp => by
          rcases List.mem_append.mp hp with hp | hp
          · rw [List.flatten_append] at hp
            rcases List.mem_append.mp hp with hp | hp
            · exact off' p (List.mem_append_left _ hp)
            · exact frC p (by simpa using hp)
          · exact off' p (List.mem_append_right _ hp)
        refine ⟨items.length + 1 - (i + 1), by omega, h₆, tk₅, i + 1, ys ++ [v], _, owns ++ [own], rfl, hlt, rfl, by rw [List.length_append, List.length_singleton, hyl], by rw [List.length_append, List.length_singleton, hol], ⟨oI, hs₆.extBut _ _ (Ne.symm hDI) zI, hoI⟩, F₅.change hs₆ hDL hD₀,
          (hoC.ns zC).sameBut hs₆ (Ne.symm hDC), fun q hq => ?_, offn, fun j v' o' e e' => ?_⟩
        · rcases List.mem_cons.mp hq with rfl | hq
          · exact ⟨hD₆.trans (congrArg some (lst_snoc ys v)), hDL, hD₀⟩
          · have z : h₅.get? q.1 = some q.2 ∧ q.1 ≠ L ∧ h₀.get? q.1 = none := by
              rcases List.mem_append.mp hq with hq | hq
              · rw [List.flatten_append] at hq
                rcases List.mem_append.mp hq with hq | hq
                · exact N₅' q (.tail _ (List.mem_append_right _ (.tail _ (.tail _ hq))))
                · exact N₅ q (List.mem_append_left _ (by simpa using hq))
              · exact N₅' q (.tail _ (List.mem_append_left _ hq))
            exact ⟨hs₆.extBut _ _ (offn q hq).2.1 z.1, z.2⟩
        · rcases Nat.lt_or_ge j ys.length with hl | hl
          · rw [List.getElem?_append_left hl] at e
            rw [List.getElem?_append_left (by omega)] at e'
            exact hV j v' o' e e'
          · rw [List.getElem?_append_right hl] at e
            rw [List.getElem?_append_right (by omega)] at e'
            rcases Nat.eq_zero_or_pos (j - ys.length) with h | h
            · rw [h] at e
              rw [show j - owns.length = 0 from by omega] at e'
              cases e
              cases e'
              have : j = i := by omega
              exact this ▸ hv
            · rw [List.getElem?_eq_none (by show 1 ≤ j - ys.length; omega)] at e
              cases e
      · obtain rfl : i = items.length := Nat.le_antisymm hi (Nat.not_lt.mp hlt)
        refine W.done _ _ _ ⟨by simpa using hit', isl _ Nn⟩ fun h₂ tk₂ hk₂ => ?_
        have up₂ : ∀ c o, c ≠ I → h'.get? c = some o → h₂.get? c = some o := fun c o hc e => hk₂ c o (by simpa using hc) e
        refine hRR _ _ h₂ tk₂ _ ys owns ⟨F'.ns.at' fun o e => up₂ _ o hIL e, fun c o e => up₂ c o (oldI c o e) (F'.keep c o e), F'.above⟩ (fun p hp => ⟨up₂ _ _ ?_ (N' p hp).1, (N' p hp).2⟩) (fun p hp => (off' p hp).2.1) (hn'.at' fun o e => up₂ _ o hCI e) hC₀ hCL (Ne.symm hDC) (fun p hp => (off' p hp).1) hyl hol hV
        rcases List.mem_cons.mp hp with rfl | hp
        · exact hDI
        · exact (off' p hp).2.2
    · rcases List.mem_cons.mp hp with rfl | hp
      · exact ⟨hacc, hDL, hD₀⟩
      · have hp : p ∈ news := by simpa using hp
        exact ⟨old _ _ (N p hp).1, (N p hp).2⟩
  have Nn₁ : News h₀ L h₁ news := fun p hp => ⟨old _ _ (N p hp).1, (N p hp).2⟩
  exact codeAny_compStart_list (loop _ rfl) (W.self 0 _ _ _ ⟨hit.at fun o e => old _ o e, isl _ Nn₁⟩ (loop _ rfl))
end
section
open LCg
variable {prog : Program} {w : World} {A : Around} {E : Value → Shared → Prop} {s : Shared} {h₀ : Heap} {L : Addr} {m : Str → Option Value} {env : Env}
def GSrc (prog : Program) (w : World) (A : Around) (h₀ : Heap) (L : Addr) (m : Str → Option Value) (env : Env) (elt target : Expr) (scope : Scope) (cl : List (Str × Addr)) (y : Str) (Q : Flow → Shared → Prop) (xv : Value) (s₁ : Shared) : Prop :=
  ∃ (ax : Addr) (items : List Value) (na : Nat) (news : Led) (V : Nat → Value → Led → Prop) (B : Nat → (Str → Option Value) → Prop), xv = .ref ax ∧ A.handled = none ∧ Fr h₀ L s₁.heap m ∧ News h₀ L s₁.heap news ∧ (ax, listOf items.toArray na) ∈ news ∧ items.length ≤ sizeLine ∧
    (∀ i v I (s : Shared) (Q : Unit → Shared → Prop) (E : Value → Shared → Prop), items[i]? = some v → s.heap.IsListIter I ax (i + 1) → Q () s → wpAny (model prog w) A (letOwnedTupleGo target (.ref I) v) Q E s) ∧
    (∀ i v C h tk m' (Q : Unit → Shared → Prop) (E : Value → Shared → Prop), items[i]? = some v → News h₀ L h news → h.Ns C m' →
      (∀ h' tk' m'', h'.Ns C m'' → B i m'' → (∀ c o, c ≠ C → h.get? c = some o → h'.get? c = some o) → Q () { s₁ with heap := h', toks := tk' }) → wpAny (model prog w) A (assign target (compEnvC scope cl C env) v) Q E { s₁ with heap := h, toks := tk }) ∧
    (∀ i, i < items.length → ∀ C oC m₂ h tk rest (E' : Value → Shared → Prop), NsObj oC m₂ → B i m₂ → Fr h₀ L h m → News h₀ L h ((C, oC) :: (news ++ rest)) →
      wpAny (model prog w) A (eval elt (compEnvC scope cl C env)) (GEnd h₀ L m { s₁ with heap := h, toks := tk } ((C, oC) :: (news ++ rest)) (V i)) E' { s₁ with heap := h, toks := tk }) ∧
    ∀ D ys (owns : List Led) h tk, Fr h₀ L h (fun z => if z = y then some (.ref D) else m z) → News h₀ L h ((D, lst ys) :: (owns.flatten ++ news)) → ys.length = items.length → owns.length = items.length → (∀ i v o, ys[i]? = some v → owns[i]? = some o → V i v o) → Q .next { s₁ with heap := h, toks := tk }
theorem comp_assign {elt target iter : Expr} {y : Str} {py : Pos} {scope : Scope} {cl : List (Str × Addr)} {pos spos : Pos} {Q : Flow → Shared → Prop} (_F₀ : Fr h₀ L s.heap m) (hLe : env.locals = L)
    (hsw : swapsWith (.ListComp elt [⟨target, iter, [], 0⟩] scope pos) (some (.Name y py)) spos.line env = pure true)
    (hclos : closureFor scope env = pure cl) (hcell : ∀ z ∈ scope.names, z.2 ≠ .cell) (hkind : scope.kind = .function)
    (hnames : ∀ z ∈ scope.names, z.2 = .local → scope.names.lookup z.1 = some .local)
    (hy : env.kindOf y = some .local) (hp : (env.scope.kind == .class || (env.scope.kind == .module && env.locals != env.globals)) = false)
    (h : wpAny (model prog w) A (eval iter env) (GSrc prog w A h₀ L m env elt target scope cl y Q) E s)
    (hs : ∀ x, foldedSetIterable iter env x = pure x := by intro _; rfl) :
    wpAny (model prog w) A (exec (.Assign [.Name y py] (.ListComp elt [⟨target, iter, [], 0⟩] scope pos) spos) env) Q E s := by
  subst hLe
  rw [exec_Assign_Name_used _ _ _ _ hsw]
  refine wpAny_bind (wpAny_standAt (wpAny_bind ?_))
  show wpAny _ A (do let _ ← comprehension (.ListComp elt [⟨target, iter, [], 0⟩] scope pos) scope env _ (newList []) false (eval iter env) (some (assign (.Name y py) env))) _ _ s
  refine wpAny_bind (wpAny_mono (wpAny_comprehension_free (use := some (assign (.Name y py) env)) (Q := fun _ s' => Q .next s') rfl hs hclos hkind hnames
    (wpAny_mono h (fun xv s₁ h₁ => ?_) fun _ _ e => e)) (fun _ s' hq => wpAny_pure (wpAny_pure hq)) fun _ _ e => e)
  obtain ⟨ax, items, na, news, V, B, rfl, hh, F, N, hax, hsz, hgo, hassign, turn, fin⟩ := h₁
  have hl : s₁.heap.IsList ax items.toArray := ⟨_, (N _ hax).1, rfl, _, rfl⟩
  have hlt : ax < s₁.heap.objs.size := Heap.lt_size (N _ hax).1
  refine wpAny_pyIter_list hl ?_
  have up : ∀ b o, s₁.heap.get? b = some o → (s₁.heap.push { cls := .type "list_iterator", data := .fields #[.ref ax, .int 0 0] }).get? b = some o := fun b o e => Heap.get?_push_of_some _ e
  refine comp_block (V := V) (B := B) hh hsz (Nat.ne_of_lt hlt) hcell hkind ⟨_, Heap.get?_push_size _ rfl, rfl, rfl⟩ hax (next_is_new F) (Nat.ne_of_lt F.ns.lt) (F.keeps up) (N.grown up) (fun p hp => Nat.ne_of_lt (Heap.lt_size (N p hp).1))
    (fun i v s Q E => hgo i v _ s Q E) hassign turn ?_
  intro D C h' tk m' ys owns F' N' offD hn hC₀ hCL hCD offC hyl hol hV
  show wpAny _ A (assign (.Name y py) env (.ref D)) _ _ _
  refine wpAny_assign_Name (wpAny_storeName_local hy F'.ns (fun h₂ hn₂ hs₂ => ?_) hp)
  have hL₀ : h₀.get? env.locals = none := Heap.get?_none_of_le F'.above
  have F₂ : Fr h₀ env.locals h₂ (fun z => if z = y then some (.ref D) else m z) := ⟨hn₂, fun b o e => hs₂.extBut b o (fun q => by rw [q, hL₀] at e; cases e) (F'.keep b o e), F'.above⟩
  refine ⟨m', hn.sameBut hs₂ hCL, fun h'' hs'' => fin D ys owns h'' _ (F₂.change hs'' hCL hC₀) (fun p hp => ?_) hyl hol hV⟩
  have z : h₂.get? p.1 = some p.2 := hs₂.extBut _ _ (N' p hp).2.1 (N' p hp).1
  refine ⟨hs''.extBut _ _ ?_ z, (N' p hp).2⟩
  rcases List.mem_cons.mp hp with rfl | hp
  · exact Ne.symm hCD
  · exact offC p hp
structure PairZ where
  p : Nat
  t : Nat
  b : Nat
  u : Tok
  v : Tok
abbrev PairZ.ent (z : PairZ) : Addr × Obj := (z.p, tup2 z.t z.u z.b z.v)
/-- over a list of pairs -/
theorem src_pairs {elt : Expr} {a b y : Str} {pa pb tp : Pos} {kk : Nat} {scope : Scope} {cl : List (Str × Addr)} {Q : Flow → Shared → Prop} {ax na : Nat} {news : Led} {zs : List PairZ} {s₁ : Shared} (V : Nat → Value → Led → Prop)
    (hh : A.handled = none) (F : Fr h₀ L s₁.heap m) (N : News h₀ L s₁.heap news) (hax : (ax, listOf (zs.map fun z => Value.ref z.p).toArray na) ∈ news) (hz : ∀ z ∈ zs, z.ent ∈ news) (hsz : zs.length ≤ 1000)
    (hxa : scope.names.lookup a = some .local) (hxb : scope.names.lookup b = some .local) (hab : ¬ a = b) (hkind : scope.kind = .function)
    (turn : ∀ i z, zs[i]? = some z → ∀ C oC m₂ h tk rest (E' : Value → Shared → Prop), NsObj oC m₂ → m₂ a = some (.int z.t z.u) → m₂ b = some (.int z.b z.v) → Fr h₀ L h m → News h₀ L h ((C, oC) :: (news ++ rest)) →
      wpAny (model prog w) A (eval elt (compEnvC scope cl C env)) (GEnd h₀ L m { s₁ with heap := h, toks := tk } ((C, oC) :: (news ++ rest)) (V i)) E' { s₁ with heap := h, toks := tk })
    (fin : ∀ D ys (owns : List Led) h tk, Fr h₀ L h (fun z => if z = y then some (.ref D) else m z) → News h₀ L h ((D, lst ys) :: (owns.flatten ++ news)) → ys.length = zs.length → owns.length = zs.length → (∀ i v o, ys[i]? = some v → owns[i]? = some o → V i v o) → Q .next { s₁ with heap := h, toks := tk }) :
    GSrc prog w A h₀ L m env elt (.Tuple [.Name a pa, .Name b pb] kk tp) scope cl y Q (.ref ax) s₁ := by
  have hat : ∀ (i : Nat) (v : Value), (zs.map fun z => Value.ref z.p)[i]? = some v → ∃ z : PairZ, zs[i]? = some z ∧ v = Value.ref z.p := fun i v e => by
    rw [List.getElem?_map, Option.map_eq_some_iff] at e
    obtain ⟨z, e1, e2⟩ := e
    exact ⟨z, e1, e2.symm⟩
  refine ⟨ax, _, na, news, V, fun i m => ∃ z, zs[i]? = some z ∧ m a = some (.int z.t z.u) ∧ m b = some (.int z.b z.v), rfl, hh, F, N, hax, by rw [List.length_map, sizeLine_eq]; omega, ?_, ?_, ?_, fun D ys owns h tk F' N' h1 h2 => fin D ys owns h tk F' N' (by rw [h1, List.length_map]) (by rw [h2, List.length_map])⟩
  · intro i v I s Q' E' e hit hq
    obtain ⟨z, _, rfl⟩ := hat i v e
    exact wpAny_letOwnedTupleGo_listiter hit hq
  · intro i v C h tk m' Q' E' e n hn k
    obtain ⟨z, ez, rfl⟩ := hat i v e
    have zz := n _ (hz z (List.mem_of_getElem? ez))
    refine kcp_assign (env := compEnvC scope cl C env) hh ⟨_, zz.1, rfl, 0, rfl⟩ (lookup_relabel_local hxa) (lookup_relabel_local hxb) (by simp [compEnvC, relabel, hkind]) hn fun h' tk' hn' hs' => ?_
    exact k h' tk' _ hn' ⟨z, ez, by simp [hab], by simp⟩ fun c o hc e => hs' c o hc e
  · intro i hi C oC m₂ h tk rest E' hC ⟨z, ez, ea, eb⟩ F' N'
    exact turn i z ez C oC m₂ h tk rest E' hC ea eb F' N'
/-- over a list, one name -/
theorem src_names {elt : Expr} {x y : Str} {px : Pos} {scope : Scope} {cl : List (Str × Addr)} {Q : Flow → Shared → Prop} {ax na : Nat} {news : Led} {items : List Value} {s₁ : Shared} (V : Nat → Value → Led → Prop)
    (hh : A.handled = none) (F : Fr h₀ L s₁.heap m) (N : News h₀ L s₁.heap news) (hax : (ax, listOf items.toArray na) ∈ news) (hsz : items.length ≤ 1000)
    (hx : scope.names.lookup x = some .local) (hkind : scope.kind = .function)
    (turn : ∀ i v, items[i]? = some v → ∀ C oC m₂ h tk rest (E' : Value → Shared → Prop), NsObj oC m₂ → m₂ x = some v → Fr h₀ L h m → News h₀ L h ((C, oC) :: (news ++ rest)) →
      wpAny (model prog w) A (eval elt (compEnvC scope cl C env)) (GEnd h₀ L m { s₁ with heap := h, toks := tk } ((C, oC) :: (news ++ rest)) (V i)) E' { s₁ with heap := h, toks := tk })
    (fin : ∀ D ys (owns : List Led) h tk, Fr h₀ L h (fun z => if z = y then some (.ref D) else m z) → News h₀ L h ((D, lst ys) :: (owns.flatten ++ news)) → ys.length = items.length → owns.length = items.length → (∀ i v o, ys[i]? = some v → owns[i]? = some o → V i v o) → Q .next { s₁ with heap := h, toks := tk }) :
    GSrc prog w A h₀ L m env elt (.Name x px) scope cl y Q (.ref ax) s₁ := by
  refine ⟨ax, items, na, news, V, fun i m => ∃ v, items[i]? = some v ∧ m x = some v, rfl, hh, F, N, hax, by rw [sizeLine_eq]; omega, ?_, ?_, ?_, fin⟩
  · intro i v I s Q' E' e hit hq
    show wpAny _ _ (pure ()) _ _ _
    exact wpAny_pure hq
  · intro i v C h tk m' Q' E' e n hn k
    refine wpAny_assign_Name (wpAny_storeName_local (lookup_relabel_local hx) hn (fun h' hn' hs' => ?_) (by simp [compEnvC, relabel, hkind]))
    exact k h' _ _ hn' ⟨v, e, by simp⟩ fun c o hc e => hs'.extBut c o hc e
  · intro i hi C oC m₂ h tk rest E' hC ⟨v, ev, ex⟩ F' N'
    exact turn i v ev C oC m₂ h tk rest E' hC ex F' N'
end
theorem make_lead {w : World} {mean : ExcName → Option Value} {mg mb : Str → Option Value} {t b : Nat} {tk0 : Tok} {news : Led} (ht : t ≤ 3) (hb : b ≤ 5)
  : ∀ {dp un : Nat} {gd : Option (List Code)} {cn : Str} {cs : Scope} {a : Addr} {ccd : Value} {cl : List (Str × Addr)} {outer : List Env} {A₀ : Around} {base h₀ : Heap} {L : Addr} {m : Str → Option Value} {s : Shared} {Q E : Value → Shared → Prop},
    Below A₀ base outer h₀ → Fr h₀ L s.heap m → (hd.heap_39 w.params).In h₀ → News h₀ L s.heap news → Top hd.view_39 (looseW hd.view_39 [Str.ofString "Whitespace"]) mean mg mb h₀ → cs.kind = .function → dp + 20 < recursionLimit → un + 200 < cLine →
    (∀ (z : Lead) h' tk', z.t = t → z.b = b → Fr h₀ L h' m → News h₀ L h' (z.led w ++ news) → (∀ p ∈ z.led w, ∀ q ∈ news, p.1 ≠ q.1) → Q (.ref z.x) { s with heap := h', toks := tk' }) →
    wpAny (model PySem.Challenge.rw_qj0008_01.row.prog w) (ktrTop dp un gd cn cs L a ccd cl outer) (call (.ref 111) [.str (tbStr t b) tk0]) Q E s := by
  k_fill
  intro dp un gd cn cs a ccd cl outer A₀ base h₀ L m s Q E B F X N T hk hdp hu ret
  refine call_cls F X N (by k_dflt k_is) (fI := 66) (by k_dflt k_is) (by k_dflt k_is) (fun x dx h' F' N' l1 l2 => ?_)
  have lx : ∀ q ∈ news, q.1 ≠ x ∧ q.1 ≠ dx := fun q hq => ⟨Nat.ne_of_lt (Nat.lt_trans (l1 q hq) l2), Nat.ne_of_lt (l1 q hq)⟩
  k_dflt (refine' CodeSpec.code (init_spec ht hb) ?uB ?uF ?uX ?uN ?uT ?uk ?uin ?ud ?uu ?_)
  case uB => k_asm
  case uF => k_asm
  case uX => k_asm
  case uN => exact N'
  case uT => k_asm
  case uk => exact hk
  case uin => exact (List.forall_mem_cons.mpr ⟨by k_mem, (List.forall_mem_cons.mpr ⟨by k_mem, (List.forall_mem_nil _)⟩)⟩)
  case ud => (show dp + 1 + 4 < recursionLimit; omega)
  case uu => (show un + 1 + 60 < cLine; omega)
  intro r9 sub9 h9 tk9 F9 N9 K9 f9 P9
  obtain ⟨e9, z, ex, edx, et, eb, e8⟩ := P9
  subst e9 e8 ex edx
  have nn : News h₀ L h9 (z.led w ++ news) := news_on N' N9 K9 (fun p hp => .tail _ (.tail _ hp)) (fun p hp => by simpa using (lx p hp).2)
  refine ⟨rfl, ?_⟩
  refine ret z h9 tk9 et eb F9 nn fun p hp q hq => ?_
  have hq2 := (N' q (.tail _ (.tail _ hq))).1
  have nx : z.nx ≠ z.dx := news_ne N9 (List.Mem.tail _ (List.Mem.tail _ (List.Mem.head _))) (List.Mem.tail _ (List.Mem.head _)) (by simp)
  have cx : z.cx ≠ z.dx := news_ne N9 (List.Mem.tail _ (List.Mem.tail _ (List.Mem.tail _ (List.Mem.head _)))) (List.Mem.tail _ (List.Mem.head _)) (by simp)
  have fr : ∀ (y : Addr) (o : Obj), (y, o) ∈ z.led w → o.cls = .type "tuple" → y ≠ z.dx → y ≠ q.1 := fun y o hy ho hd e => by
    rcases f9 (y, o) hy with h | h | h
    · exact hd (by simpa using h)
    · simp only [List.mem_cons, List.not_mem_nil, or_false, Prod.mk.injEq] at h
      rcases h with ⟨_, h⟩ | ⟨_, h⟩ <;> (rw [h] at ho; simp at ho)
    · have h' : h'.get? y = none := h
      rw [e, hq2] at h'
      cases h'
  simp only [Lead.led, List.mem_cons, List.not_mem_nil, or_false] at hp
  rcases hp with rfl | rfl | rfl | rfl
  · exact Ne.symm (lx q hq).1
  · exact Ne.symm (lx q hq).2
  · exact fr z.nx _ (List.Mem.tail _ (List.Mem.tail _ (List.Mem.head _))) rfl nx
  · exact fr z.cx _ (List.Mem.tail _ (List.Mem.tail _ (List.Mem.tail _ (List.Mem.head _)))) rfl cx
theorem mul_tabs : ∀ n < 9, Txt.mul (Str.ofString "\t") ((n : Nat) : Int) = oneS 9 n := by decide +kernel
theorem mul_blanks : ∀ n < 9, Txt.mul (Str.ofString " ") ((n : Nat) : Int) = oneS 32 n := by decide +kernel
theorem mul_caps : ∀ n < 9, Txt.mul (Str.ofString "A") ((n : Nat) : Int) = oneS 65 n := by decide +kernel
theorem mul_smalls : ∀ n < 9, Txt.mul (Str.ofString "a") ((n : Nat) : Int) = oneS 97 n := by decide +kernel
theorem one_letter : (Str.ofString "\t").length = 1 ∧ (Str.ofString " ").length = 1 ∧ (Str.ofString "A").length = 1 ∧ (Str.ofString "a").length = 1 := by decide +kernel
section
variable {prog : Program} {w : World} {A : Around} {E : Value → Shared → Prop} {s : Shared} {t u : Tok} {Q : Value → Shared → Prop} {x y : Str} {n : Nat}
theorem mul_letter (e : Txt.mul x ((n : Nat) : Int) = y) (hx : x.length = 1) (hn : n < 9) (h : ∀ t' k, Q (.str y t') { s with toks := k }) : wpAny (model prog w) A (binaryOp .Mult (.str x t) (.int (n : Int) u)) Q E s :=
  SB.mul (mulOk_of 16 1048576 (by omega) (by omega) (by omega) (by decide) (by decide)) (fun t' k => e ▸ h t' k)
theorem add_tb {a b : Nat} (ha : a < 9) (hb : b < 9) (h : ∀ t' k, Q (.str (tbStr a b) t') { s with toks := k }) : wpAny (model prog w) A (binaryOp .Add (.str (oneS 9 a) t) (.str (oneS 32 b) u)) Q E s := by
  have e : oneS 9 a ++ oneS 32 b = tbStr a b := by
    apply Str.ext'
    simp [oneS, tbStr, Str.cps_append]
  exact add_str (fun t' k => e ▸ h t' k) (by rw [one_len, one_len, sizeLine_eq]; omega)
theorem add_wa {a b : Nat} (ha : a < 9) (hb : b < 9) (h : ∀ t' k, Q (.str (waStr a b) t') { s with toks := k }) : wpAny (model prog w) A (binaryOp .Add (.str (oneS 65 a) t) (.str (oneS 97 b) u)) Q E s := by
  have e : oneS 65 a ++ oneS 97 b = waStr a b := by
    apply Str.ext'
    simp [oneS, waStr, Str.cps_append]
  exact add_str (fun t' k => e ▸ h t' k) (by rw [one_len, one_len, sizeLine_eq]; omega)
end
theorem CodeSpecS.use {w : World} {mean : ExcName → Option Value} {mg mb : Str → Option Value} {f sl : Nat} {vs : List Value} {news : Led} {d u : Nat} {Post : Value → Led → Prop}
  {dp un : Nat} {gd : Option (List Code)} {cn : Str} {cs : Scope} {a : Addr} {ccd : Value} {cl : List (Str × Addr)} {outer : List Env} {A₀ : Around} {base h₀ : Heap} {L : Addr} {m : Str → Option Value} {s : Shared} {Q E : Value → Shared → Prop} (C : CodeSpecS w mean mg mb f sl vs d u Post) (hsl : h₀.IsList sl vs.toArray)
    (B : Below A₀ base outer h₀) (F : Fr h₀ L s.heap m) (X : (hd.heap_39 w.params).In h₀) (_N : News h₀ L s.heap news) (T : Top hd.view_39 (looseW hd.view_39 [Str.ofString "Whitespace"]) mean mg mb h₀) (hk : cs.kind = .function) (hd : dp + d < recursionLimit) (hu : un + u < cLine)
    (ret : Ret h₀ L m s [] [] Post Q) : wpAny (model PySem.Challenge.rw_qj0008_01.row.prog w) (ktrTop dp un gd cn cs L a ccd cl outer) (call (.ref f) [.ref sl]) Q E s :=
  wpAny_call (C dp un gd cn cs a ccd cl outer A₀ base h₀ L m s _ hsl B F X (fun _ h => nomatch h) T hk hd hu ret)
section
variable {w : World} {mean : ExcName → Option Value} {mg mb : Str → Option Value} {f : Addr} {vs : List Value} {sub news : Led} {d u : Nat} {Post : Value → Led → Prop}
  {dp un : Nat} {gd : Option (List Code)} {cn : Str} {cs : Scope} {a : Addr} {ccd : Value} {cl : List (Str × Addr)} {outer : List Env} {A₀ : Around} {base h₀ : Heap} {L : Addr} {m : Str → Option Value} {s : Shared}
/-- a call that changes nothing that stood, and hands back new things -/
theorem CodeSpec.use0 {Q E : Value → Shared → Prop} (C : CodeSpec w mean mg mb f vs sub [] d u Post)
    (B : Below A₀ base outer h₀) (F : Fr h₀ L s.heap m) (X : (hd.heap_39 w.params).In h₀) (N : News h₀ L s.heap news) (T : Top hd.view_39 (looseW hd.view_39 [Str.ofString "Whitespace"]) mean mg mb h₀) (hk : cs.kind = .function) (hin : ∀ p ∈ sub, p ∈ news) (hd : dp + d < recursionLimit) (hu : un + u < cLine)
    (ret : ∀ (r : Value) (l : Led) (h' : Heap) (tk' : Nat), Fr h₀ L h' m → News h₀ L h' (l ++ news) → (∀ p ∈ l, p ∈ sub ∨ ∀ q ∈ news, p.1 ≠ q.1) → Post r l → Q r { s with heap := h', toks := tk' }) : wpAny (model PySem.Challenge.rw_qj0008_01.row.prog w) (ktrTop dp un gd cn cs L a ccd cl outer) (call (.ref f) vs) Q E s :=
  C.use B F X N T hk hin hd hu (fun r sub' h' tk' F' N' K' f' P' => ret r sub' h' tk' F' (news_on N N' K' (fun _ h => h) (fun p _ q => nomatch q)) (fun p hp => by
    rcases f' p hp with h | h | h
    · exact nomatch h
    · exact .inl h
    · refine .inr fun q hq e => ?_
      rw [e, (N q hq).1] at h
      cases h) P')
end
theorem lead_fin {w : World} {a b c d e : PairZ} {ys : List Value} {owns : List Led} (h1 : ys.length = 5) (h2 : owns.length = 5)
    (hV : ∀ (i : Nat) (v : Value) (o : Led), ys[i]? = some v → owns[i]? = some o → ∃ (z9 : Lead) (z : PairZ), [a, b, c, d, e][i]? = some z ∧ v = .ref z9.x ∧ o = z9.led w ∧ z9.t = z.t ∧ z9.b = z.b) :
    ∃ z0 z1 z2 z3 z4 : Lead, ys = [Value.ref z0.x, Value.ref z1.x, Value.ref z2.x, Value.ref z3.x, Value.ref z4.x] ∧ owns = [z0.led w, z1.led w, z2.led w, z3.led w, z4.led w] ∧ (z0.t = a.t ∧ z0.b = a.b) ∧ (z1.t = b.t ∧ z1.b = b.b) ∧ (z2.t = c.t ∧ z2.b = c.b) ∧ (z3.t = d.t ∧ z3.b = d.b) ∧ (z4.t = e.t ∧ z4.b = e.b) := by
  obtain ⟨y0, y1, y2, y3, y4, rfl⟩ := five ys h1
  obtain ⟨o0, o1, o2, o3, o4, rfl⟩ := five owns h2
  obtain ⟨z0, _, q0, rfl, rfl, r0⟩ := hV 0 _ _ rfl rfl
  obtain ⟨z1, _, q1, rfl, rfl, r1⟩ := hV 1 _ _ rfl rfl
  obtain ⟨z2, _, q2, rfl, rfl, r2⟩ := hV 2 _ _ rfl rfl
  obtain ⟨z3, _, q3, rfl, rfl, r3⟩ := hV 3 _ _ rfl rfl
  obtain ⟨z4, _, q4, rfl, rfl, r4⟩ := hV 4 _ _ rfl rfl
  cases q0; cases q1; cases q2; cases q3; cases q4
  exact ⟨z0, z1, z2, z3, z4, rfl, rfl, r0, r1, r2, r3, r4⟩
theorem word_fin {a b c d e : PairZ} {ys : List Value} {owns : List Led} (h1 : ys.length = 5) (h2 : owns.length = 5)
    (hV : ∀ (i : Nat) (v : Value) (o : Led), ys[i]? = some v → owns[i]? = some o → ∃ (z : PairZ) (k : Tok), [a, b, c, d, e][i]? = some z ∧ v = .str (waStr z.t z.b) k ∧ o = []) :
    ∃ k0 k1 k2 k3 k4 : Tok, ys = [Value.str (waStr a.t a.b) k0, Value.str (waStr b.t b.b) k1, Value.str (waStr c.t c.b) k2, Value.str (waStr d.t d.b) k3, Value.str (waStr e.t e.b) k4] ∧ owns = [[], [], [], [], []] := by
  obtain ⟨y0, y1, y2, y3, y4, rfl⟩ := five ys h1
  obtain ⟨o0, o1, o2, o3, o4, rfl⟩ := five owns h2
  obtain ⟨_, k0, q0, rfl, rfl⟩ := hV 0 _ _ rfl rfl
  obtain ⟨_, k1, q1, rfl, rfl⟩ := hV 1 _ _ rfl rfl
  obtain ⟨_, k2, q2, rfl, rfl⟩ := hV 2 _ _ rfl rfl
  obtain ⟨_, k3, q3, rfl, rfl⟩ := hV 3 _ _ rfl rfl
  obtain ⟨_, k4, q4, rfl, rfl⟩ := hV 4 _ _ rfl rfl
  cases q0; cases q1; cases q2; cases q3; cases q4
  exact ⟨k0, k1, k2, k3, k4, rfl, rfl⟩
abbrev markOf (z : Lead) (q1 q2 q3 : Tok) : Obj := listOf #[.int (2 * (z.b + 1 * z.t)) q1, .int (z.b + 2 * z.t) q2, .int (3 * (z.b + 1 * z.t) - (z.b + 2 * z.t)) q3] 0
theorem mark_fin {z0 z1 z2 z3 z4 : Lead} {ys : List Value} {owns : List Led} (h1 : ys.length = 5) (h2 : owns.length = 5)
    (hV : ∀ (i : Nat) (v : Value) (o : Led), ys[i]? = some v → owns[i]? = some o → ∃ (z : Lead) (a : Nat) (q1 q2 q3 : Tok), [z0, z1, z2, z3, z4][i]? = some z ∧ v = .ref a ∧ o = [(a, markOf z q1 q2 q3)]) :
    ∃ (a0 a1 a2 a3 a4 : Nat) (q0 q1 q2 r0 r1 r2 s0 s1 s2 t0 t1 t2 u0 u1 u2 : Tok), ys = [Value.ref a0, Value.ref a1, Value.ref a2, Value.ref a3, Value.ref a4] ∧ owns = [[(a0, markOf z0 q0 q1 q2)], [(a1, markOf z1 r0 r1 r2)], [(a2, markOf z2 s0 s1 s2)], [(a3, markOf z3 t0 t1 t2)], [(a4, markOf z4 u0 u1 u2)]] := by
  obtain ⟨y0, y1, y2, y3, y4, rfl⟩ := five ys h1
  obtain ⟨o0, o1, o2, o3, o4, rfl⟩ := five owns h2
  obtain ⟨_, a0, q0, q1, q2, e0, rfl, rfl⟩ := hV 0 _ _ rfl rfl
  obtain ⟨_, a1, r0, r1, r2, e1, rfl, rfl⟩ := hV 1 _ _ rfl rfl
  obtain ⟨_, a2, s0, s1, s2, e2, rfl, rfl⟩ := hV 2 _ _ rfl rfl
  obtain ⟨_, a3, t0, t1, t2, e3, rfl, rfl⟩ := hV 3 _ _ rfl rfl
  obtain ⟨_, a4, u0, u1, u2, e4, rfl, rfl⟩ := hV 4 _ _ rfl rfl
  cases e0; cases e1; cases e2; cases e3; cases e4
  exact ⟨a0, a1, a2, a3, a4, q0, q1, q2, r0, r1, r2, s0, s1, s2, t0, t1, t2, u0, u1, u2, rfl, rfl⟩
theorem of_get {α : Type} {l : List α} {i : Nat} {x : α} {p : α → Prop} (h : l[i]? = some x) (hp : ∀ y ∈ l, p y) : p x := hp x (List.mem_of_getElem? h)
theorem led_cls {w : World} {z : Lead} {c : Value} (h1 : c ≠ .ref 111) (h2 : c ≠ .type "dict") (h3 : c ≠ .type "tuple") : ∀ p ∈ z.led w, p.2.cls ≠ c := by
  intro p hp
  simp only [Lead.led, List.mem_cons, List.not_mem_nil, or_false] at hp
  rcases hp with rfl | rfl | rfl | rfl
  · exact Ne.symm h1
  · exact Ne.symm h2
  · exact Ne.symm h3
  · exact Ne.symm h3
abbrev markZ (z : Lead) (a : Nat) (q1 q2 q3 k : Tok) : MarkZ := ⟨z.t, z.b, a, 2 * (z.b + 1 * z.t), z.b + 2 * z.t, 3 * (z.b + 1 * z.t) - (z.b + 2 * z.t), q1, q2, q3, k⟩
theorem markZ_ok {z : Lead} {a : Nat} {q1 q2 q3 k : Tok} (ht : z.t ≤ 3) (hb : z.b ≤ 5) : (markZ z a q1 q2 q3 k).Ok := ⟨ht, hb, rfl, rfl, rfl⟩
theorem least_unique {col : Int → Int} {c k c' k' : Int} (h : IsLeast col c k) (h' : IsLeast col c' k') : c = c' ∧ k = k' := by
  obtain ⟨a0, a5, ac, al⟩ := h
  obtain ⟨b0, b5, bc, bl⟩ := h'
  have x := al k' b0 b5
  have y := bl k a0 a5
  rw [← bc] at x
  rw [← ac] at y
  unfold lexLe at x y
  omega
theorem fdiv_is {x T s : Int} (hT : 0 < T) (h1 : s * T ≤ x) (h2 : x < (s + 1) * T) (_h0 : 0 ≤ x) : Int.fdiv x T = s := by
  rw [Int.fdiv_eq_ediv_of_nonneg _ (Int.le_of_lt hT)]
  have a : s ≤ x / T := (Int.le_ediv_iff_mul_le hT).mpr h1
  have b : x / T < s + 1 := (Int.ediv_lt_iff_lt_mul hT).mpr h2
  omega
theorem road_turn {t b t' b' s p q : Int} (ht : 0 ≤ t ∧ t ≤ 3) (hb : 0 ≤ b ∧ b ≤ 5) (ht' : 0 ≤ t' ∧ t' ≤ 3) (hb' : 0 ≤ b' ∧ b' ≤ 5) (hs : 1 ≤ s ∧ s ≤ 5) (hpq : p ≠ q) (hd : t ≠ t' ∨ b ≠ b')
    (h1 : lexLe (b + s * t) p (b' + s * t') q) (h2 : lexLe (b' + (s + 1) * t') q (b + (s + 1) * t) p) :
    0 < t - t' ∧ t - t' ≤ b' - b ∧ Int.fdiv (b' - b - (if q < p then 1 else 0)) (t - t') = s := by
  unfold lexLe at h1 h2
  have k1 : b + s * t ≤ b' + s * t' := by omega
  have k2 : b' + (s + 1) * t' ≤ b + (s + 1) * t := by omega
  have e1 : s * (t - t') = s * t - s * t' := Int.mul_sub s t t'
  have e2 : (s + 1) * (t - t') = (s + 1) * t - (s + 1) * t' := Int.mul_sub (s + 1) t t'
  have hT : 0 < t - t' := by
    rcases (by omega : s = 1 ∨ s = 2 ∨ s = 3 ∨ s = 4 ∨ s = 5) with rfl | rfl | rfl | rfl | rfl <;> omega
  have hB : t - t' ≤ b' - b := by
    rcases (by omega : s = 1 ∨ s = 2 ∨ s = 3 ∨ s = 4 ∨ s = 5) with rfl | rfl | rfl | rfl | rfl <;> omega
  refine ⟨hT, hB, ?_⟩
  split
  · rename_i hqp
    refine fdiv_is hT (by omega) (by omega) (by omega)
  · rename_i hqp
    refine fdiv_is hT (by omega) (by omega) (by omega)
theorem due_down {X Y : MarkZ} (hx : X.Ok) (hy : Y.Ok) (h1 : (Y.t : Int) ≤ X.t) (h2 : (X.t : Int) - Y.t ≤ (Y.b : Int) - X.b) : dueM X Y = 2 * ((Y.b : Int) - X.b) - ((X.t : Int) - Y.t) ∧ dueM Y X = 2 * ((Y.b : Int) - X.b) - ((X.t : Int) - Y.t) ∧ Int.fdiv (Y.m1 - X.m1) 2 = ((Y.b : Int) - X.b) - ((X.t : Int) - Y.t) := by
  obtain ⟨a1, a2, a3, a4, a5⟩ := hx
  obtain ⟨c1, c2, c3, c4, c5⟩ := hy
  refine ⟨?_, ?_, ?_⟩
  · unfold dueM; rw [a3, a4, a5, c3, c4, c5]; omega
  · unfold dueM; rw [a3, a4, a5, c3, c4, c5]; omega
  · rw [Int.fdiv_eq_ediv_of_nonneg _ (by decide), a3, c3]; omega
section
variable {prog : Program} {w : World} {A : Around} {E : Value → Shared → Prop} {s : Shared} {Q : Value → Shared → Prop} {h₀ : Heap} {L D : Addr} {m : Str → Option Value} {news : Led}
theorem max2 {a b : Int} {t u : Tok} (hh : A.handled = none) (F : Fr h₀ L s.heap m) (N : News h₀ L s.heap news) (h : ∀ h' k tk, Fr h₀ L h' m → News h₀ L h' news → Q (.int (max a b) k) { s with heap := h', toks := tk }) :
    wpAny (model prog w) A (call (.builtin "max") [.int a t, .int b u]) Q E s :=
  max_two_N hh F N fun h' tk F' N' => by
    rw [show (if b > a then b else a) = max a b from by omega]
    exact h h' _ tk F' N'
theorem min2 {a b : Int} {t u : Tok} (hh : A.handled = none) (F : Fr h₀ L s.heap m) (N : News h₀ L s.heap news) (h : ∀ h' k tk, Fr h₀ L h' m → News h₀ L h' news → Q (.int (min a b) k) { s with heap := h', toks := tk }) :
    wpAny (model prog w) A (call (.builtin "min") [.int a t, .int b u]) Q E s :=
  min_two_N hh F N fun h' tk F' N' => by
    rw [show (if b < a then b else a) = min a b from by omega]
    exact h h' _ tk F' N'
theorem sub_pickI {value slice : PySem.Expr} {α : Type} {M0 M1 M2 M3 M4 X : α} {n : Nat} {k : Int} {u : Tok} (f : α → Value)
    (N : News h₀ L s.heap news) (hm : (D, listOf #[f M0, f M1, f M2, f M3, f M4] n) ∈ news) (h0 : 0 ≤ k) (h5 : k < 5) (hX : pick M0 M1 M2 M3 M4 k = X) (h : Q (f X) s)
    (hs : subscripted slice false (.ref D) (.int k u) = operate [.ref D, .int k u] (getItem (.ref D) (.int k u)) := by with_unfolding_all rfl) :
    wpAny (model prog w) A (subscriptTail value slice (.ref D) (.int k u)) Q E s := by
  refine sub_news N hm h0 (by omega) ?_ h hs
  subst hX
  rcases (by omega : k = 0 ∨ k = 1 ∨ k = 2 ∨ k = 3 ∨ k = 4) with rfl | rfl | rfl | rfl | rfl <;> rfl
theorem sub_atI {value slice : PySem.Expr} {row : List Value} {n : Nat} {k : Int} {u : Tok} {v : Value} (N : News h₀ L s.heap news) (hm : (D, listOf row.toArray n) ∈ news) (h0 : 0 ≤ k) (h5 : k < 5) (hx : row[k.toNat]? = some v) (h : Q v s)
    (hs : subscripted slice false (.ref D) (.int k u) = operate [.ref D, .int k u] (getItem (.ref D) (.int k u)) := by with_unfolding_all rfl) :
    wpAny (model prog w) A (subscriptTail value slice (.ref D) (.int k u)) Q E s :=
  sub_news N hm h0 (by omega) (by rw [nthV_eq]; exact hx) h hs
end
theorem apart_all {z0 z1 z2 z3 z4 : Lead} (ok : SpotsOk z0.t z0.b z1.t z1.b z2.t z2.b z3.t z3.b z4.t z4.b) {p q : Int} (hp : 0 ≤ p ∧ p < 5) (hq : 0 ≤ q ∧ q < 5) (h : p ≠ q) :
    ((pick z0 z1 z2 z3 z4 p).t : Int) ≠ (pick z0 z1 z2 z3 z4 q).t ∨ ((pick z0 z1 z2 z3 z4 p).b : Int) ≠ (pick z0 z1 z2 z3 z4 q).b := by
  have sw : ∀ {a b c d : Int}, Apart a b c d → a ≠ c ∨ b ≠ d := fun h => h
  have sy : ∀ {a b c d : Int}, Apart a b c d → c ≠ a ∨ d ≠ b := fun h => h.imp Ne.symm Ne.symm
  rcases (by omega : p = 0 ∨ p = 1 ∨ p = 2 ∨ p = 3 ∨ p = 4) with rfl | rfl | rfl | rfl | rfl <;>
    rcases (by omega : q = 0 ∨ q = 1 ∨ q = 2 ∨ q = 3 ∨ q = 4) with rfl | rfl | rfl | rfl | rfl <;>
    first
    | exact absurd rfl h
    | exact sw ok.a01 | exact sw ok.a02 | exact sw ok.a03 | exact sw ok.a04 | exact sw ok.a12 | exact sw ok.a13 | exact sw ok.a14 | exact sw ok.a23 | exact sw ok.a24 | exact sw ok.a34
    | exact sy ok.a01 | exact sy ok.a02 | exact sy ok.a03 | exact sy ok.a04 | exact sy ok.a12 | exact sy ok.a13 | exact sy ok.a14 | exact sy ok.a23 | exact sy ok.a24 | exact sy ok.a34
theorem far_at {p : Int → MarkZ} {R0 R1 R2 R3 R4 : Row} (f0 : RowIs p 0 R0.its) (f1 : RowIs p 1 R1.its) (f2 : RowIs p 2 R2.its) (f3 : RowIs p 3 R3.its) (f4 : RowIs p 4 R4.its) {m n : Int} (hn : 0 ≤ n) (hnm : n ≤ m) (hm : m < 5) :
    ∃ tk, (pick R0 R1 R2 R3 R4 m).its[n.toNat]? = some (.int (dueM (p m) (p n)) tk) := by
  have en : ((n.toNat : Nat) : Int) = n := Int.toNat_of_nonneg hn
  rcases (by omega : m = 0 ∨ m = 1 ∨ m = 2 ∨ m = 3 ∨ m = 4) with rfl | rfl | rfl | rfl | rfl
  · obtain ⟨k, e⟩ := f0 n.toNat (by omega); rw [en] at e; exact ⟨k, e⟩
  · obtain ⟨k, e⟩ := f1 n.toNat (by omega); rw [en] at e; exact ⟨k, e⟩
  · obtain ⟨k, e⟩ := f2 n.toNat (by omega); rw [en] at e; exact ⟨k, e⟩
  · obtain ⟨k, e⟩ := f3 n.toNat (by omega); rw [en] at e; exact ⟨k, e⟩
  · obtain ⟨k, e⟩ := f4 n.toNat (by omega); rw [en] at e; exact ⟨k, e⟩
/-- what stands for the last loop -/
structure Road (z0 z1 z2 z3 z4 : Lead) (M0 M1 M2 M3 M4 : MarkZ) (R0 R1 R2 R3 R4 : Row) (r0 r1 r2 r3 r4 r5 : It) (Qd : Led) : Prop where
  ok : SpotsOk z0.t z0.b z1.t z1.b z2.t z2.b z3.t z3.b z4.t z4.b
  mok : ∀ k : Int, (pick M0 M1 M2 M3 M4 k).Ok
  mt : ∀ k : Int, (pick M0 M1 M2 M3 M4 k).t = (pick z0 z1 z2 z3 z4 k).t ∧ (pick M0 M1 M2 M3 M4 k).b = (pick z0 z1 z2 z3 z4 k).b
  f0 : RowIs (pick M0 M1 M2 M3 M4) 0 R0.its
  f1 : RowIs (pick M0 M1 M2 M3 M4) 1 R1.its
  f2 : RowIs (pick M0 M1 M2 M3 M4) 2 R2.its
  f3 : RowIs (pick M0 M1 M2 M3 M4) 3 R3.its
  f4 : RowIs (pick M0 M1 M2 M3 M4) 4 R4.its
  q0 : IsLeast (colZ z0 z1 z2 z3 z4 1) r0.c r0.k
  q1 : IsLeast (colZ z0 z1 z2 z3 z4 2) r1.c r1.k
  q2 : IsLeast (colZ z0 z1 z2 z3 z4 3) r2.c r2.k
  q3 : IsLeast (colZ z0 z1 z2 z3 z4 4) r3.c r3.k
  q4 : IsLeast (colZ z0 z1 z2 z3 z4 5) r4.c r4.k
  q5 : IsLeast (colZ z0 z1 z2 z3 z4 6) r5.c r5.k
  mm : ∀ k : Int, (pick M0 M1 M2 M3 M4 k).ent ∈ Qd
  rm : ∀ k : Int, (pick R0 R1 R2 R3 R4 k).ent ∈ Qd
  im : r0.ent ∈ Qd ∧ r1.ent ∈ Qd ∧ r2.ent ∈ Qd ∧ r3.ent ∈ Qd ∧ r4.ent ∈ Qd ∧ r5.ent ∈ Qd
def rsAt (r0 r1 r2 r3 r4 r5 : It) : Nat → It
  | 0 => r0 | 1 => r1 | 2 => r2 | 3 => r3 | 4 => r4 | _ => r5
section
variable {z0 z1 z2 z3 z4 : Lead} {M0 M1 M2 M3 M4 : MarkZ} {R0 R1 R2 R3 R4 : Row} {r0 r1 r2 r3 r4 r5 : It} {Qd : Led}
theorem Road.at (H : Road z0 z1 z2 z3 z4 M0 M1 M2 M3 M4 R0 R1 R2 R3 R4 r0 r1 r2 r3 r4 r5 Qd) (i : Nat) (hi : i < 6) : [Value.ref r0.a, .ref r1.a, .ref r2.a, .ref r3.a, .ref r4.a, .ref r5.a][i]? = some (.ref (rsAt r0 r1 r2 r3 r4 r5 i).a) ∧ (rsAt r0 r1 r2 r3 r4 r5 i).ent ∈ Qd ∧ IsLeast (colZ z0 z1 z2 z3 z4 (1 + (i : Int))) (rsAt r0 r1 r2 r3 r4 r5 i).c (rsAt r0 r1 r2 r3 r4 r5 i).k := by
  match i, hi with
  | 0, _ => exact ⟨rfl, H.im.1, H.q0⟩
  | 1, _ => exact ⟨rfl, H.im.2.1, H.q1⟩
  | 2, _ => exact ⟨rfl, H.im.2.2.1, H.q2⟩
  | 3, _ => exact ⟨rfl, H.im.2.2.2.1, H.q3⟩
  | 4, _ => exact ⟨rfl, H.im.2.2.2.2.1, H.q4⟩
  | 5, _ => exact ⟨rfl, H.im.2.2.2.2.2, H.q5⟩
/-- one turn of the road -/
theorem Road.turn (H : Road z0 z1 z2 z3 z4 M0 M1 M2 M3 M4 R0 R1 R2 R3 R4 r0 r1 r2 r3 r4 r5 Qd) {i : Nat} (hi : i < 5) {p q : Int} (ep : (rsAt r0 r1 r2 r3 r4 r5 i).k = p) (eq : (rsAt r0 r1 r2 r3 r4 r5 (i + 1)).k = q) (h : q ≠ p) :
    ∃ t b t' b' : Int, ((pick M0 M1 M2 M3 M4 p).t : Int) = t ∧ ((pick M0 M1 M2 M3 M4 p).b : Int) = b ∧ ((pick M0 M1 M2 M3 M4 q).t : Int) = t' ∧ ((pick M0 M1 M2 M3 M4 q).b : Int) = b' ∧ 0 ≤ t' ∧ t ≤ 3 ∧ 0 ≤ b ∧ b' ≤ 5 ∧
      0 < t - t' ∧ t - t' ≤ b' - b ∧ dueM (pick M0 M1 M2 M3 M4 (max p q)) (pick M0 M1 M2 M3 M4 (min p q)) = 2 * (b' - b) - (t - t') ∧
      Int.fdiv ((pick M0 M1 M2 M3 M4 q).m1 - (pick M0 M1 M2 M3 M4 p).m1) 2 = (b' - b) - (t - t') ∧
      Int.fdiv ((2 * (b' - b) - (t - t')) - ((b' - b) - (t - t')) - (if q < p then 1 else 0)) ((2 * (b' - b) - (t - t')) - 2 * ((b' - b) - (t - t'))) + 1 = ((i + 1 : Nat) : Int) + 1 := by
  obtain ⟨_, _, hl⟩ := H.at i (by omega)
  obtain ⟨_, _, hl'⟩ := H.at (i + 1) (by omega)
  rw [ep] at hl
  rw [eq] at hl'
  obtain ⟨p0, p5, pc, pl⟩ := hl
  obtain ⟨w0, w5, wc, wl⟩ := hl'
  have op := H.mok p
  have oq := H.mok q
  have mp := H.mt p
  have mq := H.mt q
  have hd := apart_all H.ok ⟨p0, p5⟩ ⟨w0, w5⟩ (Ne.symm h)
  have x := pl q w0 w5
  have y := wl p p0 p5
  rw [pc] at x
  rw [wc] at y
  unfold colZ at x y
  rw [← mp.1, ← mp.2, ← mq.1, ← mq.2] at x y hd
  have b1 := op.t3; have b2 := op.b5; have b3 := oq.t3; have b4 := oq.b5
  have es : (1 : Int) + ((i + 1 : Nat) : Int) = (1 + (i : Int)) + 1 := by omega
  rw [es] at y
  obtain ⟨h1, h2, h3⟩ := road_turn (by omega) (by omega) (by omega) (by omega) (by omega) (Ne.symm h) hd x y
  obtain ⟨d1, d2, d3⟩ := due_down op oq (by omega) (by omega)
  refine ⟨_, _, _, _, rfl, rfl, rfl, rfl, by omega, by omega, by omega, by omega, h1, h2, ?_, d3, ?_⟩
  · rcases Int.lt_or_gt_of_ne h with g | g
    · rw [show max p q = p from by omega, show min p q = q from by omega]; exact d1
    · rw [show max p q = q from by omega, show min p q = p from by omega]; exact d2
  · rw [show ∀ x y e : Int, (2 * x - y) - (x - y) - e = x - e from fun x y e => by omega, show ∀ x y : Int, (2 * x - y) - 2 * (x - y) = y from fun x y => by omega, h3]
    omega
/-- the way from the first to where the road stands -/
def Total (M0 M1 M2 M3 M4 : MarkZ) (f s tot : Int) : Prop :=
  ((pick M0 M1 M2 M3 M4 s).t : Int) ≤ (pick M0 M1 M2 M3 M4 f).t ∧ ((pick M0 M1 M2 M3 M4 f).t : Int) - (pick M0 M1 M2 M3 M4 s).t ≤ ((pick M0 M1 M2 M3 M4 s).b : Int) - (pick M0 M1 M2 M3 M4 f).b ∧
  tot = 2 * (((pick M0 M1 M2 M3 M4 s).b : Int) - (pick M0 M1 M2 M3 M4 f).b) - (((pick M0 M1 M2 M3 M4 f).t : Int) - (pick M0 M1 M2 M3 M4 s).t)
theorem Road.total (H : Road z0 z1 z2 z3 z4 M0 M1 M2 M3 M4 R0 R1 R2 R3 R4 r0 r1 r2 r3 r4 r5 Qd) {f s tot : Int} (h : Total M0 M1 M2 M3 M4 f s tot) : 0 ≤ tot ∧ tot ≤ 30 ∧ dueM (pick M0 M1 M2 M3 M4 (max f s)) (pick M0 M1 M2 M3 M4 (min f s)) = tot := by
  obtain ⟨h1, h2, h3⟩ := h
  have of := H.mok f
  have os := H.mok s
  obtain ⟨d1, d2, _⟩ := due_down of os (by omega) (by omega)
  have b1 := of.t3; have b2 := of.b5; have b3 := os.t3; have b4 := os.b5
  refine ⟨by omega, by omega, ?_⟩
  rw [h3]
  rcases (by omega : f ≤ s ∨ s < f) with g | g
  · rw [show max f s = s from by omega, show min f s = f from by omega]; exact d2
  · rw [show max f s = f from by omega, show min f s = s from by omega]; exact d1
theorem Road.total_next (H : Road z0 z1 z2 z3 z4 M0 M1 M2 M3 M4 R0 R1 R2 R3 R4 r0 r1 r2 r3 r4 r5 Qd) {f p q tot : Int} (h : Total M0 M1 M2 M3 M4 f p tot) {i : Nat} (hi : i < 5) (ep : (rsAt r0 r1 r2 r3 r4 r5 i).k = p) (eq : (rsAt r0 r1 r2 r3 r4 r5 (i + 1)).k = q) (hn : q ≠ p) :
    Total M0 M1 M2 M3 M4 f q (tot + dueM (pick M0 M1 M2 M3 M4 (max p q)) (pick M0 M1 M2 M3 M4 (min p q))) := by
  obtain ⟨t, b, t', b', e1, e2, e3, e4, _, _, _, _, g1, g2, g3, _⟩ := H.turn hi ep eq hn
  obtain ⟨h1, h2, h3⟩ := h
  unfold Total
  rw [g3, h3]
  omega
end

section
variable {prog : Program} {w : World} {A : Around} {E : Value → Shared → Prop} {s : Shared} {Q : Value → Shared → Prop} {h₀ : Heap} {L : Addr} {m : Str → Option Value} {news : Led}
theorem max2v {a b c : Int} {t u : Tok} (e : max a b = c) (hh : A.handled = none) (F : Fr h₀ L s.heap m) (N : News h₀ L s.heap news) (h : ∀ h' k tk, Fr h₀ L h' m → News h₀ L h' news → Q (.int c k) { s with heap := h', toks := tk }) :
    wpAny (model prog w) A (call (.builtin "max") [.int a t, .int b u]) Q E s := max2 hh F N fun h' k tk F' N' => e ▸ h h' k tk F' N'
theorem min2v {a b c : Int} {t u : Tok} (e : min a b = c) (hh : A.handled = none) (F : Fr h₀ L s.heap m) (N : News h₀ L s.heap news) (h : ∀ h' k tk, Fr h₀ L h' m → News h₀ L h' news → Q (.int c k) { s with heap := h', toks := tk }) :
    wpAny (model prog w) A (call (.builtin "min") [.int a t, .int b u]) Q E s := min2 hh F N fun h' k tk F' N' => e ▸ h h' k tk F' N'
end
structure LoopL where
  s : Int
  ks : Tok
  tot : Int
  kt : Tok
theorem due_bound {X Y : MarkZ} (hx : X.Ok) (hy : Y.Ok) : 0 ≤ dueM X Y ∧ dueM X Y ≤ 100 := by
  obtain ⟨a1, a2, a3, a4, a5⟩ := hx
  obtain ⟨c1, c2, c3, c4, c5⟩ := hy
  unfold dueM; rw [a3, a4, a5, c3, c4, c5]; omega
section
local macro_rules | `(tactic| walk_at "binaryOp Mult str int") => `(tactic| (k_here; k_dflt (first | (refine mul_letter (mul_tabs _ (by omega)) one_letter.1 (by omega) ?_; intro _ _) | (refine mul_letter (mul_blanks _ (by omega)) one_letter.2.1 (by omega) ?_; intro _ _) | (refine mul_letter (mul_caps _ (by omega)) one_letter.2.2.1 (by omega) ?_; intro _ _) | (refine mul_letter (mul_smalls _ (by omega)) one_letter.2.2.2 (by omega) ?_; intro _ _))))
local macro_rules | `(tactic| walk_at "binaryOp Add str str") => `(tactic| (k_here; first | ((with_reducible show wpAny _ _ (binaryOp _ (Value.str (oneS 9 _) _) (Value.str (oneS 32 _) _)) _ _ _); refine add_tb (by omega) (by omega) ?_; intro _ _) | ((with_reducible show wpAny _ _ (binaryOp _ (Value.str (oneS 65 _) _) (Value.str (oneS 97 _) _)) _ _ _); refine add_wa (by omega) (by omega) ?_; intro _ _)))
local macro_rules | `(tactic| walk_at "subscriptTail Name Name ref int") => `(tactic| (k_here; k_dflt (first | (refine' sub_at ?N ?m ?f ?x ?_ ?s; (case N => k_asm); (case m => k_mem); (case x => with_reducible assumption); (case f => omega); (case s => with_unfolding_all rfl); k_whole) | (refine' sub_pickI (fun r : Row => Value.ref r.a) ?N ?m ?h0 ?h5 ?x ?_ ?s; (case N => k_asm); (case m => k_mem); (case h0 => with_reducible assumption); (case h5 => with_reducible assumption); (case x => with_reducible assumption); (case s => with_unfolding_all rfl); k_whole; (try dsimp only)) | (refine' sub_pickI (fun m : MarkZ => Value.ref m.a) ?N ?m ?h0 ?h5 ?x ?_ ?s; (case N => k_asm); (case m => k_mem); (case h0 => with_reducible assumption); (case h5 => with_reducible assumption); (case x => with_reducible assumption); (case s => with_unfolding_all rfl); k_whole; (try dsimp only)) | (refine' sub_atI ?N ?m ?h0 ?h5 ?x ?_ ?s; (case N => k_asm); (case m => k_mem); (case h0 => with_reducible assumption); (case h5 => with_reducible assumption); (case x => with_reducible assumption); (case s => with_unfolding_all rfl); k_whole) | (refine' sub_newsT ?N ?m ?a ?b ?x ?_ ?s; (case N => k_asm); (case m => k_mem); (case a => decide); (case b => decide); (case x => rfl); (case s => with_unfolding_all rfl); k_whole) | (refine' sub_news ?N ?m ?a ?b ?x ?_ ?s; (case N => k_asm); (case m => k_mem); (case a => decide); (case b => decide); (case x => rfl); (case s => with_unfolding_all rfl); k_whole))))
local macro_rules | `(tactic| walk_at "subscriptTail Subscript") => `(tactic| (k_here; k_dflt (first | (refine' sub_at ?N ?m ?f ?x ?_ ?s; (case N => k_asm); (case m => k_mem); (case x => with_reducible assumption); (case f => omega); (case s => with_unfolding_all rfl); k_whole) | (refine' sub_pickI (fun r : Row => Value.ref r.a) ?N ?m ?h0 ?h5 ?x ?_ ?s; (case N => k_asm); (case m => k_mem); (case h0 => with_reducible assumption); (case h5 => with_reducible assumption); (case x => with_reducible assumption); (case s => with_unfolding_all rfl); k_whole; (try dsimp only)) | (refine' sub_pickI (fun m : MarkZ => Value.ref m.a) ?N ?m ?h0 ?h5 ?x ?_ ?s; (case N => k_asm); (case m => k_mem); (case h0 => with_reducible assumption); (case h5 => with_reducible assumption); (case x => with_reducible assumption); (case s => with_unfolding_all rfl); k_whole; (try dsimp only)) | (refine' sub_atI ?N ?m ?h0 ?h5 ?x ?_ ?s; (case N => k_asm); (case m => k_mem); (case h0 => with_reducible assumption); (case h5 => with_reducible assumption); (case x => with_reducible assumption); (case s => with_unfolding_all rfl); k_whole) | (refine' sub_newsT ?N ?m ?a ?b ?x ?_ ?s; (case N => k_asm); (case m => k_mem); (case a => decide); (case b => decide); (case x => rfl); (case s => with_unfolding_all rfl); k_whole) | (refine' sub_news ?N ?m ?a ?b ?x ?_ ?s; (case N => k_asm); (case m => k_mem); (case a => decide); (case b => decide); (case x => rfl); (case s => with_unfolding_all rfl); k_whole))))
local macro_rules | `(tactic| walk_at "subscriptTail Name Call") => `(tactic| (k_here; k_dflt (first | (refine' sub_at ?N ?m ?f ?x ?_ ?s; (case N => k_asm); (case m => k_mem); (case x => with_reducible assumption); (case f => omega); (case s => with_unfolding_all rfl); k_whole) | (refine' sub_pickI (fun r : Row => Value.ref r.a) ?N ?m ?h0 ?h5 ?x ?_ ?s; (case N => k_asm); (case m => k_mem); (case h0 => with_reducible assumption); (case h5 => with_reducible assumption); (case x => with_reducible assumption); (case s => with_unfolding_all rfl); k_whole; (try dsimp only)) | (refine' sub_pickI (fun m : MarkZ => Value.ref m.a) ?N ?m ?h0 ?h5 ?x ?_ ?s; (case N => k_asm); (case m => k_mem); (case h0 => with_reducible assumption); (case h5 => with_reducible assumption); (case x => with_reducible assumption); (case s => with_unfolding_all rfl); k_whole; (try dsimp only)) | (refine' sub_atI ?N ?m ?h0 ?h5 ?x ?_ ?s; (case N => k_asm); (case m => k_mem); (case h0 => with_reducible assumption); (case h5 => with_reducible assumption); (case x => with_reducible assumption); (case s => with_unfolding_all rfl); k_whole) | (refine' sub_newsT ?N ?m ?a ?b ?x ?_ ?s; (case N => k_asm); (case m => k_mem); (case a => decide); (case b => decide); (case x => rfl); (case s => with_unfolding_all rfl); k_whole) | (refine' sub_news ?N ?m ?a ?b ?x ?_ ?s; (case N => k_asm); (case m => k_mem); (case a => decide); (case b => decide); (case x => rfl); (case s => with_unfolding_all rfl); k_whole))))
local macro_rules | `(tactic| walk_at "subscriptTail Name Constant ref int") => `(tactic| (k_here; k_dflt (first | (refine' sub_at ?N ?m ?f ?x ?_ ?s; (case N => k_asm); (case m => k_mem); (case x => with_reducible assumption); (case f => omega); (case s => with_unfolding_all rfl); k_whole) | (refine' sub_pickI (fun r : Row => Value.ref r.a) ?N ?m ?h0 ?h5 ?x ?_ ?s; (case N => k_asm); (case m => k_mem); (case h0 => with_reducible assumption); (case h5 => with_reducible assumption); (case x => with_reducible assumption); (case s => with_unfolding_all rfl); k_whole; (try dsimp only)) | (refine' sub_pickI (fun m : MarkZ => Value.ref m.a) ?N ?m ?h0 ?h5 ?x ?_ ?s; (case N => k_asm); (case m => k_mem); (case h0 => with_reducible assumption); (case h5 => with_reducible assumption); (case x => with_reducible assumption); (case s => with_unfolding_all rfl); k_whole; (try dsimp only)) | (refine' sub_atI ?N ?m ?h0 ?h5 ?x ?_ ?s; (case N => k_asm); (case m => k_mem); (case h0 => with_reducible assumption); (case h5 => with_reducible assumption); (case x => with_reducible assumption); (case s => with_unfolding_all rfl); k_whole) | (refine' sub_newsT ?N ?m ?a ?b ?x ?_ ?s; (case N => k_asm); (case m => k_mem); (case a => decide); (case b => decide); (case x => rfl); (case s => with_unfolding_all rfl); k_whole) | (refine' sub_news ?N ?m ?a ?b ?x ?_ ?s; (case N => k_asm); (case m => k_mem); (case a => decide); (case b => decide); (case x => rfl); (case s => with_unfolding_all rfl); k_whole))))
local macro_rules | `(tactic| walk_at "call builtin:max") => `(tactic| (k_here; (with_reducible show wpAny _ _ (PySem.call (Value.builtin _) [Value.int _ _, Value.int _ _]) _ _ _); refine' max2v ?e ?h ?F ?N ?_; (case e => with_reducible assumption); (case h => with_unfolding_all rfl); (case F => k_asm); (case N => k_asm); intro _ _ _ _ _))
local macro_rules | `(tactic| walk_at "call builtin:min") => `(tactic| (k_here; (with_reducible show wpAny _ _ (PySem.call (Value.builtin _) [Value.int _ _, Value.int _ _]) _ _ _); refine' min2v ?e ?h ?F ?N ?_; (case e => with_reducible assumption); (case h => with_unfolding_all rfl); (case F => k_asm); (case N => k_asm); intro _ _ _ _ _))
local macro_rules | `(tactic| walk_at "subscriptTail Name Name ref int") => `(tactic| (k_here; k_dflt (refine' sub_news ?N ?m ?a ?b ?x ?_ ?s; (case N => k_asm); (case m => k_mem); (case a => decide); (case b => decide); (case x => rfl); (case s => with_unfolding_all rfl); k_whole)))
local macro_rules | `(tactic| walk_at "subscriptTail Name Constant ref int") => `(tactic| (k_here; k_dflt (refine' sub_news ?N ?m ?a ?b ?x ?_ ?s; (case N => k_asm); (case m => k_mem); (case a => decide); (case b => decide); (case x => rfl); (case s => with_unfolding_all rfl); k_whole)))
local macro_rules | `(tactic| k_ne) => `(tactic| (refine neN ?_; (try dsimp only); first | (refine Offs.at (by with_reducible assumption) ?_; (simp; done)) | (refine Ne.symm (Offs.at (by with_reducible assumption) ?_); (simp; done)) | exact Nat.ne_of_gt (by omega) | exact Nat.ne_of_lt (by omega)))
theorem law_holds : PySem.Challenge.rw_qj0008_01.Holds := hd (by
  k_go0
  rename World => w
  (all_goals try k_fold)
  repeat' ((fail_if_success (with_reducible show wpAny _ _ (PySem.call (Value.ref 134) _) _ _ _)); first | (k_unfold; (try dsimp only)) | (k_end; wrow_close) | walk1 | (dsimp only; walk1) | (leave1; walk_say "STEP leave1"; try dsimp only) | fail "no step")
  k_dflt (refine' CodeSpecS.use (spots_spec ?ui ?ul) ?us ?uB ?uF ?uX ?uN ?uT ?uk ?ud ?uu ?_; (case us => assumption); (case uB => k_asm); (case uF => k_asm); (case uX => k_asm); (case uN => k_asm); (case uT => k_asm); (case uk => first | exact rfl | assumption); (case ud => ktr_room); (case uu => ktr_units))
  case ui => assumption
  case ul => omega
  intro r9 sub9 h9 tk9 F9 N9 K9 f9 P9
  obtain ⟨sp, en, p0, p1, p2, p3, p4, T0, B0, T1, B1, T2, B2, T3, B3, T4, B4, u0, v0, u1, v1, u2, v2, u3, v3, u4, v4, e9, e8, ok⟩ := P9
  subst e9 e8
  obtain ⟨t0, b0, rfl, rfl, ht0, hb0⟩ := ok.o0
  obtain ⟨t1, b1, rfl, rfl, ht1, hb1⟩ := ok.o1
  obtain ⟨t2, b2, rfl, rfl, ht2, hb2⟩ := ok.o2
  obtain ⟨t3, b3, rfl, rfl, ht3, hb3⟩ := ok.o3
  obtain ⟨t4, b4, rfl, rfl, ht4, hb4⟩ := ok.o4
  clear K9 f9
  have hzs : ∀ z ∈ ([⟨p0, t0, b0, u0, v0⟩, ⟨p1, t1, b1, u1, v1⟩, ⟨p2, t2, b2, u2, v2⟩, ⟨p3, t3, b3, u3, v3⟩, ⟨p4, t4, b4, u4, v4⟩] : List PairZ), z.t ≤ 3 ∧ z.b ≤ 5 := (List.forall_mem_cons.mpr ⟨⟨ht0, hb0⟩, (List.forall_mem_cons.mpr ⟨⟨ht1, hb1⟩, (List.forall_mem_cons.mpr ⟨⟨ht2, hb2⟩, (List.forall_mem_cons.mpr ⟨⟨ht3, hb3⟩, (List.forall_mem_cons.mpr ⟨⟨ht4, hb4⟩, (List.forall_mem_nil _)⟩)⟩)⟩)⟩)⟩)
  (try dsimp only)
  (try k_fold)
  repeat' ((fail_if_success (with_reducible show wpAny _ _ (exec (Stmt.Assign [Expr.Name (Str.ofString "leads") _] _ _) _) _ _ _)); first | (k_unfold; (try dsimp only)) | (k_end; wrow_close) | walk1 | (dsimp only; walk1) | (leave1; walk_say "STEP leave1"; try dsimp only) | fail "no step")
  k_dflt (refine comp_assign (by k_asm) (by rfl) (by with_unfolding_all rfl) (by with_unfolding_all rfl) (by decide) (by rfl) (by decide) (by rfl) (by rfl) ?_)
  repeat' ( first | (k_unfold; (try dsimp only)) | (k_end; wrow_close) | walk1 | (dsimp only; walk1) | (leave1; walk_say "STEP leave1"; try dsimp only) | fail "no step")
  refine src_pairs (zs := [⟨p0, t0, b0, u0, v0⟩, ⟨p1, t1, b1, u1, v1⟩, ⟨p2, t2, b2, u2, v2⟩, ⟨p3, t3, b3, u3, v3⟩, ⟨p4, t4, b4, u4, v4⟩]) (na := en) (fun i v o => ∃ (z9 : Lead) (z : PairZ), ([⟨p0, t0, b0, u0, v0⟩, ⟨p1, t1, b1, u1, v1⟩, ⟨p2, t2, b2, u2, v2⟩, ⟨p3, t3, b3, u3, v3⟩, ⟨p4, t4, b4, u4, v4⟩] : List PairZ)[i]? = some z ∧ v = .ref z9.x ∧ o = z9.led w ∧ z9.t = z.t ∧ z9.b = z.b) (by rfl) (by k_asm) (by k_asm) (by k_mem) (List.forall_mem_cons.mpr ⟨by k_mem, (List.forall_mem_cons.mpr ⟨by k_mem, (List.forall_mem_cons.mpr ⟨by k_mem, (List.forall_mem_cons.mpr ⟨by k_mem, (List.forall_mem_cons.mpr ⟨by k_mem, (List.forall_mem_nil _)⟩)⟩)⟩)⟩)⟩) (Nat.le_of_ble_eq_true rfl) (by rfl) (by rfl) (by decide) (by rfl) ?turn1 ?fin1
  case turn1 =>
    intro i z hz C oC m₂ h tk rest E' hC ha hb F10 N10
    have hzb := of_get hz hzs
    obtain ⟨hz3, hz5⟩ := hzb
    repeat' ((fail_if_success (with_reducible show wpAny _ _ (PySem.call (Value.ref 111) _) _ _ _)); (fail_if_success (with_reducible show UnrEnd _ _ _ _ _ _ _)); (fail_if_success (with_reducible show KswEnd _ _ _ _ _ _ _ _ _ _ _ _)); first | (k_unfold; (try dsimp only)) | (k_end; wrow_close) | walk1 | (dsimp only; walk1) | (leave1; walk_say "STEP leave1"; try dsimp only) | fail "no step")
    k_dflt (refine' make_lead hz3 hz5 ?uB ?uF ?uX ?uN ?uT ?uk ?ud ?uu ?_; (case uB => k_asm); (case uF => k_asm); (case uX => k_asm); (case uN => k_asm); (case uT => k_asm); (case uk => first | exact rfl | assumption); (case ud => ktr_room); (case uu => ktr_units))
    intro z9 h' tk' et eb F' N' hfr
    exact gend (z9.led w) F' N' (fun p hp => hp) hfr ⟨z9, z, hz, rfl, rfl, et, eb⟩
  case fin1 =>
    intro ld ys owns h tk F10 N10 hyl hol hV
    obtain ⟨z0, z1, z2, z3, z4, rfl, rfl, ⟨et0, eb0⟩, ⟨et1, eb1⟩, ⟨et2, eb2⟩, ⟨et3, eb3⟩, ⟨et4, eb4⟩⟩ := lead_fin hyl hol hV
    dsimp only at et0 eb0 et1 eb1 et2 eb2 et3 eb3 et4 eb4
    clear hyl hol hV
    subst et0 eb0 et1 eb1 et2 eb2 et3 eb3 et4 eb4
    obtain ⟨R, hR⟩ : ∃ R : Led, R = z0.led w ++ (z1.led w ++ (z2.led w ++ (z3.led w ++ z4.led w))) := ⟨_, rfl⟩
    have lz0 : ∀ p ∈ z0.led w, p ∈ R := fun p hp => hR ▸ List.mem_append_left _ hp
    have lz1 : ∀ p ∈ z1.led w, p ∈ R := fun p hp => hR ▸ List.mem_append_right _ (List.mem_append_left _ hp)
    have lz2 : ∀ p ∈ z2.led w, p ∈ R := fun p hp => hR ▸ List.mem_append_right _ (List.mem_append_right _ (List.mem_append_left _ hp))
    have lz3 : ∀ p ∈ z3.led w, p ∈ R := fun p hp => hR ▸ List.mem_append_right _ (List.mem_append_right _ (List.mem_append_right _ (List.mem_append_left _ hp)))
    have lz4 : ∀ p ∈ z4.led w, p ∈ R := fun p hp => hR ▸ List.mem_append_right _ (List.mem_append_right _ (List.mem_append_right _ (List.mem_append_right _ hp)))
    have hRc : ∀ c : Value, c ≠ .ref 111 → c ≠ .type "dict" → c ≠ .type "tuple" → ∀ p ∈ R, p.2.cls ≠ c := fun c h1 h2 h3 p hp => by
      rw [hR] at hp
      simp only [List.mem_append] at hp
      rcases hp with hp | hp | hp | hp | hp <;> exact led_cls h1 h2 h3 p hp
    have N11 := news_sub N10 (l := (ld, listOf #[.ref z0.x, .ref z1.x, .ref z2.x, .ref z3.x, .ref z4.x] 5) :: (sp, listOf #[.ref p0, .ref p1, .ref p2, .ref p3, .ref p4] en) :: (p0, tup2 z0.t u0 z0.b v0) :: (p1, tup2 z1.t u1 z1.b v1) :: (p2, tup2 z2.t u2 z2.b v2) :: (p3, tup2 z3.t u3 z3.b v3) :: (p4, tup2 z4.t u4 z4.b v4) :: R) (List.forall_mem_cons.mpr ⟨List.Mem.head _, (List.forall_mem_cons.mpr ⟨List.Mem.tail _ (List.mem_append_right _ (by k_mem)), (List.forall_mem_cons.mpr ⟨List.Mem.tail _ (List.mem_append_right _ (by k_mem)), (List.forall_mem_cons.mpr ⟨List.Mem.tail _ (List.mem_append_right _ (by k_mem)), (List.forall_mem_cons.mpr ⟨List.Mem.tail _ (List.mem_append_right _ (by k_mem)), (List.forall_mem_cons.mpr ⟨List.Mem.tail _ (List.mem_append_right _ (by k_mem)), (List.forall_mem_cons.mpr ⟨List.Mem.tail _ (List.mem_append_right _ (by k_mem)), (fun p hp => List.Mem.tail _ (List.mem_append_left _ (by rw [hR] at hp; simpa using hp)))⟩)⟩)⟩)⟩)⟩)⟩)⟩)
    clear N10 hR
    (try dsimp only)
    repeat' ((fail_if_success (with_reducible show wpAny _ _ (exec (Stmt.Assign [Expr.Name (Str.ofString "words") _] _ _) _) _ _ _)); first | (k_unfold; (try dsimp only)) | (k_end; wrow_close) | walk1 | (dsimp only; walk1) | (leave1; walk_say "STEP leave1"; try dsimp only) | fail "no step")
    k_dflt (refine comp_assign (by k_asm) (by rfl) (by with_unfolding_all rfl) (by with_unfolding_all rfl) (by decide) (by rfl) (by decide) (by rfl) (by rfl) ?_)
    repeat' ( first | (k_unfold; (try dsimp only)) | (k_end; wrow_close) | walk1 | (dsimp only; walk1) | (leave1; walk_say "STEP leave1"; try dsimp only) | fail "no step")
    refine src_pairs (zs := [⟨p0, z0.t, z0.b, u0, v0⟩, ⟨p1, z1.t, z1.b, u1, v1⟩, ⟨p2, z2.t, z2.b, u2, v2⟩, ⟨p3, z3.t, z3.b, u3, v3⟩, ⟨p4, z4.t, z4.b, u4, v4⟩]) (na := en) (fun i v o => ∃ (z : PairZ) (k : Tok), ([⟨p0, z0.t, z0.b, u0, v0⟩, ⟨p1, z1.t, z1.b, u1, v1⟩, ⟨p2, z2.t, z2.b, u2, v2⟩, ⟨p3, z3.t, z3.b, u3, v3⟩, ⟨p4, z4.t, z4.b, u4, v4⟩] : List PairZ)[i]? = some z ∧ v = .str (waStr z.t z.b) k ∧ o = []) (by rfl) (by k_asm) (by k_asm) (by k_mem) (List.forall_mem_cons.mpr ⟨by k_mem, (List.forall_mem_cons.mpr ⟨by k_mem, (List.forall_mem_cons.mpr ⟨by k_mem, (List.forall_mem_cons.mpr ⟨by k_mem, (List.forall_mem_cons.mpr ⟨by k_mem, (List.forall_mem_nil _)⟩)⟩)⟩)⟩)⟩) (Nat.le_of_ble_eq_true rfl) (by rfl) (by rfl) (by decide) (by rfl) ?turn2 ?fin2
    case turn2 =>
      intro i z hz C oC m₂ h tk rest E' hC ha hb F10 N10
      have hzb := of_get hz hzs
      obtain ⟨hz3, hz5⟩ := hzb
      repeat' ( (fail_if_success (with_reducible show UnrEnd _ _ _ _ _ _ _)); (fail_if_success (with_reducible show KswEnd _ _ _ _ _ _ _ _ _ _ _ _)); first | (k_unfold; (try dsimp only)) | (k_end; wrow_close) | walk1 | (dsimp only; walk1) | (leave1; walk_say "STEP leave1"; try dsimp only) | fail "no step")
      exact gend [] (by k_asm) (by k_asm) (fun p hp => hp) (fun p hp => nomatch hp) ⟨z, _, hz, rfl, rfl⟩
    case fin2 =>
      intro wd ys owns h tk F12 N12 hyl hol hV
      obtain ⟨k0, k1, k2, k3, k4, rfl, rfl⟩ := word_fin hyl hol hV
      clear hyl hol hV
      dsimp only [List.flatten_cons, List.flatten_nil, List.nil_append] at N12
      (try dsimp only)
      repeat' ((fail_if_success (with_reducible show wpAny _ _ (exec (Stmt.Assign [Expr.Name (Str.ofString "marks") _] _ _) _) _ _ _)); first | (k_unfold; (try dsimp only)) | (k_end; wrow_close) | walk1 | (dsimp only; walk1) | (leave1; walk_say "STEP leave1"; try dsimp only) | fail "no step")
      k_dflt (refine comp_assign (by k_asm) (by rfl) (by with_unfolding_all rfl) (by with_unfolding_all rfl) (by decide) (by rfl) (by decide) (by rfl) (by rfl) ?_)
      repeat' ( first | (k_unfold; (try dsimp only)) | (k_end; wrow_close) | walk1 | (dsimp only; walk1) | (leave1; walk_say "STEP leave1"; try dsimp only) | fail "no step")
      refine src_names (items := [z0, z1, z2, z3, z4].map fun z => Value.ref z.x) (na := 5) (fun i v o => ∃ (z : Lead) (a : Nat) (q1 q2 q3 : Tok), [z0, z1, z2, z3, z4][i]? = some z ∧ v = .ref a ∧ o = [(a, markOf z q1 q2 q3)]) (by rfl) (by k_asm) (by k_asm) (by k_mem) (Nat.le_of_ble_eq_true rfl) (by rfl) (by rfl) ?turn3 ?fin3
      case turn3 =>
        intro i v hv C oC m₂ h tk rest E' hC ha F10 N10
        rw [List.getElem?_map, Option.map_eq_some_iff] at hv
        obtain ⟨z, hz, rfl⟩ := hv
        have lz : ∀ p ∈ z.led w, p ∈ R := of_get (p := fun z : Lead => ∀ p ∈ z.led w, p ∈ R) hz (List.forall_mem_cons.mpr ⟨lz0, (List.forall_mem_cons.mpr ⟨lz1, (List.forall_mem_cons.mpr ⟨lz2, (List.forall_mem_cons.mpr ⟨lz3, (List.forall_mem_cons.mpr ⟨lz4, (List.forall_mem_nil _)⟩)⟩)⟩)⟩)⟩)
        repeat' ((fail_if_success (with_reducible show wpAny _ _ (PySem.call (Value.ref 141) _) _ _ _)); (fail_if_success (with_reducible show UnrEnd _ _ _ _ _ _ _)); (fail_if_success (with_reducible show KswEnd _ _ _ _ _ _ _ _ _ _ _ _)); first | (k_unfold; (try dsimp only)) | (k_end; wrow_close) | walk1 | (dsimp only; walk1) | (leave1; walk_say "STEP leave1"; try dsimp only) | fail "no step")
        k_dflt (refine' CodeSpec.use0 (marks_spec (z := z)) ?uB ?uF ?uX ?uN ?uT ?uk ?uin ?ud ?uu ?_; (case uB => k_asm); (case uF => k_asm); (case uX => k_asm); (case uN => k_asm); (case uT => k_asm); (case uk => first | exact rfl | assumption); (case ud => ktr_room); (case uu => ktr_units))
        case uin => exact fun p hp => .tail _ (List.mem_append_left _ ((by (repeat' (first | with_reducible assumption | exact in_self | refine in_tail ?_)) : ∀ p ∈ R, p ∈ _) p (lz p hp)))
        intro r9 l9 h9 tk9 F9 N9 f9 P9
        obtain ⟨a9, q1, q2, q3, e9, e8⟩ := P9
        subst e9 e8
        refine gend _ F9 N9 (fun p hp => hp) (fun p hp => ?_) ⟨z, a9, q1, q2, q3, hz, rfl, rfl⟩
        rcases f9 p hp with h | h
        · rw [List.mem_singleton.mp hp] at h
          exact absurd rfl (led_cls (c := .type "list") (by simp) (by simp) (by simp) _ h)
        · exact h
      case fin3 =>
        intro mk ys owns h tk F13 N13 hyl hol hV
        obtain ⟨a0, a1, a2, a3, a4, c00, c01, c02, c10, c11, c12, c20, c21, c22, c30, c31, c32, c40, c41, c42, rfl, rfl⟩ := mark_fin hyl hol hV
        clear hyl hol hV
        dsimp only [List.flatten_cons, List.flatten_nil, List.nil_append, List.cons_append] at N13
        (try dsimp only)
        repeat' ((fail_if_success (with_reducible show wpAny _ _ (PySem.call (Value.ref 146) _) _ _ _)); first | (k_unfold; (try dsimp only)) | (k_end; wrow_close) | walk1 | (dsimp only; walk1) | (leave1; walk_say "STEP leave1"; try dsimp only) | fail "no step")
        have hM : ∀ k : Int, (pick (markZ z0 a0 c00 c01 c02 k0) (markZ z1 a1 c10 c11 c12 k1) (markZ z2 a2 c20 c21 c22 k2) (markZ z3 a3 c30 c31 c32 k3) (markZ z4 a4 c40 c41 c42 k4) k).Ok := pick_all (markZ_ok ht0 hb0) (markZ_ok ht1 hb1) (markZ_ok ht2 hb2) (markZ_ok ht3 hb3) (markZ_ok ht4 hb4)
        k_dflt (refine' CodeSpec.use0 (far_spec (ew := 5) (em := 5) hM) ?uB ?uF ?uX ?uN ?uT ?uk ?uin ?ud ?uu ?_; (case uB => k_asm); (case uF => k_asm); (case uX => k_asm); (case uN => k_asm); (case uT => k_asm); (case uk => first | exact rfl | assumption); (case ud => ktr_room); (case uu => ktr_units))
        case uin => exact (List.forall_mem_cons.mpr ⟨by k_mem, (List.forall_mem_cons.mpr ⟨by k_mem, (List.forall_mem_cons.mpr ⟨by k_mem, (List.forall_mem_cons.mpr ⟨by k_mem, (List.forall_mem_cons.mpr ⟨by k_mem, (List.forall_mem_cons.mpr ⟨by k_mem, (List.forall_mem_cons.mpr ⟨by k_mem, (List.forall_mem_nil _)⟩)⟩)⟩)⟩)⟩)⟩)⟩)
        intro r9 l9 h9 tk9 F9 N9 f9 P9
        obtain ⟨fa, fen, R0, R1, R2, R3, R4, e9, e8, f0, f1, f2, f3, f4⟩ := P9
        subst e9 e8
        clear f9
        dsimp only [List.cons_append, List.nil_append] at N9
        (try dsimp only)
        (try k_fold)
        repeat' ((fail_if_success (with_reducible show wpAny _ _ (PySem.call (Value.ref 153) _) _ _ _)); first | (k_unfold; (try dsimp only)) | (k_end; wrow_close) | walk1 | (dsimp only; walk1) | (leave1; walk_say "STEP leave1"; try dsimp only) | fail "no step")
        k_dflt (refine' CodeSpec.use0 (road_spec (e := 5) (hRc (.type "list") (by simp) (by simp) (by simp)) (hRc (.type "range_iterator") (by simp) (by simp) (by simp)) lz0 lz1 lz2 lz3 lz4) ?uB ?uF ?uX ?uN ?uT ?uk ?uin ?ud ?uu ?_; (case uB => k_asm); (case uF => k_asm); (case uX => k_asm); (case uN => k_asm); (case uT => k_asm); (case uk => first | exact rfl | assumption); (case ud => ktr_room); (case uu => ktr_units))
        case uin => exact (List.forall_mem_cons.mpr ⟨by k_mem, by (repeat' (first | with_reducible assumption | exact in_self | refine in_tail ?_))⟩)
        intro r9 l9 h9 tk9 F9 N9 f9 P9
        obtain ⟨ra, ren, r0, r1, r2, r3, r4, r5, e9, e8, q0, q1, q2, q3, q4, q5⟩ := P9
        subst e9 e8
        clear f9
        dsimp only [List.cons_append, List.nil_append] at N9
        (try dsimp only)
        (try k_fold)
        repeat' ((fail_if_success (with_reducible show wpAny _ _ (PySem.call (Value.ref 158) _) _ _ _)); first | (k_unfold; (try dsimp only)) | (k_end; wrow_close) | walk1 | (dsimp only; walk1) | (leave1; walk_say "STEP leave1"; try dsimp only) | fail "no step")
        k_dflt (refine' CodeSpec.use0 (least_spec (z0 := z0) (z1 := z1) (z2 := z2) (z3 := z3) (z4 := z4) (e := en) ⟨ht0, hb0⟩ ⟨ht1, hb1⟩ ⟨ht2, hb2⟩ ⟨ht3, hb3⟩ ⟨ht4, hb4⟩) ?uB ?uF ?uX ?uN ?uT ?uk ?uin ?ud ?uu ?_; (case uB => k_asm); (case uF => k_asm); (case uX => k_asm); (case uN => k_asm); (case uT => k_asm); (case uk => first | exact rfl | assumption); (case ud => ktr_room); (case uu => ktr_units))
        case uin => exact (List.forall_mem_cons.mpr ⟨by k_mem, (List.forall_mem_cons.mpr ⟨by k_mem, (List.forall_mem_cons.mpr ⟨by k_mem, (List.forall_mem_cons.mpr ⟨by k_mem, (List.forall_mem_cons.mpr ⟨by k_mem, (List.forall_mem_cons.mpr ⟨by k_mem, (List.forall_mem_nil _)⟩)⟩)⟩)⟩)⟩)⟩)
        intro r9 l9 h9 tk9 F9 N9 f9 P9
        obtain ⟨la, len, ⟨sa0, sc0, st0, sk0, su0⟩, ⟨sa1, sc1, st1, sk1, su1⟩, ⟨sa2, sc2, st2, sk2, su2⟩, ⟨sa3, sc3, st3, sk3, su3⟩, ⟨sa4, sc4, st4, sk4, su4⟩, ⟨sa5, sc5, st5, sk5, su5⟩, e9, e8, g0, g1, g2, g3, g4, g5⟩ := P9
        subst e9 e8
        clear f9
        dsimp only at g0 g1 g2 g3 g4 g5
        obtain ⟨x0, y0⟩ := least_unique q0 g0; subst x0 y0
        obtain ⟨x1, y1⟩ := least_unique q1 g1; subst x1 y1
        obtain ⟨x2, y2⟩ := least_unique q2 g2; subst x2 y2
        obtain ⟨x3, y3⟩ := least_unique q3 g3; subst x3 y3
        obtain ⟨x4, y4⟩ := least_unique q4 g4; subst x4 y4
        obtain ⟨x5, y5⟩ := least_unique q5 g5; subst x5 y5
        clear g0 g1 g2 g3 g4 g5
        dsimp only [List.cons_append, List.nil_append] at N9
        (try dsimp only)
        (try k_fold)
        repeat' ((fail_if_success (with_reducible show wpAny _ _ (pyIter _) _ _ _)); first | (k_unfold; (try dsimp only)) | (k_end; wrow_close) | walk1 | (dsimp only; walk1) | (leave1; walk_say "STEP leave1"; try dsimp only) | fail "no step")
        rename IsRange _ _ _ _ _ _ _ _ => hRg
        rename News _ _ _ _ => N20
        have N21 := news_sub N20 (l := (ra, listOf #[.ref r0.a, .ref r1.a, .ref r2.a, .ref r3.a, .ref r4.a, .ref r5.a] ren) :: (fa, listOf #[.ref R0.a, .ref R1.a, .ref R2.a, .ref R3.a, .ref R4.a] fen) :: (mk, listOf #[.ref (markZ z0 a0 c00 c01 c02 k0).a, .ref (markZ z1 a1 c10 c11 c12 k1).a, .ref (markZ z2 a2 c20 c21 c22 k2).a, .ref (markZ z3 a3 c30 c31 c32 k3).a, .ref (markZ z4 a4 c40 c41 c42 k4).a] 5) :: [r0.ent, r1.ent, r2.ent, r3.ent, r4.ent, r5.ent, R0.ent, R1.ent, R2.ent, R3.ent, R4.ent, (markZ z0 a0 c00 c01 c02 k0).ent, (markZ z1 a1 c10 c11 c12 k1).ent, (markZ z2 a2 c20 c21 c22 k2).ent, (markZ z3 a3 c30 c31 c32 k3).ent, (markZ z4 a4 c40 c41 c42 k4).ent]) (List.forall_mem_cons.mpr ⟨by k_mem, (List.forall_mem_cons.mpr ⟨by k_mem, (List.forall_mem_cons.mpr ⟨by k_mem, (List.forall_mem_cons.mpr ⟨by k_mem, (List.forall_mem_cons.mpr ⟨by k_mem, (List.forall_mem_cons.mpr ⟨by k_mem, (List.forall_mem_cons.mpr ⟨by k_mem, (List.forall_mem_cons.mpr ⟨by k_mem, (List.forall_mem_cons.mpr ⟨by k_mem, (List.forall_mem_cons.mpr ⟨by k_mem, (List.forall_mem_cons.mpr ⟨by k_mem, (List.forall_mem_cons.mpr ⟨by k_mem, (List.forall_mem_cons.mpr ⟨by k_mem, (List.forall_mem_cons.mpr ⟨by k_mem, (List.forall_mem_cons.mpr ⟨by k_mem, (List.forall_mem_cons.mpr ⟨by k_mem, (List.forall_mem_cons.mpr ⟨by k_mem, (List.forall_mem_cons.mpr ⟨by k_mem, (List.forall_mem_cons.mpr ⟨by k_mem, (List.forall_mem_nil _)⟩)⟩)⟩)⟩)⟩)⟩)⟩)⟩)⟩)⟩)⟩)⟩)⟩)⟩)⟩)⟩)⟩)⟩)⟩)
        obtain ⟨Qd, hQd⟩ : ∃ Qd : Led, Qd = [r0.ent, r1.ent, r2.ent, r3.ent, r4.ent, r5.ent, R0.ent, R1.ent, R2.ent, R3.ent, R4.ent, (markZ z0 a0 c00 c01 c02 k0).ent, (markZ z1 a1 c10 c11 c12 k1).ent, (markZ z2 a2 c20 c21 c22 k2).ent, (markZ z3 a3 c30 c31 c32 k3).ent, (markZ z4 a4 c40 c41 c42 k4).ent] := ⟨_, rfl⟩
        have H : Road z0 z1 z2 z3 z4 (markZ z0 a0 c00 c01 c02 k0) (markZ z1 a1 c10 c11 c12 k1) (markZ z2 a2 c20 c21 c22 k2) (markZ z3 a3 c30 c31 c32 k3) (markZ z4 a4 c40 c41 c42 k4) R0 R1 R2 R3 R4 r0 r1 r2 r3 r4 r5 Qd :=
          ⟨ok, hM, fun k => by unfold pick; (repeat' split) <;> exact ⟨rfl, rfl⟩, f0, f1, f2, f3, f4, q0, q1, q2, q3, q4, q5, fun k => hQd ▸ pick_all (p := fun x : MarkZ => x.ent ∈ [r0.ent, r1.ent, r2.ent, r3.ent, r4.ent, r5.ent, R0.ent, R1.ent, R2.ent, R3.ent, R4.ent, (markZ z0 a0 c00 c01 c02 k0).ent, (markZ z1 a1 c10 c11 c12 k1).ent, (markZ z2 a2 c20 c21 c22 k2).ent, (markZ z3 a3 c30 c31 c32 k3).ent, (markZ z4 a4 c40 c41 c42 k4).ent]) (by k_mem) (by k_mem) (by k_mem) (by k_mem) (by k_mem) k,
            fun k => hQd ▸ pick_all (p := fun x : Row => x.ent ∈ [r0.ent, r1.ent, r2.ent, r3.ent, r4.ent, r5.ent, R0.ent, R1.ent, R2.ent, R3.ent, R4.ent, (markZ z0 a0 c00 c01 c02 k0).ent, (markZ z1 a1 c10 c11 c12 k1).ent, (markZ z2 a2 c20 c21 c22 k2).ent, (markZ z3 a3 c30 c31 c32 k3).ent, (markZ z4 a4 c40 c41 c42 k4).ent]) (by k_mem) (by k_mem) (by k_mem) (by k_mem) (by k_mem) k, hQd ▸ ⟨by k_mem, by k_mem, by k_mem, by k_mem, by k_mem, by k_mem⟩⟩
        rw [← hQd] at N21
        clear hQd N20 hM ok q0 q1 q2 q3 q4 q5 f0 f1 f2 f3 f4 hzs lz0 lz1 lz2 lz3 lz4 hRc
        generalize (markZ z0 a0 c00 c01 c02 k0) = M0 at N21 H
        generalize (markZ z1 a1 c10 c11 c12 k1) = M1 at N21 H
        generalize (markZ z2 a2 c20 c21 c22 k2) = M2 at N21 H
        generalize (markZ z3 a3 c30 c31 c32 k3) = M3 at N21 H
        generalize (markZ z4 a4 c40 c41 c42 k4) = M4 at N21 H
        have hr0 : 0 ≤ r0.k ∧ r0.k < 5 := ⟨H.q0.1, H.q0.2.1⟩
        refine' packP (σ := Tok × Tok × Tok) (fun z => [(Str.ofString "marks", .ref mk), (Str.ofString "far", .ref fa), (Str.ofString "road", .ref ra), (Str.ofString "stop", .int r0.k z.1), (Str.ofString "first", .int r0.k z.2.1), (Str.ofString "total", .int 0 z.2.2)]) (fun _ => (ra, listOf #[.ref r0.a, .ref r1.a, .ref r2.a, .ref r3.a, .ref r4.a, .ref r5.a] ren) :: (fa, listOf #[.ref R0.a, .ref R1.a, .ref R2.a, .ref R3.a, .ref R4.a] fen) :: (mk, listOf #[.ref M0.a, .ref M1.a, .ref M2.a, .ref M3.a, .ref M4.a] 5) :: Qd) (fun _ => True) ?pF ?pN ⟨_, _, _⟩ ?pm ?pn ?pp ?_
        case pF => k_asm
        case pN => exact N21
        case pn => exact fun p hp => hp
        case pm => kst_all
        case pp => trivial
        rintro ⟨j1, j2, j3⟩ m20 hm20 _ F21 N22
        clear N21
        dsimp only at hm20
        refine iter_rangeUnr (n := 5) (by rfl) hRg (range_small (by decide) (by decide) (by decide) (by decide)) (range_size (.inl ⟨by decide, by decide⟩)) F21 N22 (fun I hI => ?_)
        refine range_inv (σ := LoopL) (fun _ _ => (ra, listOf #[.ref r0.a, .ref r1.a, .ref r2.a, .ref r3.a, .ref r4.a, .ref r5.a] ren) :: (fa, listOf #[.ref R0.a, .ref R1.a, .ref R2.a, .ref R3.a, .ref R4.a] fen) :: (mk, listOf #[.ref M0.a, .ref M1.a, .ref M2.a, .ref M3.a, .ref M4.a] 5) :: Qd) (fun i z => [(Str.ofString "marks", .ref mk), (Str.ofString "far", .ref fa), (Str.ofString "road", .ref ra), (Str.ofString "stop", .int z.s z.ks), (Str.ofString "first", .int r0.k j2), (Str.ofString "total", .int z.tot z.kt)])
          (fun i z => (rsAt r0 r1 r2 r3 r4 r5 i).k = z.s ∧ Total M0 M1 M2 M3 M4 r0.k z.s z.tot) ?stepL ?doneL 5 0 _ _ rfl (fun p hp => Nat.ne_of_lt (hI p hp)) ⟨⟨r0.k, j1, 0, j3⟩, rfl, hm20, rfl, by dsimp only; exact ⟨Int.le_refl _, by omega, by omega⟩⟩
        case doneL =>
          intro z v h tk hP F23 N23
          obtain ⟨sk, ks, tot, kt⟩ := z
          dsimp only [kstB] at hP F23 N23
          obtain ⟨hs, hT⟩ := hP
          obtain ⟨_, _, hl⟩ := H.at 5 (by omega)
          rw [hs] at hl
          have hs5 : 0 ≤ sk ∧ sk < 5 := ⟨hl.1, hl.2.1⟩
          obtain ⟨t0', t30, hdue⟩ := H.total hT
          obtain ⟨mx, hmx⟩ : ∃ x, max r0.k sk = x := ⟨_, rfl⟩
          obtain ⟨mn, hmn⟩ : ∃ x, min r0.k sk = x := ⟨_, rfl⟩
          rw [hmx, hmn] at hdue
          obtain ⟨tw, hw⟩ := far_at H.f0 H.f1 H.f2 H.f3 H.f4 (m := mx) (n := mn) (by omega) (by omega) (by omega)
          rw [hdue] at hw
          obtain ⟨RX, hRX⟩ : ∃ RX, pick R0 R1 R2 R3 R4 mx = RX := ⟨_, rfl⟩
          have mRX : RX.ent ∈ Qd := hRX ▸ H.rm _
          rw [hRX] at hw
          have x1 : 0 ≤ mx := by omega
          have x2 : mx < 5 := by omega
          have x3 : 0 ≤ mn := by omega
          have x4 : mn < 5 := by omega
          have N24 := news_sub N23 (l := RX.ent :: _) (List.forall_mem_cons.mpr ⟨.tail _ (.tail _ (.tail _ mRX)), fun p hp => hp⟩)
          clear N23
          dsimp only
          repeat' ((fail_if_success (with_reducible show wpAny _ _ (subscriptTail _ (Expr.Call _ _ _ _) _ _) _ _ _)); first | (k_unfold; (try dsimp only)) | (k_end; wrow_close) | walk1 | (dsimp only; walk1) | (leave1; walk_say "STEP leave1"; try dsimp only) | fail "no step")
          k_dflt (refine' sub_pickI (fun r : Row => Value.ref r.a) ?N ?m ?h0 ?h5 ?x ?_ ?s; (case N => k_asm); (case m => k_mem); (case h0 => exact x1); (case h5 => exact x2); (case x => exact hRX); (case s => with_unfolding_all rfl))
          (try dsimp only)
          repeat' ((fail_if_success (with_reducible show wpAny _ _ (subscriptTail _ (Expr.Call _ _ _ _) _ _) _ _ _)); first | (k_unfold; (try dsimp only)) | (k_end; wrow_close) | walk1 | (dsimp only; walk1) | (leave1; walk_say "STEP leave1"; try dsimp only) | fail "no step")
          k_dflt (refine' sub_atI ?N ?m ?h0 ?h5 ?x ?_ ?s; (case N => k_asm); (case m => exact List.Mem.head _); (case h0 => exact x3); (case h5 => exact x4); (case x => exact hw); (case s => with_unfolding_all rfl))
          (try dsimp only)
          repeat' ( first | (k_unfold; (try dsimp only)) | (k_end; wrow_close) | walk1 | (dsimp only; walk1) | (leave1; walk_say "STEP leave1"; try dsimp only) | fail "no step")
        case stepL =>
          intro i z v t h tk hi hP ho F23 N23
          obtain ⟨sk, ks, tot, kt⟩ := z
          dsimp only [kstB] at hP ho F23 N23 ⊢
          obtain ⟨hs, hT⟩ := hP
          obtain ⟨_, _, hl⟩ := H.at i (by omega)
          rw [hs] at hl
          have hs5 : 0 ≤ sk ∧ sk < 5 := ⟨hl.1, hl.2.1⟩
          obtain ⟨hx, mrx, hl'⟩ := H.at (i + 1) (by omega)
          obtain ⟨rx, hrx⟩ : ∃ rx, rsAt r0 r1 r2 r3 r4 r5 (i + 1) = rx := ⟨_, rfl⟩
          rw [hrx] at hx mrx hl'
          have hq5 : 0 ≤ rx.k ∧ rx.k < 5 := ⟨hl'.1, hl'.2.1⟩
          obtain ⟨t0', t30, _⟩ := H.total hT
          obtain ⟨mx, hmx⟩ : ∃ x, max sk rx.k = x := ⟨_, rfl⟩
          obtain ⟨mn, hmn⟩ : ∃ x, min sk rx.k = x := ⟨_, rfl⟩
          have x1 : 0 ≤ mx := by omega
          have x2 : mx < 5 := by omega
          have x3 : 0 ≤ mn := by omega
          have x4 : mn < 5 := by omega
          obtain ⟨tw, hw⟩ := far_at H.f0 H.f1 H.f2 H.f3 H.f4 (m := mx) (n := mn) (by omega) (by omega) (by omega)
          obtain ⟨RX, hRX⟩ : ∃ RX, pick R0 R1 R2 R3 R4 mx = RX := ⟨_, rfl⟩
          have mRX : RX.ent ∈ Qd := hRX ▸ H.rm _
          rw [hRX] at hw
          obtain ⟨X, hX⟩ : ∃ X, pick M0 M1 M2 M3 M4 sk = X := ⟨_, rfl⟩
          obtain ⟨Y, hY⟩ : ∃ Y, pick M0 M1 M2 M3 M4 rx.k = Y := ⟨_, rfl⟩
          have mX : X.ent ∈ Qd := hX ▸ H.mm _
          have mY : Y.ent ∈ Qd := hY ▸ H.mm _
          have oX : X.Ok := hX ▸ H.mok _
          have oY : Y.Ok := hY ▸ H.mok _
          obtain ⟨wy, hwy⟩ : ∃ wy, dueM (pick M0 M1 M2 M3 M4 mx) (pick M0 M1 M2 M3 M4 mn) = wy := ⟨_, rfl⟩
          rw [hwy] at hw
          have bw : 0 ≤ wy ∧ wy ≤ 100 := by
            have o1 := H.mok mx; have o2 := H.mok mn
            rw [← hwy]
            exact due_bound o1 o2
          have bX : -100 ≤ X.m1 ∧ X.m1 ≤ 100 := by obtain ⟨g1, g2, g3, _, _⟩ := oX; omega
          have bY : -100 ≤ Y.m1 ∧ Y.m1 ≤ 100 := by obtain ⟨g1, g2, g3, _, _⟩ := oY; omega
          have k0 : 0 ≤ rx.k := hq5.1
          have k5 : rx.k < 5 := hq5.2
          have k0' : 0 ≤ sk := hs5.1
          have k5' : sk < 5 := hs5.2
          have N24 := news_sub N23 (l := rx.ent :: X.ent :: Y.ent :: RX.ent :: _) (List.forall_mem_cons.mpr ⟨.tail _ (.tail _ (.tail _ (.tail _ mrx))), List.forall_mem_cons.mpr ⟨.tail _ (.tail _ (.tail _ (.tail _ mX))), List.forall_mem_cons.mpr ⟨.tail _ (.tail _ (.tail _ (.tail _ mY))), List.forall_mem_cons.mpr ⟨.tail _ (.tail _ (.tail _ (.tail _ mRX))), fun p hp => hp⟩⟩⟩⟩)
          clear N23
          rw [show (1 : Int) + (i : Int) = ((i + 1 : Nat) : Int) from by omega] at F23
          repeat' ((fail_if_success (with_reducible show wpAny _ _ (subscriptTail _ (Expr.Call _ _ _ _) _ _) _ _ _)); (fail_if_success (with_reducible show wpAny _ _ (PySem.call (Value.ref 165) _) _ _ _)); (fail_if_success (with_reducible show UnrEnd _ _ _ _ _ _ _)); (fail_if_success (with_reducible show KswEnd _ _ _ _ _ _ _ _ _ _ _ _)); first | (k_unfold; (try dsimp only)) | (k_end; wrow_close) | walk1 | (dsimp only; walk1) | (leave1; walk_say "STEP leave1"; try dsimp only) | fail "no step")
          · k_dflt (refine' sub_pickI (fun r : Row => Value.ref r.a) ?N ?m ?h0 ?h5 ?x ?_ ?s; (case N => k_asm); (case m => k_mem); (case h0 => exact x1); (case h5 => exact x2); (case x => exact hRX); (case s => with_unfolding_all rfl))
            (try dsimp only)
            repeat' ((fail_if_success (with_reducible show wpAny _ _ (subscriptTail _ (Expr.Call _ _ _ _) _ _) _ _ _)); (fail_if_success (with_reducible show wpAny _ _ (PySem.call (Value.ref 165) _) _ _ _)); (fail_if_success (with_reducible show UnrEnd _ _ _ _ _ _ _)); (fail_if_success (with_reducible show KswEnd _ _ _ _ _ _ _ _ _ _ _ _)); first | (k_unfold; (try dsimp only)) | (k_end; wrow_close) | walk1 | (dsimp only; walk1) | (leave1; walk_say "STEP leave1"; try dsimp only) | fail "no step")
            k_dflt (refine' sub_atI ?N ?m ?h0 ?h5 ?x ?_ ?s; (case N => k_asm); (case m => k_mem); (case h0 => exact x3); (case h5 => exact x4); (case x => exact hw); (case s => with_unfolding_all rfl))
            (try dsimp only)
            repeat' ((fail_if_success (with_reducible show wpAny _ _ (subscriptTail _ (Expr.Call _ _ _ _) _ _) _ _ _)); (fail_if_success (with_reducible show wpAny _ _ (subscriptTail _ _ (Value.ref mk) _) _ _ _)); (fail_if_success (with_reducible show wpAny _ _ (subscriptTail _ _ (Value.ref X.a) _) _ _ _)); (fail_if_success (with_reducible show wpAny _ _ (subscriptTail _ _ (Value.ref Y.a) _) _ _ _)); (fail_if_success (with_reducible show wpAny _ _ (PySem.call (Value.ref 165) _) _ _ _)); (fail_if_success (with_reducible show UnrEnd _ _ _ _ _ _ _)); (fail_if_success (with_reducible show KswEnd _ _ _ _ _ _ _ _ _ _ _ _)); first | (k_unfold; (try dsimp only)) | (k_end; wrow_close) | walk1 | (dsimp only; walk1) | (leave1; walk_say "STEP leave1"; try dsimp only) | fail "no step")
            k_dflt (refine' sub_pickI (fun m : MarkZ => Value.ref m.a) ?N ?m ?h0 ?h5 ?x ?_ ?s; (case N => k_asm); (case m => k_mem); (case h0 => exact k0); (case h5 => exact k5); (case x => exact hY); (case s => with_unfolding_all rfl))
            (try dsimp only)
            repeat' ((fail_if_success (with_reducible show wpAny _ _ (subscriptTail _ (Expr.Call _ _ _ _) _ _) _ _ _)); (fail_if_success (with_reducible show wpAny _ _ (subscriptTail _ _ (Value.ref mk) _) _ _ _)); (fail_if_success (with_reducible show wpAny _ _ (subscriptTail _ _ (Value.ref X.a) _) _ _ _)); (fail_if_success (with_reducible show wpAny _ _ (subscriptTail _ _ (Value.ref Y.a) _) _ _ _)); (fail_if_success (with_reducible show wpAny _ _ (PySem.call (Value.ref 165) _) _ _ _)); (fail_if_success (with_reducible show UnrEnd _ _ _ _ _ _ _)); (fail_if_success (with_reducible show KswEnd _ _ _ _ _ _ _ _ _ _ _ _)); first | (k_unfold; (try dsimp only)) | (k_end; wrow_close) | walk1 | (dsimp only; walk1) | (leave1; walk_say "STEP leave1"; try dsimp only) | fail "no step")
            k_dflt (refine' sub_news (its := #[.int Y.m1 Y.q1, .int Y.m2 Y.q2, .int Y.m3 Y.q3]) (n := 0) ?N ?m ?h0 ?h5 ?x ?_ ?s; (case N => k_asm); (case m => k_mem); (case h0 => decide); (case h5 => decide); (case x => rfl); (case s => with_unfolding_all rfl))
            (try dsimp only)
            repeat' ((fail_if_success (with_reducible show wpAny _ _ (subscriptTail _ (Expr.Call _ _ _ _) _ _) _ _ _)); (fail_if_success (with_reducible show wpAny _ _ (subscriptTail _ _ (Value.ref mk) _) _ _ _)); (fail_if_success (with_reducible show wpAny _ _ (subscriptTail _ _ (Value.ref X.a) _) _ _ _)); (fail_if_success (with_reducible show wpAny _ _ (subscriptTail _ _ (Value.ref Y.a) _) _ _ _)); (fail_if_success (with_reducible show wpAny _ _ (PySem.call (Value.ref 165) _) _ _ _)); (fail_if_success (with_reducible show UnrEnd _ _ _ _ _ _ _)); (fail_if_success (with_reducible show KswEnd _ _ _ _ _ _ _ _ _ _ _ _)); first | (k_unfold; (try dsimp only)) | (k_end; wrow_close) | walk1 | (dsimp only; walk1) | (leave1; walk_say "STEP leave1"; try dsimp only) | fail "no step")
            k_dflt (refine' sub_pickI (fun m : MarkZ => Value.ref m.a) ?N ?m ?h0 ?h5 ?x ?_ ?s; (case N => k_asm); (case m => k_mem); (case h0 => exact k0'); (case h5 => exact k5'); (case x => exact hX); (case s => with_unfolding_all rfl))
            (try dsimp only)
            repeat' ((fail_if_success (with_reducible show wpAny _ _ (subscriptTail _ (Expr.Call _ _ _ _) _ _) _ _ _)); (fail_if_success (with_reducible show wpAny _ _ (subscriptTail _ _ (Value.ref mk) _) _ _ _)); (fail_if_success (with_reducible show wpAny _ _ (subscriptTail _ _ (Value.ref X.a) _) _ _ _)); (fail_if_success (with_reducible show wpAny _ _ (subscriptTail _ _ (Value.ref Y.a) _) _ _ _)); (fail_if_success (with_reducible show wpAny _ _ (PySem.call (Value.ref 165) _) _ _ _)); (fail_if_success (with_reducible show UnrEnd _ _ _ _ _ _ _)); (fail_if_success (with_reducible show KswEnd _ _ _ _ _ _ _ _ _ _ _ _)); first | (k_unfold; (try dsimp only)) | (k_end; wrow_close) | walk1 | (dsimp only; walk1) | (leave1; walk_say "STEP leave1"; try dsimp only) | fail "no step")
            k_dflt (refine' sub_news (its := #[.int X.m1 X.q1, .int X.m2 X.q2, .int X.m3 X.q3]) (n := 0) ?N ?m ?h0 ?h5 ?x ?_ ?s; (case N => k_asm); (case m => k_mem); (case h0 => decide); (case h5 => decide); (case x => rfl); (case s => with_unfolding_all rfl))
            (try dsimp only)
            repeat' ((fail_if_success (with_reducible show wpAny _ _ (subscriptTail _ (Expr.Call _ _ _ _) _ _) _ _ _)); (fail_if_success (with_reducible show wpAny _ _ (subscriptTail _ _ (Value.ref mk) _) _ _ _)); (fail_if_success (with_reducible show wpAny _ _ (subscriptTail _ _ (Value.ref X.a) _) _ _ _)); (fail_if_success (with_reducible show wpAny _ _ (subscriptTail _ _ (Value.ref Y.a) _) _ _ _)); (fail_if_success (with_reducible show wpAny _ _ (PySem.call (Value.ref 165) _) _ _ _)); (fail_if_success (with_reducible show UnrEnd _ _ _ _ _ _ _)); (fail_if_success (with_reducible show KswEnd _ _ _ _ _ _ _ _ _ _ _ _)); first | (k_unfold; (try dsimp only)) | (k_end; wrow_close) | walk1 | (dsimp only; walk1) | (leave1; walk_say "STEP leave1"; try dsimp only) | fail "no step")
            rename rx.k ≠ sk => hne
            obtain ⟨t, b, t', b', e1, e2, e3, e4, w1, w2, w3, w4, w5, w6, w7, w8, w9⟩ := H.turn hi hs (by rw [hrx]) hne
            rw [hmx, hmn, hwy] at w7
            rw [hX, hY] at w8
            rw [← w7, ← w8] at w9
            have hTn := H.total_next hT hi hs (by rw [hrx]) hne
            rw [hmx, hmn, hwy] at hTn
            k_dflt (refine' CodeSpec.use0 (turn_spec (p := sk) (q := rx.k) (way := wy) (signs := Int.fdiv (Y.m1 - X.m1) 2) hs5 hq5 bw (by rw [w8]; omega) (by rw [w7, w8]; omega)) ?uB ?uF ?uX ?uN ?uT ?uk ?uin ?ud ?uu ?_; (case uB => k_asm); (case uF => k_asm); (case uX => k_asm); (case uN => k_asm); (case uT => k_asm); (case uk => first | exact rfl | assumption); (case ud => ktr_room); (case uu => ktr_units))
            case uin => exact (List.forall_mem_nil _)
            intro r9 l9 h9 tk9 F9 N9 f9 P9
            obtain ⟨⟨k9, e9⟩, e8⟩ := P9
            subst e9 e8
            clear f9
            rw [w9]
            dsimp only [List.nil_append] at N9
            (try dsimp only)
            repeat' ( (fail_if_success (with_reducible show UnrEnd _ _ _ _ _ _ _)); (fail_if_success (with_reducible show KswEnd _ _ _ _ _ _ _ _ _ _ _ _)); first | (k_unfold; (try dsimp only)) | (k_end; wrow_close) | walk1 | (dsimp only; walk1) | (leave1; walk_say "STEP leave1"; try dsimp only) | fail "no step")
            all_goals first
              | exact absurd rfl (by assumption)
              | (refine unr_end2 (⟨rx.k, _, tot + wy, _⟩ : LoopL) (by k_asm) (by k_asm) (by k_mem) (List.forall_mem_cons.mpr ⟨by k_mem, List.forall_mem_cons.mpr ⟨by k_mem, List.forall_mem_cons.mpr ⟨by k_mem, (by (repeat' (first | with_reducible assumption | exact in_self | refine in_tail ?_)))⟩⟩⟩) ho (by kst_all) ⟨by rw [hrx], hTn⟩)
          · refine unr_end2 (⟨sk, ks, tot, kt⟩ : LoopL) (by k_asm) (by k_asm) (by k_mem) ?es ho (by kst_all) ?ep
            case es => exact (List.forall_mem_cons.mpr ⟨by k_mem, List.forall_mem_cons.mpr ⟨by k_mem, List.forall_mem_cons.mpr ⟨by k_mem, (by (repeat' (first | with_reducible assumption | exact in_self | refine in_tail ?_)))⟩⟩⟩)
            case ep =>
              rename rx.k = sk => heq
              exact ⟨by rw [hrx]; exact heq, hT⟩)
end
end Mine
theorem PySem.Challenge.cw_qj0008_01_holds : PySem.Challenge.rw_qj0008_01.Holds := by
  exact Mine.law_holds
