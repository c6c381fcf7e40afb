import PyProof.Rows.All
import Wide.All
import OpenK.AllK
import Wide.FinOn
import PySem.Challenge.RW_qj0008_01
open PySem PySem.W PyProof.Rows PySem.Calls
set_option Elab.async false
set_option maxRecDepth 100000
set_option maxHeartbeats 0
set_option rowWalk.seconds 0
namespace Mine
theorem left_boot {p q : Program} {loose : List Str} {Xt : Shared → Bool} {α : Type} {Yf : Shared → α} {Ya : World → α} {N : Nat} {g0 : Bool} (row : String)
    (e : opening p = plainProg p.main.scope.names) (hN : Nat.ble 600 N = true) (f : ∀ s, fenceModules? p s = some s)
    (h : ∀ (b : Bool) (w : World) (os : OsState), (topFrom treeTable p (w.withFollow row b) N ⟨boot_heap w.params, Array.mk [], boot_drawn, boot_toks, os⟩).map (fun s => (openSeen q loose (importedModules p.main.body) Xt g0 s, Yf s)) = some (openGood q loose, Ya (w.withFollow row b))) : LeftO p q loose Xt Yf Ya N g0 := fun w => by
  obtain ⟨s₀, a, b⟩ := Option.map_eq_some_iff.mp (boot_open e hN f w)
  obtain ⟨hp, gs, d, k, os⟩ := s₀
  obtain ⟨rfl, rfl, rfl, rfl⟩ : hp = boot_heap w.params ∧ gs = Array.mk [] ∧ d = boot_drawn ∧ k = boot_toks := by simpa using b
  have z := h (w.params.followText row) w os
  rw [World.withFollow_self] at z
  unfold openEnds
  rw [a]
  exact z
/-- the text without the rows that bind names anew -/
def vw : Program := view PySem.Challenge.rw_qj0008_01.row.prog [0, 2, 3, 4, 5, 7, 9, 10, 11, 12, 13, 15, 16, 17, 18, 19, 20, 21]
local macro_rules | `(tactic| o_law) => `(tactic| refine holds_law ((congrFun PySem.W.Fast.te9446332074065402090 _).trans (by kernel_rfl)) fun said => ?_)
local macro_rules | `(tactic| o_head $H) => `(tactic| (apply holds_open (r := PySem.Challenge.rw_qj0008_01.row) (q := vw) (loose := [Str.ofString "Whitespace"]) (Xt := fun s => xlAt vw [] s && recOk (RowW.records PySem.Challenge.rw_qj0008_01.row.toRowW) s) (XP := XL vw []) (Yf := Hook.obs $H) (Ya := Hook.val $H) (YP := Hook.says $H) (N := 2098) (left_boot "special-get-raises" (by kernel_rfl) (by kernel_rfl) (fun _ => by kernel_rfl) (fun b w os => by (unfold topFrom; rw [PySem.W.Fast.te14082659384304107361, PySem.W.Fast.te4187177175401517315]; cases b <;> kernel_rfl))) (Hook.of $H) (Hook.keeps $H) (fun s e => xl_of s (Bool.and_eq_true_iff.mp e).1) XL.keeps (by rfl) (by rfl) (by rfl) (fun s e => recFacts_of (Bool.and_eq_true_iff.mp e).2) (by rfl) (by assumption) (by decide +kernel) ⟨rfl, rfl, rfl, rfl, rfl, by decide +kernel⟩))
open_top hd for PySem.Challenge.rw_qj0008_01
/-- open_top leaves the lines of the top switched on: off again, for the walks below -/
theorem top_off : True := by
  w_top off
  trivial
abbrev Led := List (Addr × Obj)
abbrev tup2 (c : Int) (t : Tok) (k : Int) (u : Tok) : Obj := { cls := .type "tuple", data := .seq #[.int c t, .int k u] 0 }
def lexLt (c1 k1 c2 k2 : Int) : Prop := c1 < c2 ∨ (c1 = c2 ∧ k1 < k2)
noncomputable def nthV : List Value → Nat → Option Value
  | [], _ => none
  | v :: _, 0 => some v
  | _ :: r, n + 1 => nthV r n
theorem nthV_eq : ∀ (l : List Value) (n : Nat), nthV l n = l[n]?
  | [], _ => rfl
  | _ :: _, 0 => rfl
  | _ :: r, n + 1 => by simpa [nthV] using nthV_eq r n
section
variable {prog : Program} {w : World} {A : Around} {E : Value → Shared → Prop} {s : Shared} {Q : Value → Shared → Prop} {a b : Addr} {c1 k1 c2 k2 : Int} {t1 u1 t2 u2 : Tok}
theorem lt_tup2 (ha : s.heap.get? a = some (tup2 c1 t1 k1 u1)) (hb : s.heap.get? b = some (tup2 c2 t2 k2 u2)) (hu : A.units < cLine)
    (h : Q (.bool (decide (c1 < c2 ∨ (c1 = c2 ∧ k1 < k2)))) s) : wpAny (model prog w) A (compareOp .Lt (.ref a) (.ref b)) Q E s := by
  have hTa : s.TypeIs (.ref a) "tuple" := (show IsTup s.heap a _ from ⟨_, ha, rfl, 0, rfl⟩).typeIs
  have hTb : s.TypeIs (.ref b) "tuple" := (show IsTup s.heap b _ from ⟨_, hb, rfl, 0, rfl⟩).typeIs
  show wpAny _ _ (richCompare .Lt (.ref a) (.ref b)) Q E s
  refine wpAny_richCompare_same_room (op := .Lt) (T := "tuple") hTa hTb F.slot_tuple_lt (wpAny_call_entry F.slot_tuple_lt hTa F.entry_tuple_lt ?_ (F.args_tuple_lt_2 _ _)) hu
  show wpAny _ _ (isInstance (.ref b) (.type "tuple") >>= _) _ _ s
  refine wpAny_bind (wpAny_isInstance hTb isSubtype_tuple_tuple ?_)
  simp only [Bool.not_true, Bool.false_eq_true, if_false]
  refine wpAny_bind (wpAny_tupleItemsOf ha rfl ?_)
  refine wpAny_bind (wpAny_tupleItemsOf hb rfl ?_)
  refine wpAny_bind ?_
  simp only [List.zip_cons_cons, List.zip_nil_right, List.forIn_cons, List.forIn_nil]
  refine wpAny_bind (wpAny_bind (wpAny_eqBool_int ?_))
  by_cases hc : c1 = c2
  · rw [show (c1 == c2) = true from by simp [hc]]
    simp only [Bool.not_true, Bool.false_eq_true, if_false]
    refine wpAny_pure ?_
    dsimp only
    refine wpAny_bind (wpAny_bind (wpAny_eqBool_int ?_))
    by_cases hk : k1 = k2
    · rw [show (k1 == k2) = true from by simp [hk]]
      simp only [Bool.not_true, Bool.false_eq_true, if_false]
      rw [decide_eq_false (by omega)] at h
      refine wpAny_pure (wpAny_pure (wpAny_pure ⟨.bool false, rfl, by simp, h⟩))
    · rw [show (k1 == k2) = false from by simp [hk]]
      simp only [Bool.not_false, if_true]
      refine wpAny_bind (wpAny_rule (wpAny_bind (wpAny_lt_int (wpAny_bind (wpAny_pure (wpAny_pure ?_))))))
      refine wpAny_pure (wpAny_pure ⟨_, rfl, by simp, ?_⟩)
      rw [show decide (k1 < k2) = decide (c1 < c2 ∨ (c1 = c2 ∧ k1 < k2)) from by apply decide_eq_decide.mpr; omega]
      exact h
  · rw [show (c1 == c2) = false from by simp [hc]]
    simp only [Bool.not_false, if_true]
    refine wpAny_bind (wpAny_rule (wpAny_bind (wpAny_lt_int (wpAny_bind (wpAny_pure (wpAny_pure ?_))))))
    refine wpAny_pure (wpAny_pure ⟨_, rfl, by simp, ?_⟩)
    rw [show decide (c1 < c2) = decide (c1 < c2 ∨ (c1 = c2 ∧ k1 < k2)) from by apply decide_eq_decide.mpr; omega]
    exact h
theorem ne_tup2_same {u3 t3 : Tok} (ha : s.heap.get? a = some (tup2 c1 t1 k1 u1)) (hb : s.heap.get? b = some (tup2 c1 t3 k1 u3)) (hu : A.units < cLine)
    (h : Q (.bool false) s) : wpAny (model prog w) A (compareOp .NotEq (.ref a) (.ref b)) Q E s := by
  have hTa : s.TypeIs (.ref a) "tuple" := (show IsTup s.heap a _ from ⟨_, ha, rfl, 0, rfl⟩).typeIs
  have hTb : s.TypeIs (.ref b) "tuple" := (show IsTup s.heap b _ from ⟨_, hb, rfl, 0, rfl⟩).typeIs
  show wpAny _ _ (richCompare .NotEq (.ref a) (.ref b)) Q E s
  refine wpAny_richCompare_same_room (op := .NotEq) (T := "tuple") hTa hTb F.slot_tuple_ne (wpAny_call_entry F.slot_tuple_ne hTa F.entry_tuple_ne ?_ (F.args_tuple_ne_2 _ _)) hu
  show wpAny _ _ (isInstance (.ref b) (.type "tuple") >>= _) _ _ s
  refine wpAny_bind (wpAny_isInstance hTb isSubtype_tuple_tuple ?_)
  simp only [Bool.not_true, Bool.false_eq_true, if_false]
  refine wpAny_bind (wpAny_tupleItemsOf ha rfl ?_)
  refine wpAny_bind (wpAny_tupleItemsOf hb rfl ?_)
  refine wpAny_bind ?_
  simp only [List.zip_cons_cons, List.zip_nil_right, List.forIn_cons, List.forIn_nil]
  refine wpAny_bind (wpAny_bind (wpAny_eqBool_int ?_))
  rw [show (c1 == c1) = true from by simp]
  simp only [Bool.not_true, Bool.false_eq_true, if_false]
  refine wpAny_pure ?_
  dsimp only
  refine wpAny_bind (wpAny_bind (wpAny_eqBool_int ?_))
  rw [show (k1 == k1) = true from by simp]
  simp only [Bool.not_true, Bool.false_eq_true, if_false]
  exact wpAny_pure (wpAny_pure (wpAny_pure ⟨.bool false, rfl, by simp, h⟩))
theorem sub_news {value slice : PySem.Expr} {h₀ : Heap} {L D : Addr} {news : Led} {its : Array Value} {n : Nat} {k : Int} {u : Tok} {v : Value} (N : News h₀ L s.heap news) (hm : (D, listOf its n) ∈ news) (h0 : 0 ≤ k) (hfit : k < 2 ^ 63) (hx : nthV its.toList k.toNat = some v) (h : Q v s)
    (hs : subscripted slice false (.ref D) (.int k u) = operate [.ref D, .int k u] (getItem (.ref D) (.int k u)) := by with_unfolding_all rfl) :
    wpAny (model prog w) A (subscriptTail value slice (.ref D) (.int k u)) Q E s :=
  have hL : s.heap.IsList D its := PySem.IsL.isList (n := n) (N _ hm).1
  tail_any hL.typeIs slot_list_getitem.lookup (wpAny_getItem_list hL h0 hfit (by rw [← Array.getElem?_toList, ← nthV_eq]; exact hx) h) hs
end
/-- all that stood stands, but at `ms` -/
def Keeps (h h' : Heap) (ms : List Nat) : Prop := ∀ (b : Nat) (o : Obj), h.get? b = some o → b ∉ ms → h'.get? b = some o

section
variable {prog : Program} {w : World} {A A₀ : Around} {E : Value → Shared → Prop} {s : Shared} {K : Frag} {L : Addr} {h₀ base : Heap} {m mg mb : Str → Option Value} {news : Led} {p : Program} {loose : List Str} {mean : ExcName → Option Value} {Q : Value → Shared → Prop}
theorem spec_code {env : Env} {outer : List Env} {R : Result → Shared → Prop} {name qual : Str} {params : Arguments} {body : List Stmt} {scope : Scope} {dV kV doc pm cdv ct oc : Value} {an od : Option Addr} {osl : Array (Option Value)} {f : Addr} {args : Args} {binds : List (Str × Value)}
    (B : Below A₀ base outer h₀) (F : Fr h₀ L s.heap m) (X₀ : K.In h₀) (N : News h₀ L s.heap news) (T : Top p loose mean mg mb h₀) (hA : A.frames = some (env :: outer)) (hf : env.frame = some L) (hke : env.scope.kind = .function)
    (ho : K.lookup f = some ⟨oc, od, .func (fnOf name qual params body scope dV kV doc pm an cdv ct), osl⟩) (hcd : codeIn K cdv qual = true) (hroom : A.depth < recursionLimit)
    (hbind : BindsTo s (fnOf name qual params body scope dV kV doc pm an cdv ct) args binds) (hloc : ∀ y ∈ binds, scope.names.lookup y.1 = some .local)
    (h : ∀ g L' h₁, Fr h₀ L g m → Fr g L' h₁ (fun y => binds.reverse.lookup y) → News g L' h₁ news → Below A base (env :: outer) g → K.In g → Top p loose mean mg mb g → Keeps s.heap g (news.map (·.1)) →
      wpAny (model prog w) (A.deeper (envOf qual scope L' f cdv)) (execs body (envOf qual scope L' f cdv))
        (fun fl s' => LeaveK h₀ L m g R (match fl with | .ret v => v | _ => .none) s')
        (fun e s' => wpAny (model prog w) (A.deeper (envOf qual scope L' f cdv)) (leaving (envOf qual scope L' f cdv) e) (fun _ s'' => R (.error e) s'') (fun e' s'' => R (.error e') s'') s')
        { s with heap := h₁, toks := s.toks + binds.length })
    (hco : scope.isCoroutine = false) (hgen : scope.isGenerator = false) (hk : scope.kind = .function)
    (hcell : ∀ x ∈ scope.names, x.2 ≠ .cell) : codeAny (model prog w) A (.call (.ref f) args) R s := by
  obtain ⟨FG, BG, st, lv⟩ := groundX (R := R) B F N hA hf hke
  refine codeAny_call_def (fd := fnOf name qual params body scope dV kV doc pm an cdv ct) (body := body) (binds := binds) hroom ((X₀.keeps F.keep) _ _ ho) rfl (T.nolimit.keeps F.keep) (codeRec_of (X₀.keeps F.keep) hcd) rfl hbind hcell hloc (fun h₁ hns hk₁ => ?_) hco hgen hk
  exact wpAny_mono (h _ s.heap.objs.size h₁ FG ⟨hns, fun b o e => hk₁ b o (of_hideAll _ e), Nat.le_of_eq (hideAll_size _ _)⟩
    (fun p hp => ⟨hk₁ _ _ (N p hp).1, Nat.ne_of_lt (Heap.lt_size (N p hp).1), hideAll_none _ (List.mem_map_of_mem hp)⟩) BG (X₀.keeps st) (T.keeps st) (fun b o e hn => hideAll_get _ e hn)) (fun fl s' hl => lv _ _ hl) fun _ _ y => y

/-- what a call hands on -/
abbrev Ret (h₀ : Heap) (L : Addr) (m : Str → Option Value) (s : Shared) (sub : Led) (ms : List Nat) (Post : Value → Led → Prop) (Q : Value → Shared → Prop) : Prop :=
  ∀ (r : Value) (sub' : Led) (h' : Heap) (tk' : Nat), Fr h₀ L h' m → News h₀ L h' sub' → Keeps s.heap h' ms → (∀ p ∈ sub', p.1 ∈ ms ∨ p ∈ sub ∨ s.heap.get? p.1 = none) → Post r sub' → Q r { s with heap := h', toks := tk' }
theorem ret_end {g : Heap} {L' : Addr} {m' : Str → Option Value} {sub sub' led : Led} {ms : List Nat} {Post : Value → Led → Prop} {h' : Heap} {tk' : Nat} {r : Value}
    (hret : Ret h₀ L m s sub ms Post Q) (N : News h₀ L s.heap sub) (hkeep : Keeps s.heap g (sub.map (·.1))) (kF : Fr h₀ L h' m) (kN : News h₀ L h' led) (F' : Fr g L' h' m') (N₁ : News g L' h' led) (hin : ∀ p ∈ sub', p ∈ led)
    (hsub : ∀ p ∈ sub, p.1 ∈ ms ∨ p ∈ led) (hp : Post r sub') : Q r { s with heap := h', toks := tk' } := by
  have N' : News g L' h' sub' := fun p hp => N₁ p (hin p hp)
  refine hret r sub' h' tk' kF (fun p hp => kN p (hin p hp)) (fun b o e hm => ?_) (fun p hp => ?_) hp
  · by_cases hb : b ∈ sub.map (·.1)
    · obtain ⟨q, hq, rfl⟩ := List.mem_map.mp hb
      rcases hsub q hq with h1 | h1
      · exact absurd h1 hm
      · have e1 := (N q hq).1
        rw [e] at e1
        rw [Option.some.inj e1]
        exact (N₁ q h1).1
    · exact F'.keep b o (hkeep b o e hb)
  · cases e : s.heap.get? p.1 with
    | none => exact .inr (.inr rfl)
    | some o =>
      by_cases hb : p.1 ∈ sub.map (·.1)
      · obtain ⟨q, hq, e2⟩ := List.mem_map.mp hb
        rcases hsub q hq with h1 | h1
        · exact .inl (e2 ▸ h1)
        · have e3 := (N₁ q h1).1
          have e4 := (N' p hp).1
          rw [e2, e4] at e3
          have e5 : p = q := Prod.ext e2.symm (Option.some.inj e3)
          exact .inr (.inl (e5 ▸ hq))
      · have e3 := hkeep _ _ e hb
        rw [(N' p hp).2.2] at e3
        cases e3
end

theorem news_ne {h₀ h : Heap} {L : Addr} {l : Led} {a b : Nat} {x y : Obj} (N : News h₀ L h l) (ha : (a, x) ∈ l) (hb : (b, y) ∈ l) (hxy : x.cls ≠ y.cls) : a ≠ b := by
  intro e
  have h1 := (N _ ha).1
  have h2 := (N _ hb).1
  dsimp only at h1 h2
  rw [e, h2] at h1
  exact hxy (congrArg Obj.cls (Option.some.inj h1).symm)
def CodeSpec (w : World) (mean : ExcName → Option Value) (mg mb : Str → Option Value) (f : Addr) (vs : List Value) (sub : Led) (ms : List Nat) (d u : Nat) (Post : Value → Led → Prop) : Prop :=
  ∀ (dp un : Nat) (gd : Option (List Code)) (cn : Str) (cs : Scope) (a : Addr) (ccd : Value) (cl : List (Str × Addr)) (outer : List Env) (A₀ : Around) (base h₀ : Heap) (L : Addr) (m : Str → Option Value) (s : Shared) (R : Result → Shared → Prop),
    Below A₀ base outer h₀ → Fr h₀ L s.heap m → (hd.heap_1 w.params).In h₀ → News h₀ L s.heap sub → Top vw (looseW vw [Str.ofString "Whitespace"]) mean mg mb h₀ → cs.kind = .function → dp + d < recursionLimit → un + u < cLine →
    Ret h₀ L m s sub ms Post (fun r s' => R (.ok (.ret r)) s') →
    codeAny (model PySem.Challenge.rw_qj0008_01.row.prog w) (ktrTop dp un gd cn cs L a ccd cl outer) (.call (.ref f) ⟨vs, []⟩) R s
section
variable {w : World} {mean : ExcName → Option Value} {mg mb : Str → Option Value} {f : Addr} {vs : List Value} {sub news : Led} {ms : List Nat} {d u : Nat} {Post : Value → Led → Prop}
  {dp un : Nat} {gd : Option (List Code)} {cn : Str} {cs : Scope} {a : Addr} {ccd : Value} {cl : List (Str × Addr)} {outer : List Env} {A₀ : Around} {base h₀ : Heap} {L : Addr} {m : Str → Option Value} {s : Shared}
theorem CodeSpec.use {Q E : Value → Shared → Prop} (C : CodeSpec w mean mg mb f vs sub ms d u Post)
    (B : Below A₀ base outer h₀) (F : Fr h₀ L s.heap m) (X : (hd.heap_1 w.params).In h₀) (N : News h₀ L s.heap news) (T : Top vw (looseW vw [Str.ofString "Whitespace"]) mean mg mb h₀) (hk : cs.kind = .function) (hin : ∀ p ∈ sub, p ∈ news) (hd : dp + d < recursionLimit) (hu : un + u < cLine)
    (ret : Ret h₀ L m s sub ms Post Q) : wpAny (model PySem.Challenge.rw_qj0008_01.row.prog w) (ktrTop dp un gd cn cs L a ccd cl outer) (call (.ref f) vs) Q E s :=
  wpAny_call (C dp un gd cn cs a ccd cl outer A₀ base h₀ L m s _ B F X (fun p hp => N p (hin p hp)) T hk hd hu ret)
theorem CodeSpec.code {R : Result → Shared → Prop} (C : CodeSpec w mean mg mb f vs sub ms d u Post)
    (B : Below A₀ base outer h₀) (F : Fr h₀ L s.heap m) (X : (hd.heap_1 w.params).In h₀) (N : News h₀ L s.heap news) (T : Top vw (looseW vw [Str.ofString "Whitespace"]) mean mg mb h₀) (hk : cs.kind = .function) (hin : ∀ p ∈ sub, p ∈ news) (hd : dp + d < recursionLimit) (hu : un + u < cLine)
    (ret : Ret h₀ L m s sub ms Post (fun r s' => R (.ok (.ret r)) s')) : codeAny (model PySem.Challenge.rw_qj0008_01.row.prog w) (ktrTop dp un gd cn cs L a ccd cl outer) (.call (.ref f) ⟨vs, []⟩) R s :=
  C dp un gd cn cs a ccd cl outer A₀ base h₀ L m s _ B F X (fun p hp => N p (hin p hp)) T hk hd hu ret
end
section
variable {w : World} {mean : ExcName → Option Value} {mg mb : Str → Option Value} {f : Addr} {vs : List Value} {sub news : Led} {d u : Nat} {P : Value → Prop}
  {dp un : Nat} {gd : Option (List Code)} {cn : Str} {cs : Scope} {a : Addr} {ccd : Value} {cl : List (Str × Addr)} {outer : List Env} {A₀ : Around} {base h₀ : Heap} {L : Addr} {m : Str → Option Value} {s : Shared}
/-- a call that changes nothing -/
theorem pure_use {Q E : Value → Shared → Prop} (C : CodeSpec w mean mg mb f vs sub [] d u (fun r l => P r ∧ l = []))
    (B : Below A₀ base outer h₀) (F : Fr h₀ L s.heap m) (X : (hd.heap_1 w.params).In h₀) (N : News h₀ L s.heap news) (T : Top vw (looseW vw [Str.ofString "Whitespace"]) mean mg mb h₀) (hk : cs.kind = .function) (hin : ∀ p ∈ sub, p ∈ news) (hd : dp + d < recursionLimit) (hu : un + u < cLine)
    (ret : ∀ (r : Value) (h' : Heap) (tk' : Nat), Fr h₀ L h' m → News h₀ L h' news → P r → Q r { s with heap := h', toks := tk' }) : wpAny (model PySem.Challenge.rw_qj0008_01.row.prog w) (ktrTop dp un gd cn cs L a ccd cl outer) (call (.ref f) vs) Q E s :=
  C.use B F X N T hk hin hd hu (fun r sub' h' tk' F' _ K' _ P' => ret r h' tk' F' (fun p hp => ⟨K' _ _ (N p hp).1 (fun q => nomatch q), (N p hp).2⟩) P'.1)
end
/-- the ledger behind a call: what it hands back, and what else stood -/
theorem news_on {h₀ h h' : Heap} {L : Addr} {news sub' rest : Led} {ms : List Nat} (N : News h₀ L h news) (N' : News h₀ L h' sub') (hk : Keeps h h' ms) (hr : ∀ p ∈ rest, p ∈ news) (ho : ∀ p ∈ rest, p.1 ∉ ms) : News h₀ L h' (sub' ++ rest) := fun p hp => by
  rcases List.mem_append.mp hp with hp | hp
  · exact N' p hp
  · have e := N p (hr p hp)
    exact ⟨hk _ _ e.1 (ho p hp), e.2⟩
section
variable {prog : Program} {w : World} {A : Around} {E : Value → Shared → Prop} {s : Shared} {env : Env} {h₀ : Heap} {x : Str} {body : List Stmt} {Q : Flow → Shared → Prop}
theorem kstB_self {m : Str → Option Value} {ps : List (Str × Value)} (h : ∀ p ∈ ps, m p.1 = some p.2) : kstB m ps = m := funext fun _ => kstB_eq h fun _ => rfl
theorem unrPost_mono {L I : Addr} {s₁ : Shared} {it : Obj} {r r' : (Str → Option Value) → Led → Prop} {f : Flow} {s₂ : Shared} (hr : ∀ m n, r m n → r' m n) (h : UnrPost h₀ L s₁ I it r Q f s₂) : UnrPost h₀ L s₁ I it r' Q f s₂ := by
  have e : UnrEnd h₀ L s₁ I it r s₂ → UnrEnd h₀ L s₁ I it r' s₂ := fun ⟨h', tk, m', n', e, F, N, o, q⟩ => ⟨h', tk, m', n', e, F, N, o, hr _ _ q⟩
  cases f with
  | ret v => exact h
  | brk => exact h
  | next => exact e h
  | cont => exact e h
/-- a state of a loop: the ledger, the names, a word -/
def LoopS {σ : Type} (Ld : σ → Led) (ps : σ → List (Str × Value)) (P : σ → Prop) (m : Str → Option Value) (n : Led) : Prop :=
  ∃ c : σ, n = Ld c ∧ (∀ p ∈ ps c, m p.1 = some p.2) ∧ P c
theorem loopS {σ : Type} {Ld : σ → Led} {ps : σ → List (Str × Value)} {P : σ → Prop} {m : Str → Option Value} (c : σ) (hm : ∀ p ∈ ps c, m p.1 = some p.2) (hp : P c) : LoopS Ld ps P m (Ld c) := ⟨c, rfl, hm, hp⟩
theorem unr_end {σ : Type} {Ld : σ → Led} {ps : σ → List (Str × Value)} {P : σ → Prop} {L I : Addr} {it : Obj} {s₁ : Shared} {h' : Heap} {tk : Nat} {m' : Str → Option Value} {all : Led} (c : σ) (F : Fr h₀ L h' m') (N : News h₀ L h' all)
    (hI : (I, it) ∈ all) (sub : ∀ p ∈ Ld c, p ∈ all) (off : ∀ p ∈ Ld c, p.1 ≠ I) (hm : ∀ p ∈ ps c, m' p.1 = some p.2) (hp : P c) : UnrEnd h₀ L s₁ I it (LoopS Ld ps P) { s₁ with heap := h', toks := tk } :=
  UnrEnd.intro F N (Ld c) (fun p hp => by
    rcases List.mem_cons.mp hp with rfl | hp
    · exact hI
    · exact sub p hp) off (loopS c hm hp)
/-- a loop over a text's signs -/
theorem str_inv {σ : Type} (Ld : List Str → σ → Led) (ps : List Str → σ → List (Str × Value)) (P : List Str → σ → Prop) {I : Addr}
    (step : ∀ (c : Str) (r : List Str) (z : σ) (v : Str → Option Value) (u : Tok) (it : Obj) h tk, P (c :: r) z → (∀ p ∈ Ld (c :: r) z, p.1 ≠ I) → Fr h₀ env.locals h (fun y => if y = x then some (.str c u) else kstB v (ps (c :: r) z) y) → News h₀ env.locals h ((I, it) :: Ld (c :: r) z) →
      wpAny (model prog w) A (execs body env) (UnrPost h₀ env.locals { s with heap := h, toks := tk } I it (fun m n => (∀ p ∈ n, p.1 ≠ I) ∧ LoopS (Ld r) (ps r) (P r) m n) Q) E { s with heap := h, toks := tk })
    (done : ∀ (z : σ) (v : Str → Option Value) h tk, P [] z → Fr h₀ env.locals h (kstB v (ps [] z)) → News h₀ env.locals h (Ld [] z) → Q .next { s with heap := h, toks := tk }) :
    ∀ (l : List Str) (m : Str → Option Value) (n : Led), (∀ p ∈ n, p.1 ≠ I) → LoopS (Ld l) (ps l) (P l) m n → StrRest prog w A E h₀ env x body Q s I l m n
  | [], m, n, _, ⟨z, hn, hm, hp⟩ => fun h tk F N => by
    subst hn
    rw [← kstB_self hm] at F
    exact done z m h tk hp F N
  | c :: r, m, n, ho, ⟨z, hn, hm, hp⟩ => fun u it h tk F N => by
    subst hn
    rw [← kstB_self hm] at F
    exact wpAny_mono (step c r z m u it h tk hp ho F N) (fun f s₂ q => unrPost_mono (fun m' n' q => str_inv Ld ps P step done r m' n' q.1 q.2) q) fun _ _ q => q
/-- a loop over a range by ones -/
theorem range_inv {σ : Type} (Ld : Nat → σ → Led) (ps : Nat → σ → List (Str × Value)) (P : Nat → σ → Prop) {I : Addr} {a : Int} {n : Nat}
    (step : ∀ (i : Nat) (z : σ) (v : Str → Option Value) (t : Tok) h tk, i < n → P i z → (∀ p ∈ Ld i z, p.1 ≠ I) → Fr h₀ env.locals h (fun y => if y = x then some (.int (a + (i : Int)) t) else kstB v (ps i z) y) →
      News h₀ env.locals h ((I, itR (a + ((i + 1 : Nat) : Int)) ((n : Int) - ((i + 1 : Nat) : Int))) :: Ld i z) →
      wpAny (model prog w) A (execs body env) (UnrPost h₀ env.locals { s with heap := h, toks := tk } I (itR (a + ((i + 1 : Nat) : Int)) ((n : Int) - ((i + 1 : Nat) : Int))) (fun m l => (∀ p ∈ l, p.1 ≠ I) ∧ LoopS (Ld (i + 1)) (ps (i + 1)) (P (i + 1)) m l) Q) E { s with heap := h, toks := tk })
    (done : ∀ (z : σ) (v : Str → Option Value) h tk, P n z → Fr h₀ env.locals h (kstB v (ps n z)) → News h₀ env.locals h (Ld n z) → Q .next { s with heap := h, toks := tk }) :
    ∀ (k i : Nat) (m : Str → Option Value) (l : Led), k + i = n → (∀ p ∈ l, p.1 ≠ I) → LoopS (Ld i) (ps i) (P i) m l → RangeRest prog w A E h₀ env x body Q s I a n k i m l
  | 0, i, m, l, e, _, ⟨z, hn, hm, hp⟩ => fun h tk F N => by
    have e' : i = n := by omega
    subst e' hn
    rw [← kstB_self hm] at F
    exact done z m h tk hp F N
  | k + 1, i, m, l, e, ho, ⟨z, hn, hm, hp⟩ => fun t h tk F N => by
    subst hn
    rw [← kstB_self hm] at F
    exact wpAny_mono (step i z m t h tk (by omega) hp ho F N) (fun f s₂ q => unrPost_mono (fun m' n' q => range_inv Ld ps P step done k (i + 1) m' n' (by omega) q.1 q.2) q) fun _ _ q => q
theorem unr_end2 {σ : Type} {Ld : σ → Led} {ps : σ → List (Str × Value)} {P : σ → Prop} {L I : Addr} {it : Obj} {s₁ : Shared} {h' : Heap} {tk : Nat} {m' : Str → Option Value} {all : Led} (c : σ) (F : Fr h₀ L h' m') (N : News h₀ L h' all)
    (hI : (I, it) ∈ all) (sub : ∀ p ∈ Ld c, p ∈ all) (off : ∀ p ∈ Ld c, p.1 ≠ I) (hm : ∀ p ∈ ps c, m' p.1 = some p.2) (hp : P c) : UnrEnd h₀ L s₁ I it (fun m n => (∀ p ∈ n, p.1 ≠ I) ∧ LoopS Ld ps P m n) { s₁ with heap := h', toks := tk } :=
  UnrEnd.intro F N (Ld c) (fun p hp => by
    rcases List.mem_cons.mp hp with rfl | hp
    · exact hI
    · exact sub p hp) off ⟨off, loopS c hm hp⟩
end
theorem pack {σ : Type} {G : Prop} {h₀ h : Heap} {L : Addr} {m : Str → Option Value} {led : Led} (ps : σ → List (Str × Value)) (Ld : σ → Led) (F : Fr h₀ L h m) (N : News h₀ L h led) (c : σ) (hm : ∀ p ∈ ps c, m p.1 = some p.2) (hn : ∀ p ∈ Ld c, p ∈ led)
    (k : ∀ (c : σ) (m : Str → Option Value), (∀ p ∈ ps c, m p.1 = some p.2) → Fr h₀ L h m → News h₀ L h (Ld c) → G) : G := k c m hm F fun p hp => N p (hn p hp)
theorem range_small {a b : Int} (h1 : -1000000 ≤ a) (h2 : a ≤ 1000000) (h3 : -1000000 ≤ b) (h4 : b ≤ 1000000) : Builtin.Range.small a b 1 = true := by
  have e : Builtin.Range.rangeSize a b 1 = if a < b then b - a else 0 := by
    unfold Builtin.Range.rangeSize
    rw [if_pos (by decide)]
    split
    · rw [Int.ediv_one]; omega
    · rfl
  unfold Builtin.Range.small Builtin.Range.rangeFitsLong
  rw [e]
  split <;> simp <;> omega
theorem range_size {a b : Int} {n : Nat} (h : (a < b ∧ b - a = n) ∨ (b ≤ a ∧ n = 0)) : Builtin.Range.rangeSize a b 1 = (n : Int) := by
  unfold Builtin.Range.rangeSize
  rw [if_pos (by decide)]
  split
  · rw [Int.ediv_one]; omega
  · omega
theorem packP {σ : Type} {G : Prop} {h₀ h : Heap} {L : Addr} {m : Str → Option Value} {led : Led} (ps : σ → List (Str × Value)) (Ld : σ → Led) (P : σ → Prop) (F : Fr h₀ L h m) (N : News h₀ L h led) (c : σ) (hm : ∀ p ∈ ps c, m p.1 = some p.2) (hn : ∀ p ∈ Ld c, p ∈ led) (hp : P c)
    (k : ∀ (c : σ) (m : Str → Option Value), (∀ p ∈ ps c, m p.1 = some p.2) → P c → Fr h₀ L h m → News h₀ L h (Ld c) → G) : G := k c m hm hp F fun p hp => N p (hn p hp)
/-- the end of a while whose ways out meet -/
def WEnd {σ : Type} (h₀ : Heap) (L : Addr) (s : Shared) (Ld : σ → Led) (ps : σ → List (Str × Value)) (Out : σ → Prop) (fl : Flow) (s₂ : Shared) : Prop :=
  fl = .next ∧ ∃ (c : σ) (h' : Heap) (tk : Nat) (m' : Str → Option Value), s₂ = { s with heap := h', toks := tk } ∧ Fr h₀ L h' m' ∧ News h₀ L h' (Ld c) ∧ (∀ p ∈ ps c, m' p.1 = some p.2) ∧ Out c
theorem wend {σ : Type} {h₀ : Heap} {L : Addr} {s : Shared} {Ld : σ → Led} {ps : σ → List (Str × Value)} {Out : σ → Prop} {h' : Heap} {tk : Nat} {m' : Str → Option Value} {news : Led} (c : σ) (F : Fr h₀ L h' m') (N : News h₀ L h' news) (hn : ∀ p ∈ Ld c, p ∈ news)
    (hk : ∀ p ∈ ps c, m' p.1 = some p.2) (ho : Out c) : WEnd h₀ L s Ld ps Out .next { s with heap := h', toks := tk } := ⟨rfl, c, h', tk, m', rfl, F, fun p hp => N p (hn p hp), hk, ho⟩
theorem while_outL {prog : Program} {w : World} {A : Around} {E : Value → Shared → Prop} {Q : Flow → Shared → Prop} {s : Shared} {env : Env} {h₀ : Heap} {L : Addr} {σ : Type} {test : Expr} {body : List Stmt} {pos : Pos} {m₀ : Str → Option Value} (ls : List Str) (Ld : σ → Led) (ps : σ → List (Str × Value)) (P Out : σ → Prop) (μ : σ → Nat) (c₀ : σ)
    (F : Fr h₀ L s.heap m₀) (N : News h₀ L s.heap (Ld c₀)) (hk : ∀ p ∈ ps c₀, m₀ p.1 = some p.2) (hp : P c₀)
    (turn : ∀ (c : σ) (u : Str → Option Value) h tk, P c → Fr h₀ L h (kstB (fun z => if ls.contains z then u z else m₀ z) (ps c)) → News h₀ L h (Ld c) →
      wpAny (model prog w) A (isTrue test env (eval test env)) (fun b s₂ =>
        if b = true then wpAny (model prog w) A (execs body env) (KswPost h₀ L s Ld ps (fun _ => True) ls m₀ P μ (WEnd h₀ L s Ld ps Out) c) E s₂ else WEnd h₀ L s Ld ps Out .next s₂) E { s with heap := h, toks := tk })
    (done : ∀ (c : σ) (u : Str → Option Value) h tk, Out c → Fr h₀ L h (kstB u (ps c)) → News h₀ L h (Ld c) → Q .next { s with heap := h, toks := tk })
    (hE : PassesOwn (model prog w) A env E := by passes_own) :
    wpAny (model prog w) A (exec (.While test body [] pos) env) Q E s := by
  refine wpAny_mono (ksw_while (Q := WEnd h₀ L s Ld ps Out) Ld ps (fun _ => True) ls P μ c₀ F N trivial hk hp (fun c u h tk _ hp F' N' => turn c u h tk hp F' N') hE) (fun fl s₂ q => ?_) fun _ _ x => x
  obtain ⟨rfl, c, h', tk, m', rfl, F', N', hm, ho⟩ := q
  rw [← kstB_self hm] at F'
  exact done c m' h' tk ho F' N'
theorem while_out {prog : Program} {w : World} {A : Around} {E : Value → Shared → Prop} {Q : Flow → Shared → Prop} {s : Shared} {env : Env} {h₀ : Heap} {L : Addr} {σ : Type} {test : Expr} {body : List Stmt} {pos : Pos} {m₀ : Str → Option Value} (Ld : σ → Led) (ps : σ → List (Str × Value)) (P Out : σ → Prop) (μ : σ → Nat) (c₀ : σ)
    (F : Fr h₀ L s.heap m₀) (N : News h₀ L s.heap (Ld c₀)) (hk : ∀ p ∈ ps c₀, m₀ p.1 = some p.2) (hp : P c₀)
    (turn : ∀ (c : σ) (u : Str → Option Value) h tk, P c → Fr h₀ L h (kstB (fun z => if ([] : List Str).contains z then u z else m₀ z) (ps c)) → News h₀ L h (Ld c) →
      wpAny (model prog w) A (isTrue test env (eval test env)) (fun b s₂ =>
        if b = true then wpAny (model prog w) A (execs body env) (KswPost h₀ L s Ld ps (fun _ => True) [] m₀ P μ (WEnd h₀ L s Ld ps Out) c) E s₂ else WEnd h₀ L s Ld ps Out .next s₂) E { s with heap := h, toks := tk })
    (done : ∀ (c : σ) (u : Str → Option Value) h tk, Out c → Fr h₀ L h (kstB u (ps c)) → News h₀ L h (Ld c) → Q .next { s with heap := h, toks := tk })
    (hE : PassesOwn (model prog w) A env E := by passes_own) :
    wpAny (model prog w) A (exec (.While test body [] pos) env) Q E s :=
  while_outL [] Ld ps P Out μ c₀ F N hk hp turn done hE
theorem stmt_out {prog : Program} {w : World} {A : Around} {E : Value → Shared → Prop} {Q : Flow → Shared → Prop} {s : Shared} {tree : Sem Flow} {h₀ : Heap} {L : Addr} {σ : Type} (Ld : σ → Led) (ps : σ → List (Str × Value)) (Out : σ → Prop) {m₀ : Str → Option Value} (_F : Fr h₀ L s.heap m₀)
    (turn : wpAny (model prog w) A tree (WEnd h₀ L s Ld ps Out) E s)
    (done : ∀ (c : σ) (u : Str → Option Value) h tk, Out c → Fr h₀ L h (kstB u (ps c)) → News h₀ L h (Ld c) → Q .next { s with heap := h, toks := tk }) : wpAny (model prog w) A tree Q E s := by
  refine wpAny_mono turn (fun fl s₂ q => ?_) fun _ _ x => x
  obtain ⟨rfl, c, h', tk, m', rfl, F', N', hm, ho⟩ := q
  rw [← kstB_self hm] at F'
  exact done c m' h' tk ho F' N'

structure SupS (α : Type) where
  f : Nat
  l : List α
  p : Nat
  pv : Int
  cv : Int
  tp : Tok
  tc : Tok
/-- an item of the heap -/
structure It where
  a : Nat
  c : Int
  t : Tok
  k : Int
  u : Tok
abbrev It.ent (x : It) : Addr × Obj := (x.a, tup2 x.c x.t x.k x.u)
abbrev refsI (l : List It) : List Value := l.map fun x => Value.ref x.a
abbrev It.lt (x y : It) : Prop := x.c < y.c ∨ (x.c = y.c ∧ x.k < y.k)
/-- _siftdown's road: the item x goes up from pos -/
noncomputable def sdn : Nat → List It → Nat → It → List It
  | 0, l, pos, x => l.set pos x
  | f + 1, l, pos, x => if pos = 0 then l.set pos x else match l[(pos - 1) / 2]? with
    | none => l
    | some y => if x.lt y then sdn f (l.set pos y) ((pos - 1) / 2) x else l.set pos x
/-- _siftup's road: the lesser child goes up, till there is none -/
noncomputable def sup : Nat → List It → Nat → List It × Nat
  | 0, l, p => (l, p)
  | f + 1, l, p => match l[2 * p + 1]? with
    | none => (l, p)
    | some y => match l[2 * p + 2]? with
      | none => sup f (l.set p y) (2 * p + 1)
      | some z => if y.lt z then sup f (l.set p y) (2 * p + 1) else sup f (l.set p z) (2 * p + 2)
noncomputable def supF (l : List It) (x : It) : List It := sdn (sup l.length l 0).2 ((sup l.length l 0).1.set (sup l.length l 0).2 x) (sup l.length l 0).2 x
theorem set_someI : ∀ {l : List Value} {k : Nat} {v : Value}, k < l.length → ki_setL l k v = some (l.set k v)
  | [], _, _, h => absurd h (Nat.not_lt_zero _)
  | _ :: _, 0, _, _ => rfl
  | a :: l, k + 1, v, h => by
    have e := set_someI (l := l) (k := k) (v := v) (Nat.lt_of_succ_lt_succ h)
    unfold ki_setL
    rw [e]
    rfl
theorem set_it {l : List It} {j : Nat} {y : It} (h : j < l.length) : ki_setL (refsI l).toArray.toList ((j : Int)).toNat (.ref y.a) = some (refsI (l.set j y)) := by
  rw [show refsI (l.set j y) = (refsI l).set j (.ref y.a) from List.map_set]
  exact set_someI (by rw [List.length_map]; exact h)
theorem set_it0 {l : List It} {y : It} (h : 0 < l.length) : ki_setL (refsI l).toArray.toList (0 : Int).toNat (.ref y.a) = some (refsI (l.set 0 y)) := set_it (j := 0) h
theorem push_it (l : List It) (x : It) : refsI l ++ [.ref x.a] = refsI (l ++ [x]) := by simp [refsI]
theorem len_pred (l : List It) (x : It) : (((l ++ [x]).length : Nat) : Int) - 1 = ((l.length : Nat) : Int) := by simp
theorem set_in {l : List It} {es : Led} {p : Nat} {y : It} (h : ∀ x ∈ l, x.ent ∈ es) (hy : y.ent ∈ es) : ∀ x ∈ l.set p y, x.ent ∈ es := fun x hx =>
  (List.mem_or_eq_of_mem_set hx).elim (h x) (fun e => e ▸ hy)
theorem sup_le {n p f : Nat} (h : n ≤ p + f) (h0 : 0 < f) : n ≤ 2 * p + 1 + (f - 1) := by omega
theorem sup_le2 {n p f : Nat} (h : n ≤ p + f) (h0 : 0 < f) : n ≤ 2 * p + 2 + (f - 1) := by omega
theorem par_pos {pos : Nat} (h : 0 < pos) : ((pos : Int) - 1).fdiv (2 ^ Int.toNat 1) = (((pos - 1) / 2 : Nat) : Int) := by
  obtain ⟨q, rfl⟩ : ∃ q, pos = q + 1 := ⟨pos - 1, (Nat.succ_pred_eq_of_pos h).symm⟩
  rw [Int.natCast_add, Nat.add_sub_cancel]
  show ((q : Int) + 1 - 1).fdiv 2 = _
  rw [Int.add_sub_cancel, Int.fdiv_eq_ediv_of_nonneg _ (by decide)]
  rfl
theorem sdn_stop {f : Nat} {l : List It} {pos : Nat} {x y : It} (hy : l[(pos - 1) / 2]? = some y) (hlt : ¬ x.lt y) : sdn f l pos x = l.set pos x := by
  cases f with
  | zero => rfl
  | succ q =>
    unfold sdn
    by_cases h0 : pos = 0
    · rw [if_pos h0]
    · rw [if_neg h0, hy]
      exact if_neg hlt
theorem sdn_top {f : Nat} {l : List It} {x : It} : sdn f l 0 x = l.set 0 x := by
  cases f with
  | zero => rfl
  | succ q => exact if_pos rfl
theorem sdn_go {f : Nat} {l : List It} {pos : Nat} {x y : It} (h : 0 < pos) (hf : pos ≤ f) (hy : l[(pos - 1) / 2]? = some y) (hlt : x.lt y) : sdn (f - 1) (l.set pos y) ((pos - 1) / 2) x = sdn f l pos x := by
  obtain ⟨q, rfl⟩ : ∃ q, f = q + 1 := ⟨f - 1, (Nat.succ_pred_eq_of_pos (Nat.lt_of_lt_of_le h hf)).symm⟩
  conv => rhs; unfold sdn
  rw [if_neg (Nat.ne_of_gt h), hy]
  exact (if_pos hlt).symm
theorem sup_stop {f p : Nat} {l : List It} (h : l[2 * p + 1]? = none) : sup f l p = (l, p) := by
  cases f with
  | zero => rfl
  | succ q => unfold sup; rw [h]
theorem sup_one {f p : Nat} {l : List It} {y : It} (hf : 0 < f) (h : l[2 * p + 1]? = some y) (h2 : l[2 * p + 2]? = none) : sup (f - 1) (l.set p y) (2 * p + 1) = sup f l p := by
  obtain ⟨q, rfl⟩ : ∃ q, f = q + 1 := ⟨f - 1, (Nat.succ_pred_eq_of_pos hf).symm⟩
  conv => rhs; unfold sup
  rw [h, h2]; rfl
theorem sup_left {f p : Nat} {l : List It} {y z : It} (hf : 0 < f) (h : l[2 * p + 1]? = some y) (h2 : l[2 * p + 2]? = some z) (hlt : y.lt z) : sup (f - 1) (l.set p y) (2 * p + 1) = sup f l p := by
  obtain ⟨q, rfl⟩ : ∃ q, f = q + 1 := ⟨f - 1, (Nat.succ_pred_eq_of_pos hf).symm⟩
  conv => rhs; unfold sup
  rw [h, h2]
  exact (if_pos hlt).symm
theorem sup_right {f p : Nat} {l : List It} {y z : It} (hf : 0 < f) (h : l[2 * p + 1]? = some y) (h2 : l[2 * p + 2]? = some z) (hlt : ¬ y.lt z) : sup (f - 1) (l.set p z) (2 * p + 2) = sup f l p := by
  obtain ⟨q, rfl⟩ : ∃ q, f = q + 1 := ⟨f - 1, (Nat.succ_pred_eq_of_pos hf).symm⟩
  conv => rhs; unfold sup
  rw [h, h2]
  exact (if_neg hlt).symm
section
variable {prog : Program} {w : World} {A : Around} {E : Value → Shared → Prop} {s : Shared} {h₀ : Heap} {L : Addr} {m : Str → Option Value} {news : Led} {Q : Value → Shared → Prop}
theorem sub_it {value slice : PySem.Expr} {D : Addr} {l : List It} {n j : Nat} {i : Int} {u : Tok} {y : It} (N : News h₀ L s.heap news) (hm : (D, listOf (refsI l).toArray n) ∈ news) (hi : i = (j : Int)) (hfit : j < 9) (hx : l[j]? = some y) (h : Q (.ref y.a) s)
    (hs : subscripted slice false (.ref D) (.int i u) = operate [.ref D, .int i u] (getItem (.ref D) (.int i u)) := by with_unfolding_all rfl) :
    wpAny (model prog w) A (subscriptTail value slice (.ref D) (.int i u)) Q E s := by
  subst hi
  exact sub_news N hm (Int.natCast_nonneg _) (Int.lt_trans (Int.ofNat_lt.mpr hfit) (by decide)) (by rw [nthV_eq, Int.toNat_natCast]; simp [hx]) h hs
theorem len_it {D : Addr} {l : List It} {n : Nat} (N : News h₀ L s.heap news) (hm : (D, listOf (refsI l).toArray n) ∈ news) (hfit : l.length < 9) (h : ∀ t k, Q (.int (l.length : Int) t) { s with toks := k }) : wpAny (model prog w) A (call (.builtin "len") [.ref D]) Q E s :=
  len_list (PySem.IsL.isList (n := n) (N _ hm).1) (by simp only [List.size_toArray, List.length_map]; exact Int.lt_trans (Int.ofNat_lt.mpr hfit) (by decide)) (by simp only [List.size_toArray, List.length_map]; exact h _ _)
theorem lt_it {x y : It} (N : News h₀ L s.heap news) (hx : x.ent ∈ news) (hy : y.ent ∈ news) (hu : A.units < cLine) (h : Q (.bool (decide (x.lt y))) s) : wpAny (model prog w) A (compareOp .Lt (.ref x.a) (.ref y.a)) Q E s :=
  lt_tup2 (News.get N hx) (News.get N hy) hu h
end
section
local macro_rules | `(tactic| k_all) => `(tactic| with_reducible assumption)
theorem sdn_spec {w : World} {mean : ExcName → Option Value} {mg mb : Str → Option Value} {hp n pos₀ : Nat} {l₀ : List It} {x : It} {es : Led} {k1 k2 : Tok} (hx : l₀[pos₀]? = some x) (hl : l₀.length < 9) (hin : ∀ y ∈ l₀, y.ent ∈ es) (hoff : ∀ p ∈ es, p.1 ≠ hp) :
  CodeSpec w mean mg mb 42 [.ref hp, .int 0 k1, .int (pos₀ : Int) k2] ((hp, listOf (refsI l₀).toArray n) :: es) [hp] 2 30
   (fun r led => r = .none ∧ led = (hp, listOf (refsI (sdn pos₀ l₀ pos₀ x)).toArray n) :: es) := by
  k_with_none
  k_with "own" => ((with_reducible show wpAny _ _ (subscriptTail (Expr.Name _ _) (Expr.Name _ _) (Value.ref _) (Value.int _ _)) _ _ _); first | with_reducible ((k_here; k_dflt (refine' sub_it ?N_w ?m_w ?i_w ?f_w ?x_w ?_ ?s_w; (case N_w => k_asm); (case m_w => k_mem); (case i_w => first | with_reducible rfl | with_reducible assumption); (case x_w => with_reducible assumption); (case f_w => with_reducible assumption); (case s_w => with_unfolding_all rfl); k_whole))) | ((k_here; k_dflt (refine' sub_it ?N_w ?m_w ?i_w ?f_w ?x_w ?_ ?s_w; (case N_w => k_asm); (case m_w => k_mem); (case i_w => first | with_reducible rfl | with_reducible assumption); (case x_w => with_reducible assumption); (case f_w => with_reducible assumption); (case s_w => with_unfolding_all rfl); k_whole))); walk_say "OWN subscriptTail Name Name ref int")
  k_with "own" => ((with_reducible show wpAny _ _ (subscriptTail (Expr.Name _ _) (Expr.Constant _ _ _) (Value.ref _) (Value.int _ _)) _ _ _); first | with_reducible ((k_here; k_dflt (refine' sub_it ?N_w ?m_w ?i_w ?f_w ?x_w ?_ ?s_w; (case N_w => k_asm); (case m_w => k_mem); (case i_w => first | with_reducible rfl | with_reducible assumption); (case x_w => with_reducible assumption); (case f_w => with_reducible assumption); (case s_w => with_unfolding_all rfl); k_whole))) | ((k_here; k_dflt (refine' sub_it ?N_w ?m_w ?i_w ?f_w ?x_w ?_ ?s_w; (case N_w => k_asm); (case m_w => k_mem); (case i_w => first | with_reducible rfl | with_reducible assumption); (case x_w => with_reducible assumption); (case f_w => with_reducible assumption); (case s_w => with_unfolding_all rfl); k_whole))); walk_say "OWN subscriptTail Name Constant ref int")
  k_with "own" => ((with_reducible show wpAny _ _ (compareOp CmpOp.Lt (Value.ref _) (Value.ref _)) _ _ _); first | with_reducible ((k_here; (with_reducible show wpAny _ _ (compareOp CmpOp.Lt (Value.ref _) (Value.ref _)) _ _ _); k_dflt (refine lt_it (by k_asm) (List.mem_cons_of_mem _ (by with_reducible assumption)) (List.mem_cons_of_mem _ (by with_reducible assumption)) (by first | k_units | ktr_units) ?_))) | ((k_here; (with_reducible show wpAny _ _ (compareOp CmpOp.Lt (Value.ref _) (Value.ref _)) _ _ _); k_dflt (refine lt_it (by k_asm) (List.mem_cons_of_mem _ (by with_reducible assumption)) (List.mem_cons_of_mem _ (by with_reducible assumption)) (by first | k_units | ktr_units) ?_))); walk_say "OWN compareOp Lt ref ref")
  k_with "own" => ((with_reducible show wpAny _ _ (setItem (Value.ref _) (Value.int _ _) (Value.ref _)) _ _ _); first | with_reducible ((k_here; k_dflt (refine' ki_set ?F_w ?N_w ?a_w ?b_w ?e_w ?U_w ?_; (case F_w => k_asm); (case N_w => k_asm); (case U_w => k_upd); (case a_w => first | exact Int.natCast_nonneg _ | decide); (case b_w => omega); (case e_w => first | exact set_it (by with_reducible assumption) | exact set_it0 (by with_reducible assumption))); ki_rest)) | ((k_here; k_dflt (refine' ki_set ?F_w ?N_w ?a_w ?b_w ?e_w ?U_w ?_; (case F_w => k_asm); (case N_w => k_asm); (case U_w => k_upd); (case a_w => first | exact Int.natCast_nonneg _ | decide); (case b_w => omega); (case e_w => first | exact set_it (by with_reducible assumption) | exact set_it0 (by with_reducible assumption))); ki_rest)); walk_say "OWN setItem ref int ref")
  unfold CodeSpec; k_fill; intro dp un gd cn cs a ccd cl outer A₀ base h₀ L m s R B F X N T hk hdp hu hret
  k_dflt (refine' spec_code ?k1 ?k2 ?k3 ?k4 ?k5 ?kA ?kF ?kK ?k6 ?k7 ?k8 ?k9 ?kB ?_ ?c2 ?c3 ?c4 ?c5; (case kA => exact rfl); (case kF => exact rfl); (case kK => assumption); (case k1 => k_asm); (case k2 => k_asm); (case k3 => k_asm); (case k4 => k_asm); (case k5 => k_asm); (case k6 => k_is); (case k7 => k_is); (case k8 => ktr_room); (case k9 => exact BindsTo.of_eq rfl); (case c5 => decide); (case kB => exact locs rfl); (case c2 => exact rfl); (case c3 => exact rfl); (case c4 => exact rfl); k_whole; intro g' L' h' FG' F' N' B' X' T' hkeep; (try dsimp only); (try k_lift B'); (try k_fold))
  have hpl : pos₀ < l₀.length := (List.getElem?_eq_some_iff.mp hx).1
  have hp9 : pos₀ < 9 := Nat.lt_trans hpl hl
  have hxin : x.ent ∈ es := hin x (List.mem_of_getElem? hx)
  repeat' ((fail_if_success (with_reducible show wpAny _ _ (exec (Stmt.While _ _ _ _) _) _ _ _)); first | (k_unfold; (try dsimp only)) | (k_end; wrow_close) | k_extra "own" | walk1 | (dsimp only; first | k_extra "own" | walk1) | (leave1; walk_say "STEP leave1"; try dsimp only) | fail "no step")
  obtain ⟨R₁, hR⟩ : ∃ R, R = sdn pos₀ l₀ pos₀ x := ⟨_, rfl⟩
  refine while_outL (σ := Nat × List It × Nat × Tok) [Str.ofString "parentpos", Str.ofString "parent"] (fun z => (hp, listOf (refsI z.2.1).toArray n) :: es) (fun z => [(Str.ofString "heap", .ref hp), (Str.ofString "startpos", .int 0 k1), (Str.ofString "pos", .int (z.2.2.1 : Int) z.2.2.2), (Str.ofString "newitem", .ref x.a)])
    (fun z => z.2.1.length < 9 ∧ z.2.2.1 < z.2.1.length ∧ (∀ y ∈ z.2.1, y.ent ∈ es) ∧ z.2.2.1 ≤ z.1 ∧ sdn z.1 z.2.1 z.2.2.1 x = R₁) (fun z => z.2.2.1 < 9 ∧ z.2.2.1 < z.2.1.length ∧ z.2.1.set z.2.2.1 x = R₁) (fun z => z.2.2.1) ⟨pos₀, l₀, pos₀, k2⟩ (by k_asm) (by k_asm) (by kst_all) ⟨hl, hpl, hin, Nat.le_refl _, hR.symm⟩ ?turn ?done
  case turn =>
    intro c u h tk hP F4 N4
    obtain ⟨f, l, pos, tp⟩ := c
    dsimp only [kstB] at hP F4 N4 ⊢
    obtain ⟨hlen, hpl, hin, hf, hsd⟩ := hP
    have hp9 := Nat.lt_trans hpl hlen
    rcases Nat.eq_zero_or_pos pos with h0 | h0
    · subst h0
      repeat' ( (fail_if_success (with_reducible show UnrEnd _ _ _ _ _ _ _)); (fail_if_success (with_reducible show KswEnd _ _ _ _ _ _ _ _ _ _ _ _)); first | (k_unfold; (try dsimp only)) | (k_end; wrow_close) | k_extra "own" | walk1 | (dsimp only; first | k_extra "own" | walk1) | (leave1; walk_say "STEP leave1"; try dsimp only) | fail "no step")
      refine wend (⟨f, l, 0, tp⟩ : Nat × List It × Nat × Tok) (by k_asm) (by k_asm) (fun _ h => h) (by kst_all) ⟨hp9, hpl, sdn_top.symm.trans hsd⟩
    · have hpp := par_pos h0
      have hq : (pos - 1) / 2 < pos := by omega
      obtain ⟨y, hy⟩ : ∃ y, l[(pos - 1) / 2]? = some y := ⟨_, List.getElem?_eq_getElem (Nat.lt_trans hq hpl)⟩
      have hyin : y.ent ∈ es := hin y (List.mem_of_getElem? hy)
      have hq9 : (pos - 1) / 2 < 9 := Nat.lt_trans hq hp9
      repeat' ( (fail_if_success (with_reducible show UnrEnd _ _ _ _ _ _ _)); (fail_if_success (with_reducible show KswEnd _ _ _ _ _ _ _ _ _ _ _ _)); first | (k_unfold; (try dsimp only)) | (k_end; wrow_close) | k_extra "own" | walk1 | (dsimp only; first | k_extra "own" | walk1) | (leave1; walk_say "STEP leave1"; try dsimp only) | fail "no step")
      · rename It.lt x y => hlt
        rename Fr _ _ _ _ => F9
        rw [hpp] at F9
        refine ksw_end (⟨f - 1, l.set pos y, (pos - 1) / 2, _⟩ : Nat × List It × Nat × Tok) (by k_asm) (by k_asm) (fun _ h => h) trivial (by kst_all) (by ksw_same) ⟨List.length_set.symm ▸ hlen, List.length_set.symm ▸ Nat.lt_trans hq hpl, set_in hin hyin, Nat.le_sub_one_of_lt (Nat.lt_of_lt_of_le hq hf), (sdn_go h0 hf hy hlt).trans hsd⟩ hq
      · rename ¬ It.lt x y => hlt
        refine wend (⟨f, l, pos, tp⟩ : Nat × List It × Nat × Tok) (by k_asm) (by k_asm) (fun _ h => h) (by kst_all) ⟨hp9, hpl, (sdn_stop hy hlt).symm.trans hsd⟩
  case done =>
    intro z u h tk hO F4 N4
    obtain ⟨f, l, pos, tp⟩ := z
    dsimp only [kstB] at hO F4 N4
    obtain ⟨hp9, hpl, hsd⟩ := hO
    dsimp only
    repeat' ( first | (k_unfold; (try dsimp only)) | (k_end; wrow_close) | k_extra "own" | walk1 | (dsimp only; first | k_extra "own" | walk1) | (leave1; walk_say "STEP leave1"; try dsimp only) | fail "no step")
    rename News g' L' _ _ => N9
    rename News h₀ L _ _ => N8
    rw [hsd, hR] at N9 N8
    refine' ret_end (sub' := (hp, listOf (refsI (sdn pos₀ l₀ pos₀ x)).toArray n) :: es) (Q := fun r s' => R (.ok (.ret r)) s') hret N hkeep ?rF N8 ?rG N9 ?rin ?rsub ⟨rfl, rfl⟩
    case rF => k_asm
    case rG => k_asm
    case rin => exact fun _ h => h
    case rsub => exact List.forall_mem_cons.mpr ⟨.inl (.head _), fun p h => .inr (.tail _ h)⟩
theorem sup_spec {w : World} {mean : ExcName → Option Value} {mg mb : Str → Option Value} {hp n : Nat} {l₀ : List It} {x : It} {es : Led} {k1 : Tok} (hx : l₀[0]? = some x) (hl : l₀.length < 9) (hin : ∀ y ∈ l₀, y.ent ∈ es) (hoff : ∀ p ∈ es, p.1 ≠ hp) :
  CodeSpec w mean mg mb 49 [.ref hp, .int 0 k1] ((hp, listOf (refsI l₀).toArray n) :: es) [hp] 3 40
   (fun r led => r = .none ∧ led = (hp, listOf (refsI (supF l₀ x)).toArray n) :: es) := by
  k_with_none
  k_with "own" => ((with_reducible show wpAny _ _ (subscriptTail (Expr.Name _ _) (Expr.Name _ _) (Value.ref _) (Value.int _ _)) _ _ _); first | with_reducible ((k_here; k_dflt (refine' sub_it ?N_w ?m_w ?i_w ?f_w ?x_w ?_ ?s_w; (case N_w => k_asm); (case m_w => k_mem); (case i_w => first | with_reducible rfl | with_reducible assumption); (case x_w => with_reducible assumption); (case f_w => with_reducible assumption); (case s_w => with_unfolding_all rfl); k_whole))) | ((k_here; k_dflt (refine' sub_it ?N_w ?m_w ?i_w ?f_w ?x_w ?_ ?s_w; (case N_w => k_asm); (case m_w => k_mem); (case i_w => first | with_reducible rfl | with_reducible assumption); (case x_w => with_reducible assumption); (case f_w => with_reducible assumption); (case s_w => with_unfolding_all rfl); k_whole))); walk_say "OWN subscriptTail Name Name ref int")
  k_with "own" => ((with_reducible show wpAny _ _ (subscriptTail (Expr.Name _ _) (Expr.Constant _ _ _) (Value.ref _) (Value.int _ _)) _ _ _); first | with_reducible ((k_here; k_dflt (refine' sub_it ?N_w ?m_w ?i_w ?f_w ?x_w ?_ ?s_w; (case N_w => k_asm); (case m_w => k_mem); (case i_w => first | with_reducible rfl | with_reducible assumption); (case x_w => with_reducible assumption); (case f_w => with_reducible assumption); (case s_w => with_unfolding_all rfl); k_whole))) | ((k_here; k_dflt (refine' sub_it ?N_w ?m_w ?i_w ?f_w ?x_w ?_ ?s_w; (case N_w => k_asm); (case m_w => k_mem); (case i_w => first | with_reducible rfl | with_reducible assumption); (case x_w => with_reducible assumption); (case f_w => with_reducible assumption); (case s_w => with_unfolding_all rfl); k_whole))); walk_say "OWN subscriptTail Name Constant ref int")
  k_with "own" => ((with_reducible show wpAny _ _ (compareOp CmpOp.Lt (Value.ref _) (Value.ref _)) _ _ _); first | with_reducible ((k_here; (with_reducible show wpAny _ _ (compareOp CmpOp.Lt (Value.ref _) (Value.ref _)) _ _ _); k_dflt (refine lt_it (by k_asm) (List.mem_cons_of_mem _ (by with_reducible assumption)) (List.mem_cons_of_mem _ (by with_reducible assumption)) (by first | k_units | ktr_units) ?_))) | ((k_here; (with_reducible show wpAny _ _ (compareOp CmpOp.Lt (Value.ref _) (Value.ref _)) _ _ _); k_dflt (refine lt_it (by k_asm) (List.mem_cons_of_mem _ (by with_reducible assumption)) (List.mem_cons_of_mem _ (by with_reducible assumption)) (by first | k_units | ktr_units) ?_))); walk_say "OWN compareOp Lt ref ref")
  k_with "own" => ((with_reducible show wpAny _ _ (setItem (Value.ref _) (Value.int _ _) (Value.ref _)) _ _ _); first | with_reducible ((k_here; k_dflt (refine' ki_set ?F_w ?N_w ?a_w ?b_w ?e_w ?U_w ?_; (case F_w => k_asm); (case N_w => k_asm); (case U_w => k_upd); (case a_w => first | exact Int.natCast_nonneg _ | decide); (case b_w => omega); (case e_w => first | exact set_it (by with_reducible assumption) | exact set_it0 (by with_reducible assumption))); ki_rest)) | ((k_here; k_dflt (refine' ki_set ?F_w ?N_w ?a_w ?b_w ?e_w ?U_w ?_; (case F_w => k_asm); (case N_w => k_asm); (case U_w => k_upd); (case a_w => first | exact Int.natCast_nonneg _ | decide); (case b_w => omega); (case e_w => first | exact set_it (by with_reducible assumption) | exact set_it0 (by with_reducible assumption))); ki_rest)); walk_say "OWN setItem ref int ref")
  k_with "own" => ((with_reducible show wpAny _ _ (PySem.call (Value.builtin "len") _) _ _ _); first | with_reducible (((with_reducible show wpAny _ _ (PySem.call (Value.builtin _) [Value.ref _]) _ _ _); k_dflt (refine' len_it ?N_w ?m_w ?f_w ?_; (case N_w => k_asm); (case m_w => k_mem); (case f_w => with_reducible assumption); k_whole); intro _ _)) | (((with_reducible show wpAny _ _ (PySem.call (Value.builtin _) [Value.ref _]) _ _ _); k_dflt (refine' len_it ?N_w ?m_w ?f_w ?_; (case N_w => k_asm); (case m_w => k_mem); (case f_w => with_reducible assumption); k_whole); intro _ _)); walk_say "OWN call builtin:len")
  unfold CodeSpec; k_fill; intro dp un gd cn cs a ccd cl outer A₀ base h₀ L m s R B F X N T hk hdp hu hret
  k_dflt (refine' spec_code ?k1 ?k2 ?k3 ?k4 ?k5 ?kA ?kF ?kK ?k6 ?k7 ?k8 ?k9 ?kB ?_ ?c2 ?c3 ?c4 ?c5; (case kA => exact rfl); (case kF => exact rfl); (case kK => assumption); (case k1 => k_asm); (case k2 => k_asm); (case k3 => k_asm); (case k4 => k_asm); (case k5 => k_asm); (case k6 => k_is); (case k7 => k_is); (case k8 => ktr_room); (case k9 => exact BindsTo.of_eq rfl); (case c5 => decide); (case kB => exact locs rfl); (case c2 => exact rfl); (case c3 => exact rfl); (case c4 => exact rfl); k_whole; intro g' L' h' FG' F' N' B' X' T' hkeep; (try dsimp only); (try k_lift B'); (try k_fold))
  have hpl : 0 < l₀.length := (List.getElem?_eq_some_iff.mp hx).1
  have hp9 : 0 < 9 := Nat.zero_lt_succ _
  have hz0 : (0 : Int) = ((0 : Nat) : Int) := rfl
  have hxin : x.ent ∈ es := hin x (List.mem_of_getElem? hx)
  repeat' ((fail_if_success (with_reducible show wpAny _ _ (exec (Stmt.While _ _ _ _) _) _ _ _)); first | (k_unfold; (try dsimp only)) | (k_end; wrow_close) | k_extra "own" | walk1 | (dsimp only; first | k_extra "own" | walk1) | (leave1; walk_say "STEP leave1"; try dsimp only) | fail "no step")
  obtain ⟨R₁, hR⟩ : ∃ R, R = sup l₀.length l₀ 0 := ⟨_, rfl⟩
  refine while_outL (σ := SupS It) [Str.ofString "rightpos"] (fun z => (hp, listOf (refsI z.l).toArray n) :: es) (fun z => [(Str.ofString "heap", .ref hp), (Str.ofString "pos", .int z.pv z.tp), (Str.ofString "endpos", .int (l₀.length : Int) _), (Str.ofString "startpos", .int 0 k1), (Str.ofString "newitem", .ref x.a), (Str.ofString "childpos", .int z.cv z.tc)])
    (fun z => z.pv = (z.p : Int) ∧ z.cv = 2 * (z.p : Int) + 1 ∧ z.l.length = l₀.length ∧ z.p < l₀.length ∧ (∀ y ∈ z.l, y.ent ∈ es) ∧ l₀.length ≤ z.p + z.f ∧ sup z.f z.l z.p = R₁) (fun z => z.pv = (z.p : Int) ∧ z.l.length = l₀.length ∧ z.p < l₀.length ∧ (∀ y ∈ z.l, y.ent ∈ es) ∧ (z.l, z.p) = R₁) (fun z => z.f) ⟨l₀.length, l₀, 0, 0, 2 * 0 + 1, k1, _⟩ (by k_asm) (by k_asm) (by kst_all) ⟨rfl, rfl, rfl, hpl, hin, Nat.le_add_left _ _, hR.symm⟩ ?turn ?done
  case turn =>
    intro c u h tk hP F4 N4
    obtain ⟨f, l, p, pv, cv, tp, tc⟩ := c
    dsimp only [kstB] at hP F4 N4 ⊢
    obtain ⟨e1, e2, hlen, hpl, hin, hf, hsd⟩ := hP
    subst e1 e2
    have hp9 := Nat.lt_trans hpl hl
    have hc : 2 * (p : Int) + 1 = ((2 * p + 1 : Nat) : Int) := rfl
    have hr : ((2 * p + 1 : Nat) : Int) + 1 = ((2 * p + 2 : Nat) : Int) := rfl
    have hr2 : 2 * (p : Int) + 1 + 1 = ((2 * p + 2 : Nat) : Int) := rfl
    cases hy : l[2 * p + 1]? with
    | none =>
      have hge : l₀.length ≤ 2 * p + 1 := hlen ▸ List.getElem?_eq_none_iff.mp hy
      repeat' ( (fail_if_success (with_reducible show UnrEnd _ _ _ _ _ _ _)); (fail_if_success (with_reducible show KswEnd _ _ _ _ _ _ _ _ _ _ _ _)); first | (k_unfold; (try dsimp only)) | (k_end; wrow_close) | k_extra "own" | walk1 | (dsimp only; first | k_extra "own" | walk1) | (leave1; walk_say "STEP leave1"; try dsimp only) | fail "no step")
      refine wend (⟨f, l, p, _, _, tp, tc⟩ : SupS It) (by k_asm) (by k_asm) (fun _ h => h) (by kst_all) ⟨rfl, hlen, hpl, hin, (sup_stop hy).symm.trans hsd⟩
    | some y =>
      have hlt1 : 2 * p + 1 < l₀.length := hlen ▸ (List.getElem?_eq_some_iff.mp hy).1
      have hyin : y.ent ∈ es := hin y (List.mem_of_getElem? hy)
      have hc9 : 2 * p + 1 < 9 := Nat.lt_trans hlt1 hl
      have hpl' : p < l.length := hlen ▸ hpl
      have hf0 : 0 < f := by omega
      cases hz : l[2 * p + 2]? with
      | none =>
        have hge : l₀.length ≤ 2 * p + 2 := hlen ▸ List.getElem?_eq_none_iff.mp hz
        repeat' ( (fail_if_success (with_reducible show UnrEnd _ _ _ _ _ _ _)); (fail_if_success (with_reducible show KswEnd _ _ _ _ _ _ _ _ _ _ _ _)); first | (k_unfold; (try dsimp only)) | (k_end; wrow_close) | k_extra "own" | walk1 | (dsimp only; first | k_extra "own" | walk1) | (leave1; walk_say "STEP leave1"; try dsimp only) | fail "no step")
        refine ksw_end (⟨f - 1, l.set p y, 2 * p + 1, _, _, _, _⟩ : SupS It) (by k_asm) (by k_asm) (fun _ h => h) trivial (by kst_all) (by ksw_same) ⟨rfl, rfl, List.length_set.trans hlen, hlt1, set_in hin hyin, sup_le hf hf0, (sup_one hf0 hy hz).trans hsd⟩ (Nat.sub_lt hf0 (Nat.lt_succ_self _))
      | some z =>
        have hlt2 : 2 * p + 2 < l₀.length := hlen ▸ (List.getElem?_eq_some_iff.mp hz).1
        have hzin : z.ent ∈ es := hin z (List.mem_of_getElem? hz)
        have hd9 : 2 * p + 2 < 9 := Nat.lt_trans hlt2 hl
        repeat' ( (fail_if_success (with_reducible show UnrEnd _ _ _ _ _ _ _)); (fail_if_success (with_reducible show KswEnd _ _ _ _ _ _ _ _ _ _ _ _)); first | (k_unfold; (try dsimp only)) | (k_end; wrow_close) | k_extra "own" | walk1 | (dsimp only; first | k_extra "own" | walk1) | (leave1; walk_say "STEP leave1"; try dsimp only) | fail "no step")
        · rename It.lt y z => hlt
          refine ksw_end (⟨f - 1, l.set p y, 2 * p + 1, _, _, _, _⟩ : SupS It) (by k_asm) (by k_asm) (fun _ h => h) trivial (by kst_all) (by ksw_same) ⟨rfl, rfl, List.length_set.trans hlen, hlt1, set_in hin hyin, sup_le hf hf0, (sup_left hf0 hy hz hlt).trans hsd⟩ (Nat.sub_lt hf0 (Nat.lt_succ_self _))
        · rename ¬ It.lt y z => hlt
          refine ksw_end (⟨f - 1, l.set p z, 2 * p + 2, _, _, _, _⟩ : SupS It) (by k_asm) (by k_asm) (fun _ h => h) trivial (by kst_all) (by ksw_same) ⟨rfl, rfl, List.length_set.trans hlen, hlt2, set_in hin hzin, sup_le2 hf hf0, (sup_right hf0 hy hz hlt).trans hsd⟩ (Nat.sub_lt hf0 (Nat.lt_succ_self _))
  case done =>
    intro z u h tk hO F4 N4
    obtain ⟨f, l, p, pv, cv, tp, tc⟩ := z
    dsimp only [kstB] at hO F4 N4
    obtain ⟨e1, hlen, hpl, hin, hsd⟩ := hO
    subst e1
    dsimp only
    subst hsd
    have hp9 := Nat.lt_trans hpl hl
    have hpl' : p < l.length := hlen ▸ hpl
    have hS : supF l₀ x = sdn p (l.set p x) p x := by unfold supF; rw [← hR]
    rw [hS] at hret
    repeat' ((fail_if_success (with_reducible show wpAny _ _ (PySem.call (Value.ref _) _) _ _ _)); first | (k_unfold; (try dsimp only)) | (k_end; wrow_close) | k_extra "own" | walk1 | (dsimp only; first | k_extra "own" | walk1) | (leave1; walk_say "STEP leave1"; try dsimp only) | fail "no step")
    (k_dflt (refine' CodeSpec.use (sdn_spec (l₀ := l.set p x) (pos₀ := p) (x := x) (List.getElem?_set_self hpl') (List.length_set.symm ▸ hlen ▸ hl) (set_in hin hxin) hoff) ?uB ?uF ?uX ?uN ?uT ?uk ?uin ?ud ?uu ?_; (case uB => k_asm); (case uF => k_asm); (case uX => k_asm); (case uN => k_asm); (case uT => k_asm); (case uk => first | exact rfl | assumption); (case uin => exact fun _ h => h); (case ud => ktr_room); (case uu => ktr_units)); intro r9 l9 h9 tk9 F9 N9 K9 fr9 P9; obtain ⟨rfl, rfl⟩ := P9; (try dsimp only); (try k_fold))
    repeat' ( first | (k_unfold; (try dsimp only)) | (k_end; wrow_close) | k_extra "own" | walk1 | (dsimp only; first | k_extra "own" | walk1) | (leave1; walk_say "STEP leave1"; try dsimp only) | fail "no step")
    refine' ret_end (sub' := (hp, listOf (refsI (sdn p (l.set p x) p x)).toArray n) :: es) (Q := fun r s' => R (.ok (.ret r)) s') hret N hkeep ?rF ?rN ?rG ?rM ?rin ?rsub ⟨rfl, rfl⟩
    case rF => k_asm
    case rN => k_asm
    case rG => k_asm
    case rM => k_asm
    case rin => exact fun _ h => h
    case rsub => exact List.forall_mem_cons.mpr ⟨.inl (.head _), fun p h => .inr (.tail _ h)⟩
theorem replace_spec {w : World} {mean : ExcName → Option Value} {mg mb : Str → Option Value} {hp n : Nat} {l₀ : List It} {x₀ x : It} {es : Led} (hx : l₀[0]? = some x₀) (hl : l₀.length < 9) (hin : ∀ y ∈ l₀, y.ent ∈ es) (hxin : x.ent ∈ es) (hoff : ∀ p ∈ es, p.1 ≠ hp) :
  CodeSpec w mean mg mb 35 [.ref hp, .ref x.a] ((hp, listOf (refsI l₀).toArray n) :: es) [hp] 4 60
   (fun r led => r = .ref x₀.a ∧ led = (hp, listOf (refsI (supF (l₀.set 0 x) x)).toArray n) :: es) := by
  k_with_none
  k_with "own" => ((with_reducible show wpAny _ _ (subscriptTail (Expr.Name _ _) (Expr.Name _ _) (Value.ref _) (Value.int _ _)) _ _ _); first | with_reducible ((k_here; k_dflt (refine' sub_it ?N_w ?m_w ?i_w ?f_w ?x_w ?_ ?s_w; (case N_w => k_asm); (case m_w => k_mem); (case i_w => first | with_reducible rfl | with_reducible assumption); (case x_w => with_reducible assumption); (case f_w => with_reducible assumption); (case s_w => with_unfolding_all rfl); k_whole))) | ((k_here; k_dflt (refine' sub_it ?N_w ?m_w ?i_w ?f_w ?x_w ?_ ?s_w; (case N_w => k_asm); (case m_w => k_mem); (case i_w => first | with_reducible rfl | with_reducible assumption); (case x_w => with_reducible assumption); (case f_w => with_reducible assumption); (case s_w => with_unfolding_all rfl); k_whole))); walk_say "OWN subscriptTail Name Name ref int")
  k_with "own" => ((with_reducible show wpAny _ _ (subscriptTail (Expr.Name _ _) (Expr.Constant _ _ _) (Value.ref _) (Value.int _ _)) _ _ _); first | with_reducible ((k_here; k_dflt (refine' sub_it ?N_w ?m_w ?i_w ?f_w ?x_w ?_ ?s_w; (case N_w => k_asm); (case m_w => k_mem); (case i_w => first | with_reducible rfl | with_reducible assumption); (case x_w => with_reducible assumption); (case f_w => with_reducible assumption); (case s_w => with_unfolding_all rfl); k_whole))) | ((k_here; k_dflt (refine' sub_it ?N_w ?m_w ?i_w ?f_w ?x_w ?_ ?s_w; (case N_w => k_asm); (case m_w => k_mem); (case i_w => first | with_reducible rfl | with_reducible assumption); (case x_w => with_reducible assumption); (case f_w => with_reducible assumption); (case s_w => with_unfolding_all rfl); k_whole))); walk_say "OWN subscriptTail Name Constant ref int")
  k_with "own" => ((with_reducible show wpAny _ _ (compareOp CmpOp.Lt (Value.ref _) (Value.ref _)) _ _ _); first | with_reducible ((k_here; (with_reducible show wpAny _ _ (compareOp CmpOp.Lt (Value.ref _) (Value.ref _)) _ _ _); k_dflt (refine lt_it (by k_asm) (List.mem_cons_of_mem _ (by with_reducible assumption)) (List.mem_cons_of_mem _ (by with_reducible assumption)) (by first | k_units | ktr_units) ?_))) | ((k_here; (with_reducible show wpAny _ _ (compareOp CmpOp.Lt (Value.ref _) (Value.ref _)) _ _ _); k_dflt (refine lt_it (by k_asm) (List.mem_cons_of_mem _ (by with_reducible assumption)) (List.mem_cons_of_mem _ (by with_reducible assumption)) (by first | k_units | ktr_units) ?_))); walk_say "OWN compareOp Lt ref ref")
  k_with "own" => ((with_reducible show wpAny _ _ (setItem (Value.ref _) (Value.int _ _) (Value.ref _)) _ _ _); first | with_reducible ((k_here; k_dflt (refine' ki_set ?F_w ?N_w ?a_w ?b_w ?e_w ?U_w ?_; (case F_w => k_asm); (case N_w => k_asm); (case U_w => k_upd); (case a_w => first | exact Int.natCast_nonneg _ | decide); (case b_w => omega); (case e_w => first | exact set_it (by with_reducible assumption) | exact set_it0 (by with_reducible assumption))); ki_rest)) | ((k_here; k_dflt (refine' ki_set ?F_w ?N_w ?a_w ?b_w ?e_w ?U_w ?_; (case F_w => k_asm); (case N_w => k_asm); (case U_w => k_upd); (case a_w => first | exact Int.natCast_nonneg _ | decide); (case b_w => omega); (case e_w => first | exact set_it (by with_reducible assumption) | exact set_it0 (by with_reducible assumption))); ki_rest)); walk_say "OWN setItem ref int ref")
  k_with "own" => ((with_reducible show wpAny _ _ (PySem.call (Value.builtin "len") _) _ _ _); first | with_reducible (((with_reducible show wpAny _ _ (PySem.call (Value.builtin _) [Value.ref _]) _ _ _); k_dflt (refine' len_it ?N_w ?m_w ?f_w ?_; (case N_w => k_asm); (case m_w => k_mem); (case f_w => with_reducible assumption); k_whole); intro _ _)) | (((with_reducible show wpAny _ _ (PySem.call (Value.builtin _) [Value.ref _]) _ _ _); k_dflt (refine' len_it ?N_w ?m_w ?f_w ?_; (case N_w => k_asm); (case m_w => k_mem); (case f_w => with_reducible assumption); k_whole); intro _ _)); walk_say "OWN call builtin:len")
  unfold CodeSpec; k_fill; intro dp un gd cn cs a ccd cl outer A₀ base h₀ L m s R B F X N T hk hdp hu hret
  k_dflt (refine' spec_code ?k1 ?k2 ?k3 ?k4 ?k5 ?kA ?kF ?kK ?k6 ?k7 ?k8 ?k9 ?kB ?_ ?c2 ?c3 ?c4 ?c5; (case kA => exact rfl); (case kF => exact rfl); (case kK => assumption); (case k1 => k_asm); (case k2 => k_asm); (case k3 => k_asm); (case k4 => k_asm); (case k5 => k_asm); (case k6 => k_is); (case k7 => k_is); (case k8 => ktr_room); (case k9 => exact BindsTo.of_eq rfl); (case c5 => decide); (case kB => exact locs rfl); (case c2 => exact rfl); (case c3 => exact rfl); (case c4 => exact rfl); k_whole; intro g' L' h' FG' F' N' B' X' T' hkeep; (try dsimp only); (try k_lift B'); (try k_fold))
  have hpl : 0 < l₀.length := (List.getElem?_eq_some_iff.mp hx).1
  have hp9 : 0 < 9 := Nat.zero_lt_succ _
  have hz0 : (0 : Int) = ((0 : Nat) : Int) := rfl
  repeat' ((fail_if_success (with_reducible show wpAny _ _ (PySem.call (Value.ref _) _) _ _ _)); first | (k_unfold; (try dsimp only)) | (k_end; wrow_close) | k_extra "own" | walk1 | (dsimp only; first | k_extra "own" | walk1) | (leave1; walk_say "STEP leave1"; try dsimp only) | fail "no step")
  (k_dflt (refine' CodeSpec.use (sup_spec (l₀ := l₀.set 0 x) (x := x) (List.getElem?_set_self hpl) (List.length_set.symm ▸ hl) (set_in hin hxin) hoff) ?uB ?uF ?uX ?uN ?uT ?uk ?uin ?ud ?uu ?_; (case uB => k_asm); (case uF => k_asm); (case uX => k_asm); (case uN => k_asm); (case uT => k_asm); (case uk => first | exact rfl | assumption); (case uin => exact fun _ h => h); (case ud => ktr_room); (case uu => ktr_units)); intro r9 l9 h9 tk9 F9 N9 K9 fr9 P9; obtain ⟨rfl, rfl⟩ := P9; (try dsimp only); (try k_fold))
  repeat' ( first | (k_unfold; (try dsimp only)) | (k_end; wrow_close) | k_extra "own" | walk1 | (dsimp only; first | k_extra "own" | walk1) | (leave1; walk_say "STEP leave1"; try dsimp only) | fail "no step")
  refine' ret_end (sub' := (hp, listOf (refsI (supF (l₀.set 0 x) x)).toArray n) :: es) (Q := fun r s' => R (.ok (.ret r)) s') hret N hkeep ?rF ?rN ?rG ?rM ?rin ?rsub ⟨rfl, rfl⟩
  case rF => k_asm
  case rN => k_asm
  case rG => k_asm
  case rM => k_asm
  case rin => exact fun _ h => h
  case rsub => exact List.forall_mem_cons.mpr ⟨.inl (.head _), fun p h => .inr (.tail _ h)⟩
theorem push_spec {w : World} {mean : ExcName → Option Value} {mg mb : Str → Option Value} {hp n : Nat} {l₀ : List It} {x : It} {es : Led} (hl : l₀.length < 8) (hin : ∀ y ∈ l₀, y.ent ∈ es) (hxin : x.ent ∈ es) (hoff : ∀ p ∈ es, p.1 ≠ hp) :
  CodeSpec w mean mg mb 28 [.ref hp, .ref x.a] ((hp, listOf (refsI l₀).toArray n) :: es) [hp] 4 60
   (fun r led => r = .none ∧ led = (hp, listOf (refsI (sdn l₀.length (l₀ ++ [x]) l₀.length x)).toArray (n + 1)) :: es) := by
  k_with_none
  k_with "own" => ((with_reducible show wpAny _ _ (subscriptTail (Expr.Name _ _) (Expr.Name _ _) (Value.ref _) (Value.int _ _)) _ _ _); first | with_reducible ((k_here; k_dflt (refine' sub_it ?N_w ?m_w ?i_w ?f_w ?x_w ?_ ?s_w; (case N_w => k_asm); (case m_w => k_mem); (case i_w => first | with_reducible rfl | with_reducible assumption); (case x_w => with_reducible assumption); (case f_w => with_reducible assumption); (case s_w => with_unfolding_all rfl); k_whole))) | ((k_here; k_dflt (refine' sub_it ?N_w ?m_w ?i_w ?f_w ?x_w ?_ ?s_w; (case N_w => k_asm); (case m_w => k_mem); (case i_w => first | with_reducible rfl | with_reducible assumption); (case x_w => with_reducible assumption); (case f_w => with_reducible assumption); (case s_w => with_unfolding_all rfl); k_whole))); walk_say "OWN subscriptTail Name Name ref int")
  k_with "own" => ((with_reducible show wpAny _ _ (subscriptTail (Expr.Name _ _) (Expr.Constant _ _ _) (Value.ref _) (Value.int _ _)) _ _ _); first | with_reducible ((k_here; k_dflt (refine' sub_it ?N_w ?m_w ?i_w ?f_w ?x_w ?_ ?s_w; (case N_w => k_asm); (case m_w => k_mem); (case i_w => first | with_reducible rfl | with_reducible assumption); (case x_w => with_reducible assumption); (case f_w => with_reducible assumption); (case s_w => with_unfolding_all rfl); k_whole))) | ((k_here; k_dflt (refine' sub_it ?N_w ?m_w ?i_w ?f_w ?x_w ?_ ?s_w; (case N_w => k_asm); (case m_w => k_mem); (case i_w => first | with_reducible rfl | with_reducible assumption); (case x_w => with_reducible assumption); (case f_w => with_reducible assumption); (case s_w => with_unfolding_all rfl); k_whole))); walk_say "OWN subscriptTail Name Constant ref int")
  k_with "own" => ((with_reducible show wpAny _ _ (compareOp CmpOp.Lt (Value.ref _) (Value.ref _)) _ _ _); first | with_reducible ((k_here; (with_reducible show wpAny _ _ (compareOp CmpOp.Lt (Value.ref _) (Value.ref _)) _ _ _); k_dflt (refine lt_it (by k_asm) (List.mem_cons_of_mem _ (by with_reducible assumption)) (List.mem_cons_of_mem _ (by with_reducible assumption)) (by first | k_units | ktr_units) ?_))) | ((k_here; (with_reducible show wpAny _ _ (compareOp CmpOp.Lt (Value.ref _) (Value.ref _)) _ _ _); k_dflt (refine lt_it (by k_asm) (List.mem_cons_of_mem _ (by with_reducible assumption)) (List.mem_cons_of_mem _ (by with_reducible assumption)) (by first | k_units | ktr_units) ?_))); walk_say "OWN compareOp Lt ref ref")
  k_with "own" => ((with_reducible show wpAny _ _ (setItem (Value.ref _) (Value.int _ _) (Value.ref _)) _ _ _); first | with_reducible ((k_here; k_dflt (refine' ki_set ?F_w ?N_w ?a_w ?b_w ?e_w ?U_w ?_; (case F_w => k_asm); (case N_w => k_asm); (case U_w => k_upd); (case a_w => first | exact Int.natCast_nonneg _ | decide); (case b_w => omega); (case e_w => first | exact set_it (by with_reducible assumption) | exact set_it0 (by with_reducible assumption))); ki_rest)) | ((k_here; k_dflt (refine' ki_set ?F_w ?N_w ?a_w ?b_w ?e_w ?U_w ?_; (case F_w => k_asm); (case N_w => k_asm); (case U_w => k_upd); (case a_w => first | exact Int.natCast_nonneg _ | decide); (case b_w => omega); (case e_w => first | exact set_it (by with_reducible assumption) | exact set_it0 (by with_reducible assumption))); ki_rest)); walk_say "OWN setItem ref int ref")
  k_with "own" => ((with_reducible show wpAny _ _ (PySem.call (Value.builtin "len") _) _ _ _); first | with_reducible (((with_reducible show wpAny _ _ (PySem.call (Value.builtin _) [Value.ref _]) _ _ _); k_dflt (refine' len_it ?N_w ?m_w ?f_w ?_; (case N_w => k_asm); (case m_w => k_mem); (case f_w => with_reducible assumption); k_whole); intro _ _)) | (((with_reducible show wpAny _ _ (PySem.call (Value.builtin _) [Value.ref _]) _ _ _); k_dflt (refine' len_it ?N_w ?m_w ?f_w ?_; (case N_w => k_asm); (case m_w => k_mem); (case f_w => with_reducible assumption); k_whole); intro _ _)); walk_say "OWN call builtin:len")
  unfold CodeSpec; k_fill; intro dp un gd cn cs a ccd cl outer A₀ base h₀ L m s R B F X N T hk hdp hu hret
  k_dflt (refine' spec_code ?k1 ?k2 ?k3 ?k4 ?k5 ?kA ?kF ?kK ?k6 ?k7 ?k8 ?k9 ?kB ?_ ?c2 ?c3 ?c4 ?c5; (case kA => exact rfl); (case kF => exact rfl); (case kK => assumption); (case k1 => k_asm); (case k2 => k_asm); (case k3 => k_asm); (case k4 => k_asm); (case k5 => k_asm); (case k6 => k_is); (case k7 => k_is); (case k8 => ktr_room); (case k9 => exact BindsTo.of_eq rfl); (case c5 => decide); (case kB => exact locs rfl); (case c2 => exact rfl); (case c3 => exact rfl); (case c4 => exact rfl); k_whole; intro g' L' h' FG' F' N' B' X' T' hkeep; (try dsimp only); (try k_lift B'); (try k_fold))
  repeat' ((fail_if_success (with_reducible show wpAny _ _ (PySem.call (Value.ref _) _) _ _ _)); first | (k_unfold; (try dsimp only)) | (k_end; wrow_close) | k_extra "own" | walk1 | (dsimp only; first | k_extra "own" | walk1) | (leave1; walk_say "STEP leave1"; try dsimp only) | fail "no step")
  rename News g' L' _ _ => N9
  rw [push_it] at N9
  have hl9 : (l₀ ++ [x]).length < 9 := by rw [List.length_append]; exact Nat.succ_lt_succ hl
  have hin9 : ∀ y ∈ l₀ ++ [x], y.ent ∈ es := fun y hy => (List.mem_append.mp hy).elim (hin y) fun h => List.mem_singleton.mp h ▸ hxin
  k_dflt (refine len_it N9 (.head _) hl9 fun _ _ => ?_)
  repeat' ((fail_if_success (with_reducible show wpAny _ _ (PySem.call (Value.ref _) _) _ _ _)); first | (k_unfold; (try dsimp only)) | (k_end; wrow_close) | k_extra "own" | walk1 | (dsimp only; first | k_extra "own" | walk1) | (leave1; walk_say "STEP leave1"; try dsimp only) | fail "no step")
  rw [len_pred]
  (k_dflt (refine' CodeSpec.use (sdn_spec (l₀ := l₀ ++ [x]) (x := x) (by simp) hl9 hin9 hoff) ?uB ?uF ?uX ?uN ?uT ?uk ?uin ?ud ?uu ?_; (case uB => k_asm); (case uF => k_asm); (case uX => k_asm); (case uN => k_asm); (case uT => k_asm); (case uk => first | exact rfl | assumption); (case uin => exact fun _ h => h); (case ud => ktr_room); (case uu => ktr_units)); intro r9 l9 h9 tk9 F9 N9 K9 fr9 P9; obtain ⟨rfl, rfl⟩ := P9; (try dsimp only); (try k_fold))
  repeat' ( first | (k_unfold; (try dsimp only)) | (k_end; wrow_close) | k_extra "own" | walk1 | (dsimp only; first | k_extra "own" | walk1) | (leave1; walk_say "STEP leave1"; try dsimp only) | fail "no step")
  refine' ret_end (sub' := (hp, listOf (refsI (sdn l₀.length (l₀ ++ [x]) l₀.length x)).toArray (n + 1)) :: es) (Q := fun r s' => R (.ok (.ret r)) s') hret N hkeep ?rF ?rN ?rG ?rM ?rin ?rsub ⟨rfl, rfl⟩
  case rF => k_asm
  case rN => k_asm
  case rG => k_asm
  case rM => k_asm
  case rin => exact fun _ h => h
  case rsub => exact List.forall_mem_cons.mpr ⟨.inl (.head _), fun p h => .inr (.tail _ h)⟩
end
def lexLe (c1 k1 c2 k2 : Int) : Prop := c1 < c2 ∨ (c1 = c2 ∧ k1 ≤ k2)
def HeapOk (c0 k0 c1 k1 c2 k2 c3 k3 c4 k4 : Int) : Prop := lexLe c0 k0 c1 k1 ∧ lexLe c0 k0 c2 k2 ∧ lexLe c1 k1 c3 k3 ∧ lexLe c1 k1 c4 k4
theorem lexLe_trans {a b c d e f : Int} (h1 : lexLe a b c d) (h2 : lexLe c d e f) : lexLe a b e f := by
  rcases h1 with h | ⟨rfl, h⟩
  · rcases h2 with g | ⟨rfl, _⟩
    · exact .inl (Int.lt_trans h g)
    · exact .inl h
  · rcases h2 with g | ⟨rfl, g⟩
    · exact .inl g
    · exact .inr ⟨rfl, Int.le_trans h g⟩
abbrev It.le (x y : It) : Prop := lexLe x.c x.k y.c y.k
theorem It.lt_le {x y : It} (h : x.lt y) : x.le y := h.elim .inl fun q => .inr ⟨q.1, Int.le_of_lt q.2⟩
theorem It.not_le {x y : It} (h : ¬ x.lt y) : y.le x := by
  rcases Int.lt_or_le y.c x.c with q | q
  · exact .inl q
  · rcases Int.lt_or_eq_of_le q with q | q
    · exact absurd (.inl q) h
    · exact .inr ⟨q.symm, Int.not_lt.mp fun g => h (.inr ⟨q, g⟩)⟩
theorem It.le_trans {x y z : It} (h : x.le y) (g : y.le z) : x.le z := lexLe_trans h g
/-- what the items weigh together -/
noncomputable def sumL (f : Int → Int → Int) : List It → Int
  | [] => 0
  | x :: l => f x.c x.k + sumL f l
theorem sumL_set {f : Int → Int → Int} {y z : It} : ∀ {l : List It} {i : Nat}, l[i]? = some z → sumL f (l.set i y) = sumL f l - f z.c z.k + f y.c y.k
  | [], _, h => by simp at h
  | x :: l, 0, h => by
    obtain rfl : x = z := Option.some.inj h
    show f y.c y.k + sumL f l = f x.c x.k + sumL f l - f x.c x.k + f y.c y.k
    omega
  | x :: l, i + 1, h => by
    show f x.c x.k + sumL f (l.set i y) = f x.c x.k + sumL f l - f z.c z.k + f y.c y.k
    rw [sumL_set (l := l) (i := i) h]
    omega
theorem sumL_snoc {f : Int → Int → Int} {x : It} : ∀ {l : List It}, sumL f (l ++ [x]) = sumL f l + f x.c x.k
  | [] => by show f x.c x.k + 0 = 0 + f x.c x.k; omega
  | y :: l => by show f y.c y.k + sumL f (l ++ [x]) = f y.c y.k + sumL f l + f x.c x.k; rw [sumL_snoc]; omega
theorem sdn_len {x : It} : ∀ (f : Nat) (l : List It) (pos : Nat), (sdn f l pos x).length = l.length
  | 0, l, pos => List.length_set
  | f + 1, l, pos => by
    unfold sdn
    by_cases h0 : pos = 0
    · rw [if_pos h0]; exact List.length_set
    · rw [if_neg h0]
      cases l[(pos - 1) / 2]? with
      | none => rfl
      | some y =>
        dsimp only
        by_cases h : x.lt y
        · rw [if_pos h, sdn_len, List.length_set]
        · rw [if_neg h, List.length_set]
theorem sdn_mem {x : It} : ∀ (f : Nat) (l : List It) (pos : Nat) (y : It), y ∈ sdn f l pos x → y ∈ l ∨ y = x
  | 0, l, pos, y, h => List.mem_or_eq_of_mem_set h
  | f + 1, l, pos, y, h => by
    unfold sdn at h
    by_cases h0 : pos = 0
    · rw [if_pos h0] at h; exact List.mem_or_eq_of_mem_set h
    · rw [if_neg h0] at h
      cases hz : l[(pos - 1) / 2]? with
      | none => rw [hz] at h; exact .inl h
      | some z =>
        rw [hz] at h
        dsimp only at h
        by_cases hl : x.lt z
        · rw [if_pos hl] at h
          rcases sdn_mem f _ _ y h with q | q
          · rcases List.mem_or_eq_of_mem_set q with q | rfl
            · exact .inl q
            · exact .inl (List.mem_of_getElem? hz)
          · exact .inr q
        · rw [if_neg hl] at h; exact List.mem_or_eq_of_mem_set h
theorem set_set_sum {f : Int → Int → Int} {l : List It} {p c : Nat} {x y : It} (hp : p < l.length) (hne : p ≠ c) (hc : l[c]? = some y) : sumL f ((l.set p y).set c x) = sumL f (l.set p x) := by
  rw [sumL_set (z := y) (by rw [List.getElem?_set_ne hne]; exact hc), sumL_set (List.getElem?_eq_getElem hp), sumL_set (List.getElem?_eq_getElem hp)]
  omega
theorem sdn_sum {f : Int → Int → Int} {x : It} : ∀ (n : Nat) (l : List It) (pos : Nat), pos < l.length → sumL f (sdn n l pos x) = sumL f (l.set pos x)
  | 0, l, pos, _ => rfl
  | n + 1, l, pos, hp => by
    unfold sdn
    by_cases h0 : pos = 0
    · rw [if_pos h0]
    · rw [if_neg h0]
      have hq : (pos - 1) / 2 < pos := by omega
      rw [List.getElem?_eq_getElem (Nat.lt_trans hq hp)]
      dsimp only
      by_cases hl : x.lt l[(pos - 1) / 2]
      · rw [if_pos hl, sdn_sum n _ _ (by rw [List.length_set]; exact Nat.lt_trans hq hp)]
        exact set_set_sum hp (Nat.ne_of_gt hq) (List.getElem?_eq_getElem (Nat.lt_trans hq hp))
      · rw [if_neg hl]
theorem sup_len : ∀ (f : Nat) (l : List It) (p : Nat), (sup f l p).1.length = l.length
  | 0, l, p => rfl
  | f + 1, l, p => by
    unfold sup
    cases l[2 * p + 1]? with
    | none => rfl
    | some y =>
      dsimp only
      cases l[2 * p + 2]? with
      | none => dsimp only; rw [sup_len, List.length_set]
      | some z =>
        dsimp only
        by_cases h : y.lt z
        · rw [if_pos h, sup_len, List.length_set]
        · rw [if_neg h, sup_len, List.length_set]
theorem sup_mem : ∀ (f : Nat) (l : List It) (p : Nat) (y : It), y ∈ (sup f l p).1 → y ∈ l
  | 0, _, _, _, h => h
  | f + 1, l, p, y, h => by
    unfold sup at h
    cases hc : l[2 * p + 1]? with
    | none => rw [hc] at h; exact h
    | some a =>
      have ha := List.mem_of_getElem? hc
      rw [hc] at h
      dsimp only at h
      cases hd : l[2 * p + 2]? with
      | none =>
        rw [hd] at h
        rcases List.mem_or_eq_of_mem_set (sup_mem f _ _ y h) with q | rfl
        · exact q
        · exact ha
      | some z =>
        have hz := List.mem_of_getElem? hd
        rw [hd] at h
        dsimp only at h
        by_cases hl : a.lt z
        · rw [if_pos hl] at h
          rcases List.mem_or_eq_of_mem_set (sup_mem f _ _ y h) with q | rfl
          · exact q
          · exact ha
        · rw [if_neg hl] at h
          rcases List.mem_or_eq_of_mem_set (sup_mem f _ _ y h) with q | rfl
          · exact q
          · exact hz
theorem sup_pos : ∀ (f : Nat) (l : List It) (p : Nat), p < l.length → (sup f l p).2 < l.length
  | 0, _, _, h => h
  | f + 1, l, p, h => by
    unfold sup
    cases hc : l[2 * p + 1]? with
    | none => exact h
    | some a =>
      have h1 := (List.getElem?_eq_some_iff.mp hc).1
      dsimp only
      cases hd : l[2 * p + 2]? with
      | none => dsimp only; exact Nat.lt_of_lt_of_eq (sup_pos f _ _ (by rw [List.length_set]; exact h1)) List.length_set
      | some z =>
        have h2 := (List.getElem?_eq_some_iff.mp hd).1
        dsimp only
        by_cases hl : a.lt z
        · rw [if_pos hl]; exact Nat.lt_of_lt_of_eq (sup_pos f _ _ (by rw [List.length_set]; exact h1)) List.length_set
        · rw [if_neg hl]; exact Nat.lt_of_lt_of_eq (sup_pos f _ _ (by rw [List.length_set]; exact h2)) List.length_set
theorem sup_sum {g : Int → Int → Int} {x : It} : ∀ (f : Nat) (l : List It) (p : Nat), p < l.length → sumL g ((sup f l p).1.set (sup f l p).2 x) = sumL g (l.set p x)
  | 0, _, _, _ => rfl
  | f + 1, l, p, h => by
    unfold sup
    cases hc : l[2 * p + 1]? with
    | none => rfl
    | some a =>
      have h1 := (List.getElem?_eq_some_iff.mp hc).1
      dsimp only
      cases hd : l[2 * p + 2]? with
      | none => dsimp only; rw [sup_sum f _ _ (by rw [List.length_set]; exact h1)]; exact set_set_sum h (by omega) hc
      | some z =>
        have h2 := (List.getElem?_eq_some_iff.mp hd).1
        dsimp only
        by_cases hl : a.lt z
        · rw [if_pos hl, sup_sum f _ _ (by rw [List.length_set]; exact h1)]; exact set_set_sum h (by omega) hc
        · rw [if_neg hl, sup_sum f _ _ (by rw [List.length_set]; exact h2)]; exact set_set_sum h (by omega) hd
theorem supF_len (l : List It) (x : It) : (supF l x).length = l.length := by unfold supF; rw [sdn_len, List.length_set, sup_len]
theorem supF_mem {l : List It} {x y : It} (h : y ∈ supF l x) : y ∈ l ∨ y = x := by
  rcases sdn_mem _ _ _ _ h with q | q
  · rcases List.mem_or_eq_of_mem_set q with q | q
    · exact .inl (sup_mem _ _ _ _ q)
    · exact .inr q
  · exact .inr q
theorem supF_sum {g : Int → Int → Int} {l : List It} {x : It} (h : 0 < l.length) : sumL g (supF l x) = sumL g (l.set 0 x) := by
  unfold supF
  have h2 : (sup l.length l 0).2 < (sup l.length l 0).1.length := by rw [sup_len]; exact sup_pos _ _ _ h
  rw [sdn_sum _ _ _ (by rw [List.length_set]; exact h2), List.set_set]
  exact sup_sum _ _ _ h
/-- the order of a heap of at most five -/
def HeapL : List It → Prop
  | [] => True
  | [_] => True
  | [x0, x1] => x0.le x1
  | [x0, x1, x2] => x0.le x1 ∧ x0.le x2
  | [x0, x1, x2, x3] => x0.le x1 ∧ x0.le x2 ∧ x1.le x3
  | [x0, x1, x2, x3, x4] => x0.le x1 ∧ x0.le x2 ∧ x1.le x3 ∧ x1.le x4
  | _ => False
theorem push_heap {x : It} : ∀ (l : List It), l.length < 5 → HeapL l → HeapL (sdn l.length (l ++ [x]) l.length x)
  | [], _, _ => trivial
  | [x0], _, _ => by
    have e : sdn 1 [x0, x] 1 x = if x.lt x0 then [x, x0] else [x0, x] := by kernel_rfl
    refine Eq.mpr (congrArg HeapL (show sdn [x0].length ([x0] ++ [x]) [x0].length x = _ from e)) ?_
    by_cases h : x.lt x0
    · rw [if_pos h]; exact It.lt_le h
    · rw [if_neg h]; exact It.not_le h
  | [x0, x1], _, a => by
    have e : sdn 2 [x0, x1, x] 2 x = if x.lt x0 then [x, x1, x0] else [x0, x1, x] := by kernel_rfl
    refine Eq.mpr (congrArg HeapL (show sdn [x0, x1].length ([x0, x1] ++ [x]) [x0, x1].length x = _ from e)) ?_
    by_cases h : x.lt x0
    · rw [if_pos h]; exact ⟨It.le_trans (It.lt_le h) a, It.lt_le h⟩
    · rw [if_neg h]; exact ⟨a, It.not_le h⟩
  | [x0, x1, x2], _, ⟨a, b⟩ => by
    have e : sdn 3 [x0, x1, x2, x] 3 x = if x.lt x1 then (if x.lt x0 then [x, x0, x2, x1] else [x0, x, x2, x1]) else [x0, x1, x2, x] := by kernel_rfl
    refine Eq.mpr (congrArg HeapL (show sdn [x0, x1, x2].length ([x0, x1, x2] ++ [x]) [x0, x1, x2].length x = _ from e)) ?_
    by_cases h : x.lt x1
    · rw [if_pos h]
      by_cases g : x.lt x0
      · rw [if_pos g]; exact ⟨It.lt_le g, It.le_trans (It.lt_le g) b, a⟩
      · rw [if_neg g]; exact ⟨It.not_le g, b, It.lt_le h⟩
    · rw [if_neg h]; exact ⟨a, b, It.not_le h⟩
  | [x0, x1, x2, x3], _, ⟨a, b, c⟩ => by
    have e : sdn 4 [x0, x1, x2, x3, x] 4 x = if x.lt x1 then (if x.lt x0 then [x, x0, x2, x3, x1] else [x0, x, x2, x3, x1]) else [x0, x1, x2, x3, x] := by kernel_rfl
    refine Eq.mpr (congrArg HeapL (show sdn [x0, x1, x2, x3].length ([x0, x1, x2, x3] ++ [x]) [x0, x1, x2, x3].length x = _ from e)) ?_
    by_cases h : x.lt x1
    · rw [if_pos h]
      by_cases g : x.lt x0
      · rw [if_pos g]; exact ⟨It.lt_le g, It.le_trans (It.lt_le g) b, It.le_trans a c, a⟩
      · rw [if_neg g]; exact ⟨It.not_le g, b, It.le_trans (It.lt_le h) c, It.lt_le h⟩
    · rw [if_neg h]; exact ⟨a, b, c, It.not_le h⟩
theorem replace_heap {x x0 x1 x2 x3 x4 : It} (H : HeapL [x0, x1, x2, x3, x4]) : HeapL (supF [x, x1, x2, x3, x4] x) := by
  obtain ⟨a, b, c, d⟩ := H
  show HeapL (supF [x, x1, x2, x3, x4] x)
  by_cases h : x1.lt x2
  · by_cases g : x3.lt x4
    · have e : sup 5 [x, x1, x2, x3, x4] 0 = ([x1, x3, x2, x3, x4], 3) := (if_pos h).trans (if_pos g)
      have e2 : supF [x, x1, x2, x3, x4] x = if x.lt x3 then (if x.lt x1 then [x, x1, x2, x3, x4] else [x1, x, x2, x3, x4]) else [x1, x3, x2, x, x4] := by
        unfold supF
        rw [show sup [x, x1, x2, x3, x4].length [x, x1, x2, x3, x4] 0 = ([x1, x3, x2, x3, x4], 3) from e]
        kernel_rfl
      rw [e2]
      by_cases k : x.lt x3
      · rw [if_pos k]
        by_cases m : x.lt x1
        · rw [if_pos m]; exact ⟨It.lt_le m, It.le_trans (It.lt_le m) (It.lt_le h), c, d⟩
        · rw [if_neg m]; exact ⟨It.not_le m, It.lt_le h, It.lt_le k, It.le_trans (It.lt_le k) (It.lt_le g)⟩
      · rw [if_neg k]; exact ⟨c, It.lt_le h, It.not_le k, It.lt_le g⟩
    · have e2 : supF [x, x1, x2, x3, x4] x = if x.lt x4 then (if x.lt x1 then [x, x1, x2, x3, x4] else [x1, x, x2, x3, x4]) else [x1, x4, x2, x3, x] := by
        unfold supF
        rw [show sup [x, x1, x2, x3, x4].length [x, x1, x2, x3, x4] 0 = ([x1, x4, x2, x3, x4], 4) from (if_pos h).trans (if_neg g)]
        kernel_rfl
      rw [e2]
      by_cases k : x.lt x4
      · rw [if_pos k]
        by_cases m : x.lt x1
        · rw [if_pos m]; exact ⟨It.lt_le m, It.le_trans (It.lt_le m) (It.lt_le h), c, d⟩
        · rw [if_neg m]; exact ⟨It.not_le m, It.lt_le h, It.le_trans (It.lt_le k) (It.not_le g), It.lt_le k⟩
      · rw [if_neg k]; exact ⟨d, It.lt_le h, It.not_le g, It.not_le k⟩
  · have e2 : supF [x, x1, x2, x3, x4] x = if x.lt x2 then [x, x1, x2, x3, x4] else [x2, x1, x, x3, x4] := by
      unfold supF
      rw [show sup [x, x1, x2, x3, x4].length [x, x1, x2, x3, x4] 0 = ([x2, x1, x2, x3, x4], 2) from if_neg h]
      kernel_rfl
    rw [e2]
    by_cases k : x.lt x2
    · rw [if_pos k]; exact ⟨It.le_trans (It.lt_le k) (It.not_le h), It.lt_le k, c, d⟩
    · rw [if_neg k]; exact ⟨It.not_le h, It.not_le k, c, d⟩
section
local macro_rules | `(tactic| k_ne) => `(tactic| (refine neN ?_; (try dsimp only); first | with_reducible assumption | exact Ne.symm (by with_reducible assumption)))
def tbStr (t b : Nat) : Str := ⟨(List.replicate t 9 ++ List.replicate b 32).toArray⟩
theorem tb_signs (t b : Nat) : (tbStr t b).cps.toList.map (fun c => (⟨#[c]⟩ : Str)) = List.replicate t (Str.ofString "\t") ++ List.replicate b (Str.ofString " ") := by
  have e1 : Str.ofString "\t" = ⟨#[9]⟩ := by decide +kernel
  have e2 : Str.ofString " " = ⟨#[32]⟩ := by decide +kernel
  rw [e1, e2]
  simp [tbStr, List.map_append, List.map_replicate]
/-- the count of tabs, as the lead keeps it -/
abbrev cntOf (t : Nat) (k : Tok) : Array Value := if t = 0 then #[] else #[.int t k]
abbrev tupO (vs : Array Value) : Obj := { cls := .type "tuple", data := .seq vs 0 }
abbrev leadDict (w : World) (raw : Value) (n : Int) (t : Int) (nx : Addr) (sm : Bool) (q1 q2 q3 q4 q5 k1 k2 : Tok) : Obj :=
  dictOf [⟨PyData.keyHash w.params (Str.ofString "raw"), .str (Str.ofString "raw") q1, raw⟩, ⟨PyData.keyHash w.params (Str.ofString "n"), .str (Str.ofString "n") q2, .int n k1⟩,
    ⟨PyData.keyHash w.params (Str.ofString "nt"), .str (Str.ofString "nt") q3, .int t k2⟩, ⟨PyData.keyHash w.params (Str.ofString "norm"), .str (Str.ofString "norm") q4, .ref nx⟩,
    ⟨PyData.keyHash w.params (Str.ofString "is_simple"), .str (Str.ofString "is_simple") q5, .bool sm⟩] 5
/-- a lead in the ledger -/
structure Lead where
  x : Nat
  dx : Nat
  nx : Nat
  cx : Nat
  t : Nat
  b : Nat
  raw : Value
  n : Int
  sm : Bool
  q1 : Tok
  q2 : Tok
  q3 : Tok
  q4 : Tok
  q5 : Tok
  k1 : Tok
  k2 : Tok
  k3 : Tok
  k4 : Tok
abbrev Lead.led (w : World) (l : Lead) : Led :=
  [(l.x, instObj 111 l.dx), (l.dx, leadDict w l.raw l.n l.t l.nx l.sm l.q1 l.q2 l.q3 l.q4 l.q5 l.k1 l.k2), (l.nx, tupO #[.ref l.cx, .int l.b l.k3]), (l.cx, tupO (cntOf l.t l.k4))]
structure WsS where
  nt : Nat
  nb : Nat
  ca : Nat
  e : Nat
  k1 : Tok
  k2 : Tok
  k3 : Tok
  k4 : Tok
theorem init_spec {w : World} {mean : ExcName → Option Value} {mg mb : Str → Option Value} {x dx t b : Nat} {tk0 : Tok} (ht : t ≤ 3) (hb : b ≤ 5) :
  CodeSpec w mean mg mb 66 [.ref x, .str (tbStr t b) tk0] [(x, instObj 111 dx), (dx, dictOf [] 0)] [dx] 4 60
    (fun r l => r = .none ∧ ∃ z : Lead, z.x = x ∧ z.dx = dx ∧ z.t = t ∧ z.b = b ∧ l = z.led w) := by
  k_with_none
  k_with "own" => ((with_reducible show wpAny _ _ (setItem (Value.ref _) (Value.int _ _) (Value.int _ _)) _ _ _); first | with_reducible ((k_here; k_dflt (refine' ki_set ?F_w ?N_w ?a_w ?b_w ?e_w ?U_w ?_; (case F_w => k_asm); (case N_w => k_asm); (case U_w => k_upd); (case a_w => decide); (case b_w => decide); (case e_w => rfl)); ki_rest)) | ((k_here; k_dflt (refine' ki_set ?F_w ?N_w ?a_w ?b_w ?e_w ?U_w ?_; (case F_w => k_asm); (case N_w => k_asm); (case U_w => k_upd); (case a_w => decide); (case b_w => decide); (case e_w => rfl)); ki_rest)); walk_say "OWN setItem ref int int")
  unfold CodeSpec; k_fill; intro dp un gd cn cs a ccd cl outer A₀ base h₀ L m s R B F X N T hk hdp hu hret
  have e0 : x ≠ dx := news_ne N (by k_mem) (by k_mem) (by simp)
  k_dflt (refine' spec_code ?k1 ?k2 ?k3 ?k4 ?k5 ?kA ?kF ?kK ?k6 ?k7 ?k8 ?k9 ?kB ?_ ?c2 ?c3 ?c4 ?c5; (case kA => exact rfl); (case kF => exact rfl); (case kK => assumption); (case k1 => k_asm); (case k2 => k_asm); (case k3 => k_asm); (case k4 => k_asm); (case k5 => k_asm); (case k6 => k_is); (case k7 => k_is); (case k8 => ktr_room); (case k9 => exact BindsTo.of_eq rfl); (case c5 => decide); (case kB => exact locs rfl); (case c2 => exact rfl); (case c3 => exact rfl); (case c4 => exact rfl); k_whole; intro g' L' h' FG' F' N' B' X' T' hkeep; (try dsimp only); (try k_lift B'); (try k_fold))
  repeat' ((fail_if_success (with_reducible show wpAny _ _ (PySem.call (Value.ref _) _) _ _ _)); (fail_if_success (with_reducible show wpAny _ _ (pyIter _) _ _ _)); first | (k_unfold; (try dsimp only)) | (k_end; wrow_close) | k_extra "own" | walk1 | (dsimp only; first | k_extra "own" | walk1) | (leave1; walk_say "STEP leave1"; try dsimp only) | fail "no step")
  refine' pack (σ := Tok × Nat × Tok × Tok × Tok) (fun z => [(Str.ofString "n", .int 0 z.2.2.1), (Str.ofString "nt", .int 0 z.2.2.2.1), (Str.ofString "b", .int 0 z.2.2.2.2), (Str.ofString "count", .ref z.2.1), (Str.ofString "S", .str (Str.ofString " ") 253), (Str.ofString "T", .str (Str.ofString "\t") 254), (Str.ofString "self", .ref x)])
    (fun z => [(z.2.1, listOf #[] 0), (x, instObj 111 dx), (dx, dictOf [⟨PyData.keyHash w.params (Str.ofString "raw"), .str (Str.ofString "raw") z.1, .str (tbStr t b) tk0⟩] 1)]) ?F ?N ⟨_, _, _, _, _⟩ ?hm ?hn ?_
  case F => k_asm
  case N => k_asm
  case hn => (dsimp only; exact (List.forall_mem_cons.mpr ⟨by k_mem, (List.forall_mem_cons.mpr ⟨by k_mem, (List.forall_mem_cons.mpr ⟨by k_mem, (List.forall_mem_nil _)⟩)⟩)⟩))
  case hm => kst_all
  rintro ⟨q, ca, k1, k2, k3⟩ m1 hm1 F2 N2
  dsimp only at hm1 N2
  refine iter_strUnr (by rfl) F2 N2 (tb_signs t b) (fun I hI => ?_)
  refine str_inv (σ := WsS) (fun _ z => [(z.ca, listOf (cntOf z.nt z.k4) z.e), (x, instObj 111 dx), (dx, dictOf [⟨PyData.keyHash w.params (Str.ofString "raw"), .str (Str.ofString "raw") q, .str (tbStr t b) tk0⟩] 1)])
    (fun _ z => [(Str.ofString "n", .int (z.nt + z.nb) z.k1), (Str.ofString "nt", .int z.nt z.k2), (Str.ofString "b", .int z.nb z.k3), (Str.ofString "count", .ref z.ca), (Str.ofString "S", .str (Str.ofString " ") 253), (Str.ofString "T", .str (Str.ofString "\t") 254), (Str.ofString "self", .ref x)])
    (fun r z => (z.nt < t ∧ z.nb = 0 ∧ r = List.replicate (t - z.nt) (Str.ofString "\t") ++ List.replicate b (Str.ofString " ")) ∨ (z.nt = t ∧ z.nb ≤ b ∧ r = List.replicate (b - z.nb) (Str.ofString " ")))
    ?step ?done _ _ _ (fun p hp => Nat.ne_of_lt (hI p hp)) ⟨⟨0, 0, ca, 0, k1, k2, k3, 0⟩, rfl, hm1, ?init⟩
  case init =>
    rcases Nat.eq_zero_or_pos t with h0 | h0
    · subst h0; exact .inr ⟨rfl, Nat.zero_le _, rfl⟩
    · exact .inl ⟨h0, rfl, rfl⟩
  case step =>
    intro c r z v u it h tk hp ho F3 N3
    obtain ⟨nt, nb, ca, e, k1, k2, k3, k4⟩ := z
    dsimp only [kstB] at hp ho F3 N3 ⊢
    have o1 : ca ≠ I := ho (ca, _) (by k_mem)
    have o2 : x ≠ I := ho (x, _) (by k_mem)
    have o3 : dx ≠ I := ho (dx, _) (by k_mem)
    clear ho
    have l1 : dx ≠ ca := news_ne N3 (by k_mem) (by k_mem) (by simp)
    have l2 : x ≠ ca := news_ne N3 (by k_mem) (by k_mem) (by simp)
    rcases hp with ⟨p1, p2, p3⟩ | ⟨p1, p2, p3⟩
    · obtain ⟨i, hi⟩ : ∃ i, t - nt = i + 1 := ⟨t - nt - 1, by omega⟩
      rw [hi, List.replicate_succ, List.cons_append] at p3
      obtain ⟨rfl, rfl⟩ := List.cons.inj p3
      subst p2
      rcases Nat.eq_zero_or_pos nt with h0 | h0
      · subst h0
        simp only [cntOf, if_true] at N3
        repeat' ( (fail_if_success (with_reducible show UnrEnd _ _ _ _ _ _ _)); (fail_if_success (with_reducible show KswEnd _ _ _ _ _ _ _ _ _ _ _ _)); first | (k_unfold; (try dsimp only)) | (k_end; wrow_close) | k_extra "own" | walk1 | (dsimp only; first | k_extra "own" | walk1) | (leave1; walk_say "STEP leave1"; try dsimp only) | fail "no step")
        refine' unr_end2 (⟨1, 0, _, _, _, _, _, _⟩ : WsS) ?zF30 ?zN30 ?zI30 ?zs30 ?zo30 ?zm30 ?zp30; (case zF30 => k_asm); (case zN30 => k_asm); (case zI30 => k_mem); (case zs30 => (dsimp only; exact (List.forall_mem_cons.mpr ⟨by k_mem, (List.forall_mem_cons.mpr ⟨by k_mem, (List.forall_mem_cons.mpr ⟨by k_mem, (List.forall_mem_nil _)⟩)⟩)⟩))); (case zm30 => kst_all); (case zo30 => (dsimp only; exact (List.forall_mem_cons.mpr ⟨by first | with_reducible assumption | exact Nat.ne_of_gt (by omega) | exact Nat.ne_of_lt (by omega), (List.forall_mem_cons.mpr ⟨by first | with_reducible assumption | exact Nat.ne_of_gt (by omega) | exact Nat.ne_of_lt (by omega), (List.forall_mem_cons.mpr ⟨by first | with_reducible assumption | exact Nat.ne_of_gt (by omega) | exact Nat.ne_of_lt (by omega), (List.forall_mem_nil _)⟩)⟩)⟩)))
        dsimp only
        by_cases h1 : 1 < t
        · exact .inl ⟨h1, rfl, by rw [show i = t - 1 from by omega]⟩
        · exact .inr ⟨by omega, Nat.zero_le _, by rw [show i = 0 from by omega]; rfl⟩
      · rw [show cntOf nt k4 = #[.int nt k4] from if_neg (by omega)] at N3
        repeat' ( (fail_if_success (with_reducible show UnrEnd _ _ _ _ _ _ _)); (fail_if_success (with_reducible show KswEnd _ _ _ _ _ _ _ _ _ _ _ _)); first | (k_unfold; (try dsimp only)) | (k_end; wrow_close) | k_extra "own" | walk1 | (dsimp only; first | k_extra "own" | walk1) | (leave1; walk_say "STEP leave1"; try dsimp only) | fail "no step")
        refine' unr_end2 (⟨nt + 1, 0, _, _, _, _, _, _⟩ : WsS) ?zF32 ?zN32 ?zI32 ?zs32 ?zo32 ?zm32 ?zp32; (case zF32 => k_asm); (case zN32 => k_asm); (case zI32 => k_mem); (case zs32 => (dsimp only; exact (List.forall_mem_cons.mpr ⟨by k_mem, (List.forall_mem_cons.mpr ⟨by k_mem, (List.forall_mem_cons.mpr ⟨by k_mem, (List.forall_mem_nil _)⟩)⟩)⟩))); (case zm32 => kst_all); (case zo32 => (dsimp only; exact (List.forall_mem_cons.mpr ⟨by first | with_reducible assumption | exact Nat.ne_of_gt (by omega) | exact Nat.ne_of_lt (by omega), (List.forall_mem_cons.mpr ⟨by first | with_reducible assumption | exact Nat.ne_of_gt (by omega) | exact Nat.ne_of_lt (by omega), (List.forall_mem_cons.mpr ⟨by first | with_reducible assumption | exact Nat.ne_of_gt (by omega) | exact Nat.ne_of_lt (by omega), (List.forall_mem_nil _)⟩)⟩)⟩)))
        dsimp only
        by_cases h1 : nt + 1 < t
        · exact .inl ⟨h1, rfl, by rw [show i = t - (nt + 1) from by omega]⟩
        · exact .inr ⟨by omega, Nat.zero_le _, by rw [show i = 0 from by omega]; rfl⟩
    · obtain ⟨i, hi⟩ : ∃ i, b - nb = i + 1 := by
        rcases Nat.eq_zero_or_pos (b - nb) with h0 | h0
        · rw [h0] at p3; cases p3
        · exact ⟨b - nb - 1, by omega⟩
      rw [hi, List.replicate_succ] at p3
      obtain ⟨rfl, rfl⟩ := List.cons.inj p3
      repeat' ( (fail_if_success (with_reducible show UnrEnd _ _ _ _ _ _ _)); (fail_if_success (with_reducible show KswEnd _ _ _ _ _ _ _ _ _ _ _ _)); first | (k_unfold; (try dsimp only)) | (k_end; wrow_close) | k_extra "own" | walk1 | (dsimp only; first | k_extra "own" | walk1) | (leave1; walk_say "STEP leave1"; try dsimp only) | fail "no step")
      refine' unr_end2 (⟨nt, nb + 1, _, _, _, _, _, _⟩ : WsS) ?zF34 ?zN34 ?zI34 ?zs34 ?zo34 ?zm34 ?zp34; (case zF34 => k_asm); (case zN34 => k_asm); (case zI34 => k_mem); (case zs34 => (dsimp only; exact (List.forall_mem_cons.mpr ⟨by k_mem, (List.forall_mem_cons.mpr ⟨by k_mem, (List.forall_mem_cons.mpr ⟨by k_mem, (List.forall_mem_nil _)⟩)⟩)⟩))); (case zm34 => kst_all); (case zo34 => (dsimp only; exact (List.forall_mem_cons.mpr ⟨by first | with_reducible assumption | exact Nat.ne_of_gt (by omega) | exact Nat.ne_of_lt (by omega), (List.forall_mem_cons.mpr ⟨by first | with_reducible assumption | exact Nat.ne_of_gt (by omega) | exact Nat.ne_of_lt (by omega), (List.forall_mem_cons.mpr ⟨by first | with_reducible assumption | exact Nat.ne_of_gt (by omega) | exact Nat.ne_of_lt (by omega), (List.forall_mem_nil _)⟩)⟩)⟩)))
      dsimp only
      exact .inr ⟨p1, by omega, by rw [show i = b - (nb + 1) from by omega]⟩
  case done =>
    intro z v h tk hp F3 N3
    obtain ⟨nt, nb, ca, e, k1, k2, k3, k4⟩ := z
    dsimp only [kstB] at hp F3 N3
    obtain ⟨h1, h2⟩ : nt = t ∧ nb = b := by
      rcases hp with ⟨p1, p2, p3⟩ | ⟨p1, p2, p3⟩
      · obtain ⟨i, hi⟩ : ∃ i, t - nt = i + 1 := ⟨t - nt - 1, by omega⟩
        rw [hi, List.replicate_succ] at p3
        cases p3
      · rcases Nat.eq_zero_or_pos (b - nb) with h0 | h0
        · exact ⟨p1, by omega⟩
        · obtain ⟨i, hi⟩ : ∃ i, b - nb = i + 1 := ⟨b - nb - 1, by omega⟩
          rw [hi, List.replicate_succ] at p3
          cases p3
    subst h1 h2
    clear hp
    have l1 : ca ≠ dx := news_ne N3 (by k_mem) (by k_mem) (by simp)
    rcases Nat.eq_zero_or_pos nt with h0 | h0
    · subst h0
      simp only [cntOf, if_true] at N3
      repeat' ((fail_if_success (with_reducible show wpAny _ _ (PySem.call (Value.ref _) _) _ _ _)); first | (k_unfold; (try dsimp only)) | (k_end; wrow_close) | k_extra "own" | walk1 | (dsimp only; first | k_extra "own" | walk1) | (leave1; walk_say "STEP leave1"; try dsimp only) | fail "no step")
      refine' ret_end (sub' := Lead.led w ⟨x, dx, _, _, 0, nb, _, _, _, _, _, _, _, _, _, _, _, 0⟩) (Q := fun r s' => R (.ok (.ret r)) s') hret N hkeep ?rF36 ?rN36 ?rG36 ?rM36 ?rin36 ?rsub36 ?rp36; (case rF36 => k_asm); (case rN36 => k_asm); (case rG36 => k_asm); (case rM36 => k_asm); (case rin36 => exact (List.forall_mem_cons.mpr ⟨by k_mem, (List.forall_mem_cons.mpr ⟨by k_mem, (List.forall_mem_cons.mpr ⟨by k_mem, (List.forall_mem_cons.mpr ⟨by k_mem, (List.forall_mem_nil _)⟩)⟩)⟩)⟩)); (case rsub36 => simp)
      exact ⟨rfl, _, rfl, rfl, rfl, rfl, rfl⟩
    · rw [show cntOf nt k4 = #[.int nt k4] from if_neg (by omega)] at N3
      repeat' ((fail_if_success (with_reducible show wpAny _ _ (PySem.call (Value.ref _) _) _ _ _)); first | (k_unfold; (try dsimp only)) | (k_end; wrow_close) | k_extra "own" | walk1 | (dsimp only; first | k_extra "own" | walk1) | (leave1; walk_say "STEP leave1"; try dsimp only) | fail "no step")
      have hc : cntOf nt k4 = #[.int nt k4] := if_neg (by omega)
      refine' ret_end (sub' := Lead.led w ⟨x, dx, _, _, nt, nb, _, _, _, _, _, _, _, _, _, _, _, k4⟩) (Q := fun r s' => R (.ok (.ret r)) s') hret N hkeep ?rF ?rN ?rG ?rM ?rin ?rsub ?rp
      case rF => k_asm
      case rN => k_asm
      case rG => k_asm
      case rM => k_asm
      case rin => (dsimp only [Lead.led]; rw [hc]; exact (List.forall_mem_cons.mpr ⟨by k_mem, (List.forall_mem_cons.mpr ⟨by k_mem, (List.forall_mem_cons.mpr ⟨by k_mem, (List.forall_mem_cons.mpr ⟨by k_mem, (List.forall_mem_nil _)⟩)⟩)⟩)⟩))
      case rsub => simp
      case rp => exact ⟨rfl, _, rfl, rfl, rfl, rfl, rfl⟩
end
theorem level_spec {w : World} {mean : ExcName → Option Value} {mg mb : Str → Option Value} {z : Lead} {size : Int} {ts : Tok} (h1 : 1 ≤ size) (h6 : size ≤ 6) :
  CodeSpec w mean mg mb 80 [.ref z.x, .int size ts] (z.led w) [] 4 60
    (fun r l => (∃ q, r = .int (z.b + size * z.t) q) ∧ l = []) := by
  obtain ⟨x, dx, nx, cx, t, b, raw, n, sm, q1, q2, q3, q4, q5, k1, k2, k3, k4⟩ := z
  dsimp only [Lead.led]
  rcases Nat.eq_zero_or_pos t with h0 | h0
  · subst h0
    simp only [cntOf, if_true]
    k_with_none
    unfold CodeSpec; k_fill; intro dp un gd cn cs a ccd cl outer A₀ base h₀ L m s R B F X N T hk hdp hu hret
    k_dflt (refine' spec_code ?k1 ?k2 ?k3 ?k4 ?k5 ?kA ?kF ?kK ?k6 ?k7 ?k8 ?k9 ?kB ?_ ?c2 ?c3 ?c4 ?c5; (case kA => exact rfl); (case kF => exact rfl); (case kK => assumption); (case k1 => k_asm); (case k2 => k_asm); (case k3 => k_asm); (case k4 => k_asm); (case k5 => k_asm); (case k6 => k_is); (case k7 => k_is); (case k8 => ktr_room); (case k9 => exact BindsTo.of_eq rfl); (case c5 => decide); (case kB => exact locs rfl); (case c2 => exact rfl); (case c3 => exact rfl); (case c4 => exact rfl); k_whole; intro g' L' h' FG' F' N' B' X' T' hkeep; (try dsimp only); (try k_lift B'); (try k_fold))
    repeat' ((fail_if_success (with_reducible show wpAny _ _ (PySem.call (Value.ref _) _) _ _ _)); (fail_if_success (with_reducible show wpAny _ _ (pyIter _) _ _ _)); first | (k_unfold; (try dsimp only)) | (k_end; wrow_close) | k_extra "own" | walk1 | (dsimp only; first | k_extra "own" | walk1) | (leave1; walk_say "STEP leave1"; try dsimp only) | fail "no step")
    rename IsRange _ _ _ _ _ _ _ _ => hR
    refine iter_rangeUnr (n := 0) (by rfl) hR (range_small (by omega) (by omega) (by decide) (by decide)) (range_size (.inr ⟨(show (0 : Int) ≤ size from by omega), rfl⟩)) (by k_asm) (by k_asm) (fun I hI => RangeRest.zero (fun h9 tk9 F9 N9 => ?_))
    dsimp only
    k_steps
    refine' ret_end (sub' := []) (Q := fun r s' => R (.ok (.ret r)) s') hret N hkeep ?rF42 ?rN42 ?rG42 ?rM42 ?rin42 ?rsub42 ?rp42; (case rF42 => k_asm); (case rN42 => k_asm); (case rG42 => k_asm); (case rM42 => k_asm); (case rin42 => exact (List.forall_mem_nil _)); (case rsub42 => simp)
    exact ⟨⟨_, by rw [Int.zero_add]⟩, rfl⟩
  · rw [show cntOf t k4 = #[.int t k4] from if_neg (by omega)]
    k_with_none
    unfold CodeSpec; k_fill; intro dp un gd cn cs a ccd cl outer A₀ base h₀ L m s R B F X N T hk hdp hu hret
    k_dflt (refine' spec_code ?k1 ?k2 ?k3 ?k4 ?k5 ?kA ?kF ?kK ?k6 ?k7 ?k8 ?k9 ?kB ?_ ?c2 ?c3 ?c4 ?c5; (case kA => exact rfl); (case kF => exact rfl); (case kK => assumption); (case k1 => k_asm); (case k2 => k_asm); (case k3 => k_asm); (case k4 => k_asm); (case k5 => k_asm); (case k6 => k_is); (case k7 => k_is); (case k8 => ktr_room); (case k9 => exact BindsTo.of_eq rfl); (case c5 => decide); (case kB => exact locs rfl); (case c2 => exact rfl); (case c3 => exact rfl); (case c4 => exact rfl); k_whole; intro g' L' h' FG' F' N' B' X' T' hkeep; (try dsimp only); (try k_lift B'); (try k_fold))
    repeat' ((fail_if_success (with_reducible show wpAny _ _ (PySem.call (Value.ref _) _) _ _ _)); (fail_if_success (with_reducible show wpAny _ _ (pyIter _) _ _ _)); first | (k_unfold; (try dsimp only)) | (k_end; wrow_close) | k_extra "own" | walk1 | (dsimp only; first | k_extra "own" | walk1) | (leave1; walk_say "STEP leave1"; try dsimp only) | fail "no step")
    rename IsRange _ _ _ _ _ _ _ _ => hR
    refine iter_rangeUnr (n := 0) (by rfl) hR (range_small (by omega) (by omega) (by decide) (by decide)) (range_size (.inr ⟨(show (1 : Int) ≤ size from h1), rfl⟩)) (by k_asm) (by k_asm) (fun I hI => RangeRest.zero (fun h9 tk9 F9 N9 => ?_))
    dsimp only
    k_steps
    refine' ret_end (sub' := []) (Q := fun r s' => R (.ok (.ret r)) s') hret N hkeep ?rF46 ?rN46 ?rG46 ?rM46 ?rin46 ?rsub46 ?rp46; (case rF46 => k_asm); (case rN46 => k_asm); (case rG46 => k_asm); (case rM46 => k_asm); (case rin46 => exact (List.forall_mem_nil _)); (case rsub46 => simp)
    exact ⟨⟨_, by rw [Int.zero_add]⟩, rfl⟩
section
theorem marks_spec {w : World} {mean : ExcName → Option Value} {mg mb : Str → Option Value} {z : Lead} :
  CodeSpec w mean mg mb 141 [.ref z.x] (z.led w) [] 6 80
    (fun r l => ∃ (a : Nat) (q1 q2 q3 : Tok), r = .ref a ∧ l = [(a, listOf #[.int (2 * (z.b + 1 * z.t)) q1, .int (z.b + 2 * z.t) q2, .int (3 * (z.b + 1 * z.t) - (z.b + 2 * z.t)) q3] 0)]) := by
  k_with_none
  k_with "own" => ((with_reducible show wpAny _ _ (PySem.call (Value.ref _) _) _ _ _); first | with_reducible ((k_here; k_dflt (refine' pure_use (level_spec (by first | decide | omega) (by first | decide | omega)) ?uB_w ?uF_w ?uX_w ?uN_w ?uT_w ?uk_w ?uin_w ?ud_w ?uu_w ?_; (case uB_w => k_asm); (case uF_w => k_asm); (case uX_w => k_asm); (case uN_w => k_asm); (case uT_w => k_asm); (case uk_w => first | exact rfl | assumption); (case uin_w => exact (List.forall_mem_cons.mpr ⟨by k_mem, (List.forall_mem_cons.mpr ⟨by k_mem, (List.forall_mem_cons.mpr ⟨by k_mem, (List.forall_mem_cons.mpr ⟨by k_mem, (List.forall_mem_nil _)⟩)⟩)⟩)⟩)); (case ud_w => ktr_room); (case uu_w => ktr_units); k_whole); intro r9 h9 tk9 F9 N9 P9; obtain ⟨q9, e9⟩ := P9; subst e9; (try dsimp only); (try k_fold))) | ((k_here; k_dflt (refine' pure_use (level_spec (by first | decide | omega) (by first | decide | omega)) ?uB_w ?uF_w ?uX_w ?uN_w ?uT_w ?uk_w ?uin_w ?ud_w ?uu_w ?_; (case uB_w => k_asm); (case uF_w => k_asm); (case uX_w => k_asm); (case uN_w => k_asm); (case uT_w => k_asm); (case uk_w => first | exact rfl | assumption); (case uin_w => exact (List.forall_mem_cons.mpr ⟨by k_mem, (List.forall_mem_cons.mpr ⟨by k_mem, (List.forall_mem_cons.mpr ⟨by k_mem, (List.forall_mem_cons.mpr ⟨by k_mem, (List.forall_mem_nil _)⟩)⟩)⟩)⟩)); (case ud_w => ktr_room); (case uu_w => ktr_units); k_whole); intro r9 h9 tk9 F9 N9 P9; obtain ⟨q9, e9⟩ := P9; subst e9; (try dsimp only); (try k_fold))); walk_say "OWN call ref")
  unfold CodeSpec; k_fill; intro dp un gd cn cs a ccd cl outer A₀ base h₀ L m s R B F X N T hk hdp hu hret
  k_dflt (refine' spec_code ?k1 ?k2 ?k3 ?k4 ?k5 ?kA ?kF ?kK ?k6 ?k7 ?k8 ?k9 ?kB ?_ ?c2 ?c3 ?c4 ?c5; (case kA => exact rfl); (case kF => exact rfl); (case kK => assumption); (case k1 => k_asm); (case k2 => k_asm); (case k3 => k_asm); (case k4 => k_asm); (case k5 => k_asm); (case k6 => k_is); (case k7 => k_is); (case k8 => ktr_room); (case k9 => exact BindsTo.of_eq rfl); (case c5 => decide); (case kB => exact locs rfl); (case c2 => exact rfl); (case c3 => exact rfl); (case c4 => exact rfl); k_whole; intro g' L' h' FG' F' N' B' X' T' hkeep; (try dsimp only); (try k_lift B'); (try k_fold))
  repeat' ( first | (k_unfold; (try dsimp only)) | (k_end; wrow_close) | k_extra "own" | walk1 | (dsimp only; first | k_extra "own" | walk1) | (leave1; walk_say "STEP leave1"; try dsimp only) | fail "no step")
  refine' ret_end (Q := fun r s' => R (.ok (.ret r)) s') (sub' := [(_, listOf #[.int _ _, .int _ _, .int _ _] 0)]) hret N hkeep ?rF50 ?rN50 ?rG50 ?rM50 ?rin50 ?rsub50 ?rp50; (case rF50 => k_asm); (case rN50 => k_asm); (case rG50 => k_asm); (case rM50 => k_asm); (case rin50 => exact (List.forall_mem_cons.mpr ⟨by k_mem, (List.forall_mem_nil _)⟩)); (case rsub50 => simp)
  exact ⟨_, _, _, _, rfl, rfl⟩
end
section
variable {w : World} {A : Around} {E : Value → Shared → Prop} {s : Shared} {h₀ : Heap} {L : Addr} {m : Str → Option Value} {news : Led}
theorem lead_method {z : Lead} {pl : Sem Bool} {Q : Value × List Value → Shared → Prop} (F : Fr h₀ L s.heap m) (X₀ : (hd.heap_1 w.params).In h₀) (N : News h₀ L s.heap news) (hz : ∀ p ∈ z.led w, p ∈ news)
    (hg : plainGet (hd.heap_1 w.params) 111 (Str.ofString "indent_level") = true) (hf : findIn (hd.heap_1 w.params) (.ref 111) (Str.ofString "indent_level") = some (some (.ref 80))) (ht : isFn (hd.heap_1 w.params) (.ref 80) = true)
    (hl : getL (Str.ofString "indent_level") [⟨PyData.keyHash w.params (Str.ofString "raw"), .str (Str.ofString "raw") z.q1, z.raw⟩, ⟨PyData.keyHash w.params (Str.ofString "n"), .str (Str.ofString "n") z.q2, .int z.n z.k1⟩,
    ⟨PyData.keyHash w.params (Str.ofString "nt"), .str (Str.ofString "nt") z.q3, .int z.t z.k2⟩, ⟨PyData.keyHash w.params (Str.ofString "norm"), .str (Str.ofString "norm") z.q4, .ref z.nx⟩,
    ⟨PyData.keyHash w.params (Str.ofString "is_simple"), .str (Str.ofString "is_simple") z.q5, .bool z.sm⟩] = some none)
    (h : Q (.ref 80, [.ref z.x]) s) : wpAny (model PySem.Challenge.rw_qj0008_01.row.prog w) A (getMethod (.ref z.x) (Str.ofString "indent_level") pl) Q E s :=
  method_inst (n := 5) F X₀ (InstAt.of_news N (hz (z.x, instObj 111 z.dx) (by k_mem)) (hz (z.dx, _) (by k_mem))) hg hf ht hl h
theorem off_list {rest : Led} {d : Nat} {its : Array Value} {n : Nat} {h : Heap} (N : News h₀ L h news) (hm : (d, listOf its n) ∈ news) (hr : ∀ p ∈ rest, p ∈ news) (hc : ∀ p ∈ rest, p.2.cls ≠ .type "list") : ∀ p ∈ rest, p.1 ≠ d :=
  fun p hp => news_ne N (hr p hp) hm (hc p hp)
end
theorem in_tail {l r : Led} {a : Addr × Obj} (h : ∀ p ∈ l, p ∈ r) : ∀ p ∈ l, p ∈ a :: r := fun p hp => .tail _ (h p hp)
theorem in_self {l : Led} : ∀ p ∈ l, p ∈ l := fun _ h => h
theorem not_in1 {a b : Nat} (h : a ≠ b) : a ∉ [b] := by simpa using h
theorem unr_cls {h₀ : Heap} {L I : Addr} {it : Obj} {rest : (Str → Option Value) → Led → Prop} {s₁ : Shared} {h' : Heap} {tk : Nat} {m' : Str → Option Value} {all : Led} (F : Fr h₀ L h' m') (N : News h₀ L h' all) (news' : Led)
    (hI : (I, it) ∈ all) (sub : ∀ p ∈ news', p ∈ all) (off : ∀ p ∈ news', p.2.cls ≠ it.cls) (r : rest m' news') : UnrEnd h₀ L s₁ I it rest { s₁ with heap := h', toks := tk } :=
  UnrEnd.intro F N news' (fun p hp => by
    rcases List.mem_cons.mp hp with rfl | hp
    · exact hI
    · exact sub p hp) (fun p hp => news_ne N (sub p hp) hI (off p hp)) r
/-- addresses that are not d (kept from omega's sight) -/
structure Offs (d : Nat) (l : List Nat) : Prop where
  all : ∀ a ∈ l, a ≠ d
theorem Offs.at {d a : Nat} {l : List Nat} (h : Offs d l) (ha : a ∈ l) : a ≠ d := h.all a ha
theorem unr_end4 {h₀ : Heap} {σ : Type} {Ld : σ → Led} {ps : σ → List (Str × Value)} {P : σ → Prop} {L I : Addr} {it : Obj} {s₁ : Shared} {h' : Heap} {tk : Nat} {m' : Str → Option Value} {all : Led} (c : σ) (F : Fr h₀ L h' m') (N : News h₀ L h' all)
    (hI : (I, it) ∈ all) (sub : ∀ p ∈ Ld c, p ∈ all) (off : ∀ p ∈ Ld c, p.2.cls ≠ it.cls) (hm : ∀ p ∈ ps c, m' p.1 = some p.2) (hp : P c) : UnrEnd h₀ L s₁ I it (fun m n => (∀ p ∈ n, p.1 ≠ I) ∧ LoopS Ld ps P m n) { s₁ with heap := h', toks := tk } :=
  unr_end2 c F N hI sub (fun p hp => news_ne N (sub p hp) hI (off p hp)) hm hp
theorem lexLe_up {c c' k : Int} (h : c ≤ c') : lexLe c k c' k := (Int.lt_or_eq_of_le h).elim .inl fun e => .inr ⟨e, Int.le_refl _⟩
/-- the items of the heap, under what columns they may lie -/
structure InvL (col : Int → Int) (l : List It) : Prop where
  len : l.length = 5
  heap : HeapL l
  under : ∀ x ∈ l, 0 ≤ x.k ∧ x.k < 5 ∧ x.c ≤ col x.k
  keys : ∀ f : Int → Int, sumL (fun _ k => f k) l = f 0 + f 1 + f 2 + f 3 + f 4
noncomputable def slackL (col : Int → Int) (l : List It) : Nat := (sumL (fun c k => col k - c) l).toNat
theorem sumL_zero {f : Int → Int → Int} : ∀ {l : List It}, (∀ x ∈ l, f x.c x.k = 0) → sumL f l = 0
  | [], _ => rfl
  | x :: l, h => by
    show f x.c x.k + sumL f l = 0
    rw [h x (.head _), sumL_zero fun y hy => h y (.tail _ hy)]; rfl
theorem sumL_nonneg {f : Int → Int → Int} : ∀ {l : List It}, (∀ x ∈ l, 0 ≤ f x.c x.k) → 0 ≤ sumL f l
  | [], _ => Int.le_refl _
  | x :: l, h => Int.add_nonneg (h x (.head _)) (sumL_nonneg fun y hy => h y (.tail _ hy))
theorem five_is {α : Type} : ∀ (l : List α), l.length = 5 → ∃ a b c d e, l = [a, b, c, d, e]
  | [a, b, c, d, e], _ => ⟨a, b, c, d, e, rfl⟩
theorem InvL.top {col : Int → Int} {l : List It} (I : InvL col l) : ∃ x, l[0]? = some x := ⟨_, List.getElem?_eq_getElem (by rw [I.len]; decide)⟩
theorem InvL.least {col : Int → Int} {l : List It} {x : It} (I : InvL col l) (hx : l[0]? = some x) {j : Int} (h0 : 0 ≤ j) (h5 : j < 5) : lexLe x.c x.k (col j) j := by
  have hs : ∃ y ∈ l, y.k = j := by
    refine Classical.byContradiction fun h => ?_
    have e := I.keys fun k => if k = j then 1 else 0
    rw [sumL_zero fun y hy => if_neg fun q => h ⟨y, hy, q⟩] at e
    have hj : (if (0 : Int) = j then (1 : Int) else 0) + (if 1 = j then 1 else 0) + (if 2 = j then 1 else 0) + (if 3 = j then 1 else 0) + (if 4 = j then 1 else 0) = 1 := by
      rcases (by omega : j = 0 ∨ j = 1 ∨ j = 2 ∨ j = 3 ∨ j = 4) with rfl | rfl | rfl | rfl | rfl <;> rfl
    exact absurd (e.trans hj) (by decide)
  obtain ⟨y, hy, rfl⟩ := hs
  have hu := lexLe_up (k := y.k) (I.under y hy).2.2
  have H := I.heap
  obtain ⟨x0, x1, x2, x3, x4, rfl⟩ := five_is l I.len
  obtain rfl : x0 = x := Option.some.inj hx
  obtain ⟨a, b, c, d⟩ := H
  simp only [List.mem_cons, List.not_mem_nil, or_false] at hy
  rcases hy with rfl | rfl | rfl | rfl | rfl
  · exact hu
  · exact lexLe_trans a hu
  · exact lexLe_trans b hu
  · exact lexLe_trans (lexLe_trans a c) hu
  · exact lexLe_trans (lexLe_trans a d) hu
theorem InvL.replace {col : Int → Int} {l : List It} {x y : It} (I : InvL col l) (hx : l[0]? = some x) (hc : y.c = col x.k) (hk : y.k = x.k) : InvL col (supF (l.set 0 y) y) := by
  have hin := I.under x (List.mem_of_getElem? hx)
  have hy : 0 ≤ y.k ∧ y.k < 5 ∧ y.c ≤ col y.k := by rw [hk, hc]; exact ⟨hin.1, hin.2.1, Int.le_refl _⟩
  refine ⟨by rw [supF_len, List.length_set]; exact I.len, ?_, fun z hz => ?_, fun f => ?_⟩
  · have H := I.heap
    obtain ⟨x0, x1, x2, x3, x4, rfl⟩ := five_is l I.len
    exact replace_heap H
  · rcases supF_mem hz with q | rfl
    · rcases List.mem_or_eq_of_mem_set q with q | rfl
      · exact I.under z q
      · exact hy
    · exact hy
  · rw [supF_sum (by rw [List.length_set, I.len]; decide), List.set_set, sumL_set hx, I.keys, hk]
    omega
theorem InvL.less {col : Int → Int} {l : List It} {x y : It} (I : InvL col l) (hx : l[0]? = some x) (hc : y.c = col x.k) (hk : y.k = x.k) (hlt : x.c < col x.k) : slackL col (supF (l.set 0 y) y) < slackL col l := by
  have J := I.replace hx hc hk
  have e : sumL (fun c k => col k - c) (supF (l.set 0 y) y) = sumL (fun c k => col k - c) l - (col x.k - x.c) + (col y.k - y.c) := by
    rw [supF_sum (by rw [List.length_set, I.len]; decide), List.set_set, sumL_set hx]
  have h0 : 0 ≤ sumL (fun c k => col k - c) (supF (l.set 0 y) y) := sumL_nonneg fun z hz => Int.sub_nonneg_of_le (J.under z hz).2.2
  rw [hk, hc] at e
  clear J I hx hc hk
  unfold slackL
  omega
theorem InvL.next {col col' : Int → Int} {l : List It} (I : InvL col l) (h : ∀ k, col k ≤ col' k) : InvL col' l :=
  ⟨I.len, I.heap, fun x hx => ⟨(I.under x hx).1, (I.under x hx).2.1, Int.le_trans (I.under x hx).2.2 (h _)⟩, I.keys⟩
noncomputable def upto (f : Int → Int) : Nat → Int
  | 0 => 0
  | n + 1 => upto f n + f (n : Int)
/-- the heap while it grows -/
structure PushL (col : Int → Int) (i : Nat) (l : List It) : Prop where
  len : l.length = i
  heap : HeapL l
  under : ∀ x ∈ l, 0 ≤ x.k ∧ x.k < 5 ∧ x.c ≤ col x.k
  keys : ∀ f : Int → Int, sumL (fun _ k => f k) l = upto f i
theorem PushL.zero {col : Int → Int} : PushL col 0 [] := ⟨rfl, trivial, fun _ h => (nomatch h), fun _ => rfl⟩
theorem PushL.next {col : Int → Int} {i : Nat} {l : List It} {x : It} (P : PushL col i l) (hi : i < 5) (hc : x.c = col x.k) (hk : x.k = (i : Int)) : PushL col (i + 1) (sdn l.length (l ++ [x]) l.length x) := by
  have hx : 0 ≤ x.k ∧ x.k < 5 ∧ x.c ≤ col x.k := ⟨by rw [hk]; exact Int.natCast_nonneg _, by rw [hk]; exact Int.ofNat_lt.mpr hi, Int.le_of_eq hc⟩
  refine ⟨by rw [sdn_len, List.length_append, P.len]; rfl, push_heap l (P.len ▸ hi) P.heap, fun z hz => ?_, fun f => ?_⟩
  · rcases sdn_mem _ _ _ _ hz with q | rfl
    · rcases List.mem_append.mp q with q | q
      · exact P.under z q
      · rw [List.mem_singleton.mp q]; exact hx
    · exact hx
  · rw [sdn_sum _ _ _ (by rw [List.length_append]; exact Nat.lt_succ_self _), show (l ++ [x]).set l.length x = l ++ [x] from by simp, sumL_snoc, P.keys, hk]
    rfl
theorem PushL.all {col : Int → Int} {l : List It} (P : PushL col 5 l) : InvL col l :=
  ⟨P.len, P.heap, P.under, fun f => (P.keys f).trans (by show 0 + f 0 + f 1 + f 2 + f 3 + f 4 = _; rw [Int.zero_add])⟩
/-- one of five by a number -/
def pick {α : Type} (z0 z1 z2 z3 z4 : α) (k : Int) : α := if k = 0 then z0 else if k = 1 then z1 else if k = 2 then z2 else if k = 3 then z3 else z4
theorem pick_all {α : Type} {z0 z1 z2 z3 z4 : α} {p : α → Prop} (h0 : p z0) (h1 : p z1) (h2 : p z2) (h3 : p z3) (h4 : p z4) (k : Int) : p (pick z0 z1 z2 z3 z4 k) := by
  unfold pick
  repeat' split
  all_goals assumption
def colZ (z0 z1 z2 z3 z4 : Lead) (s k : Int) : Int := ((pick z0 z1 z2 z3 z4 k).b : Int) + s * ((pick z0 z1 z2 z3 z4 k).t : Int)
theorem colZ_le {z0 z1 z2 z3 z4 : Lead} {s s' : Int} (h : s ≤ s') (k : Int) : colZ z0 z1 z2 z3 z4 s k ≤ colZ z0 z1 z2 z3 z4 s' k := by
  unfold colZ
  have := Int.mul_le_mul_of_nonneg_right h (Int.natCast_nonneg (pick z0 z1 z2 z3 z4 k).t)
  omega
theorem sub_pick {prog : Program} {w : World} {A : Around} {E : Value → Shared → Prop} {s : Shared} {Q : Value → Shared → Prop} {value slice : PySem.Expr} {h₀ : Heap} {L D : Addr} {news : Led} {z0 z1 z2 z3 z4 : Lead} {n : Nat} {k : Int} {u : Tok}
    (N : News h₀ L s.heap news) (hm : (D, listOf #[.ref z0.x, .ref z1.x, .ref z2.x, .ref z3.x, .ref z4.x] n) ∈ news) (h0 : 0 ≤ k) (h5 : k < 5) (h : Q (.ref (pick z0 z1 z2 z3 z4 k).x) s)
    (hs : subscripted slice false (.ref D) (.int k u) = operate [.ref D, .int k u] (getItem (.ref D) (.int k u)) := by with_unfolding_all rfl) :
    wpAny (model prog w) A (subscriptTail value slice (.ref D) (.int k u)) Q E s := by
  refine sub_news N hm h0 (Int.lt_trans h5 (by decide)) ?_ h hs
  rcases (by omega : k = 0 ∨ k = 1 ∨ k = 2 ∨ k = 3 ∨ k = 4) with rfl | rfl | rfl | rfl | rfl <;> rfl
/-- what the ledger's tail holds -/
structure EsOk (rest : Led) (rd l : List It) (es : Led) : Prop where
  rest : ∀ p ∈ rest, p ∈ es
  rd : ∀ r ∈ rd, r.ent ∈ es
  it : ∀ y ∈ l, y.ent ∈ es
  nl : ∀ p ∈ es, p.2.cls ≠ .type "list"
  ni : ∀ p ∈ es, p.2.cls ≠ .type "range_iterator"
theorem EsOk.more {rest es : Led} {rd l : List It} (x : It) (E : EsOk rest rd l es) : EsOk rest rd l (x.ent :: es) :=
  ⟨fun p h => .tail _ (E.rest p h), fun p h => .tail _ (E.rd p h), fun p h => .tail _ (E.it p h), List.forall_mem_cons.mpr ⟨by simp, E.nl⟩, List.forall_mem_cons.mpr ⟨by simp, E.ni⟩⟩
theorem EsOk.items {rest es : Led} {rd l l' : List It} (E : EsOk rest rd l es) (h : ∀ y ∈ l', y.ent ∈ es) : EsOk rest rd l' es := ⟨E.rest, E.rd, h, E.nl, E.ni⟩
theorem EsOk.on {rest es : Led} {rd l : List It} {x : It} (E : EsOk rest rd l es) : EsOk rest (rd ++ [x]) l (x.ent :: es) :=
  ⟨fun p h => .tail _ (E.rest p h), fun p h => (List.mem_append.mp h).elim (fun q => .tail _ (E.rd p q)) (fun q => List.mem_singleton.mp q ▸ .head _), fun p h => .tail _ (E.it p h), List.forall_mem_cons.mpr ⟨by simp, E.nl⟩, List.forall_mem_cons.mpr ⟨by simp, E.ni⟩⟩
theorem news_more {h₀ h : Heap} {L : Addr} {l : Led} {p : Addr × Obj} (N : News h₀ L h l) (hp : p ∈ l) : News h₀ L h (p :: l) := fun q hq => (List.mem_cons.mp hq).elim (fun e => e ▸ N p hp) (N q)
theorem push_itA {l : List It} {x : It} : (refsI l).toArray.push (.ref x.a) = (refsI (l ++ [x])).toArray := by simp
structure PshS where
  l : List It
  en : Nat
  es : Led
structure RdS where
  l : List It
  rd : List It
  en : Nat
  es : Led
structure WhS where
  l : List It
  x : It
  es : Led
  tp : Tok
/-- the least of the five leads at a size: the first of the least -/
def IsLeast (col : Int → Int) (c k : Int) : Prop := 0 ≤ k ∧ k < 5 ∧ c = col k ∧ ∀ j, 0 ≤ j → j < 5 → lexLe c k (col j) j
theorem six {α : Type} : ∀ (l : List α), l.length = 6 → ∃ a b c d e f, l = [a, b, c, d, e, f]
  | [a, b, c, d, e, f], _ => ⟨a, b, c, d, e, f, rfl⟩
theorem tail6 {rr led : Led} (h : ∀ p ∈ rr, p ∈ led) {a b c d e f : Addr × Obj} (ha : a ∈ rr) (hb : b ∈ rr) (hc : c ∈ rr) (hd : d ∈ rr) (he : e ∈ rr) (hf : f ∈ rr) : ∀ p ∈ [a, b, c, d, e, f], p ∈ led :=
  List.forall_mem_cons.mpr ⟨h _ ha, List.forall_mem_cons.mpr ⟨h _ hb, List.forall_mem_cons.mpr ⟨h _ hc, List.forall_mem_cons.mpr ⟨h _ hd, List.forall_mem_cons.mpr ⟨h _ he, List.forall_mem_cons.mpr ⟨h _ hf, List.forall_mem_nil _⟩⟩⟩⟩⟩⟩
theorem sub_on {rest rr led : Led} {x : Addr × Obj} (hx : x ∈ led) (h : ∀ p ∈ rr, p ∈ led) (hr : ∀ p ∈ rest, p ∈ rr) : ∀ p ∈ x :: rest, p.1 ∈ ([] : List Nat) ∨ p ∈ led :=
  List.forall_mem_cons.mpr ⟨.inr hx, fun p hp => .inr (h p (hr p hp))⟩
section
local macro_rules | `(tactic| k_ne) => `(tactic| (refine neN ?_; (try dsimp only); first | (refine Offs.at (by with_reducible assumption) ?_; (simp; done)) | (refine Ne.symm (Offs.at (by with_reducible assumption) ?_); (simp; done)) | exact Nat.ne_of_gt (by omega) | exact Nat.ne_of_lt (by omega)))
local macro_rules | `(tactic| k_all) => `(tactic| exact off_list (by k_asm) (by k_mem) (by (repeat' (first | with_reducible assumption | exact in_self | refine in_tail ?_))) (by with_reducible assumption))
theorem road_spec {w : World} {mean : ExcName → Option Value} {mg mb : Str → Option Value} {z0 z1 z2 z3 z4 : Lead} {ld e : Nat} {rest : Led} (hc : ∀ p ∈ rest, p.2.cls ≠ .type "list") (hr : ∀ p ∈ rest, p.2.cls ≠ .type "range_iterator")
  (lz0 : ∀ p ∈ z0.led w, p ∈ rest) (lz1 : ∀ p ∈ z1.led w, p ∈ rest) (lz2 : ∀ p ∈ z2.led w, p ∈ rest) (lz3 : ∀ p ∈ z3.led w, p ∈ rest) (lz4 : ∀ p ∈ z4.led w, p ∈ rest) :
  CodeSpec w mean mg mb 153 [.ref ld] ((ld, listOf #[.ref z0.x, .ref z1.x, .ref z2.x, .ref z3.x, .ref z4.x] e) :: rest) [] 10 120
   (fun r l => ∃ (ra en : Nat) (r0 r1 r2 r3 r4 r5 : It), r = .ref ra ∧ l = [(ra, listOf #[.ref r0.a, .ref r1.a, .ref r2.a, .ref r3.a, .ref r4.a, .ref r5.a] en), r0.ent, r1.ent, r2.ent, r3.ent, r4.ent, r5.ent] ∧
     IsLeast (colZ z0 z1 z2 z3 z4 1) r0.c r0.k ∧ IsLeast (colZ z0 z1 z2 z3 z4 2) r1.c r1.k ∧ IsLeast (colZ z0 z1 z2 z3 z4 3) r2.c r2.k ∧ IsLeast (colZ z0 z1 z2 z3 z4 4) r3.c r3.k ∧ IsLeast (colZ z0 z1 z2 z3 z4 5) r4.c r4.k ∧ IsLeast (colZ z0 z1 z2 z3 z4 6) r5.c r5.k) := by
  k_with_none
  k_with "own" => ((with_reducible show wpAny _ _ (execs _ _) _ _ _); first | with_reducible ((k_here; first | k_gentoks | ((with_reducible refine wpAny_execs_cons ?_); try dsimp only))) | ((k_here; first | k_gentoks | ((with_reducible refine wpAny_execs_cons ?_); try dsimp only))); walk_say "OWN execs cons Assign cons")
  k_with "own" => ((with_reducible show wpAny _ _ (getMethod (Value.ref _) _ _) _ _ _); first | with_reducible ((k_here; k_dflt (refine' lead_method ?uF_w ?uX_w ?uN_w ?uz_w ?ug_w ?uf_w ?ut_w ?ul_w ?_; (case uF_w => k_asm); (case uX_w => k_asm); (case uN_w => k_asm); (case uz_w => (repeat' (first | with_reducible assumption | exact in_self | refine in_tail ?_))); (case ug_w => k_is); (case uf_w => k_is); (case ut_w => k_is); (case ul_w => k_get); k_whole))) | ((k_here; k_dflt (refine' lead_method ?uF_w ?uX_w ?uN_w ?uz_w ?ug_w ?uf_w ?ut_w ?ul_w ?_; (case uF_w => k_asm); (case uX_w => k_asm); (case uN_w => k_asm); (case uz_w => (repeat' (first | with_reducible assumption | exact in_self | refine in_tail ?_))); (case ug_w => k_is); (case uf_w => k_is); (case ut_w => k_is); (case ul_w => k_get); k_whole))); walk_say "OWN getMethod ref")
  k_with "own" => ((with_reducible show wpAny _ _ (PySem.call (Value.ref _) _) _ _ _); first | with_reducible ((k_here; k_dflt (refine' pure_use (level_spec (by first | decide | omega) (by first | decide | omega)) ?uB_w ?uF_w ?uX_w ?uN_w ?uT_w ?uk_w ?uin_w ?ud_w ?uu_w ?_; (case uB_w => k_asm); (case uF_w => k_asm); (case uX_w => k_asm); (case uN_w => k_asm); (case uT_w => k_asm); (case uk_w => first | exact rfl | assumption); (case uin_w => (repeat' (first | with_reducible assumption | exact in_self | refine in_tail ?_))); (case ud_w => ktr_room); (case uu_w => ktr_units); k_whole); intro r9 h9 tk9 F9 N9 P9; obtain ⟨q9, e9⟩ := P9; subst e9; (try dsimp only); (try k_fold))) | ((k_here; k_dflt (refine' pure_use (level_spec (by first | decide | omega) (by first | decide | omega)) ?uB_w ?uF_w ?uX_w ?uN_w ?uT_w ?uk_w ?uin_w ?ud_w ?uu_w ?_; (case uB_w => k_asm); (case uF_w => k_asm); (case uX_w => k_asm); (case uN_w => k_asm); (case uT_w => k_asm); (case uk_w => first | exact rfl | assumption); (case uin_w => (repeat' (first | with_reducible assumption | exact in_self | refine in_tail ?_))); (case ud_w => ktr_room); (case uu_w => ktr_units); k_whole); intro r9 h9 tk9 F9 N9 P9; obtain ⟨q9, e9⟩ := P9; subst e9; (try dsimp only); (try k_fold))); walk_say "OWN call ref")
  k_with "own" => ((with_reducible show wpAny _ _ (subscriptTail (Expr.Name _ _) (Expr.Name _ _) (Value.ref _) (Value.int _ _)) _ _ _); first | with_reducible ((k_here; k_dflt (refine' sub_pick ?N_w ?m_w ?a_w ?b_w ?_ ?s_w; (case N_w => k_asm); (case m_w => k_mem); (case a_w => first | with_reducible assumption | omega); (case b_w => first | with_reducible assumption | omega); (case s_w => with_unfolding_all rfl); k_whole))) | ((k_here; k_dflt (refine' sub_pick ?N_w ?m_w ?a_w ?b_w ?_ ?s_w; (case N_w => k_asm); (case m_w => k_mem); (case a_w => first | with_reducible assumption | omega); (case b_w => first | with_reducible assumption | omega); (case s_w => with_unfolding_all rfl); k_whole))); walk_say "OWN subscriptTail Name Name ref int")
  k_with "own" => ((with_reducible show wpAny _ _ (subscriptTail (Expr.Name _ _) (Expr.Name _ _) (Value.ref _) (Value.int _ _)) _ _ _); first | with_reducible ((k_here; k_dflt (refine' sub_news ?N_w ?m_w ?a_w ?b_w ?x_w ?_ ?s_w; (case N_w => k_asm); (case m_w => k_mem); (case a_w => decide); (case b_w => decide); (case x_w => rfl); (case s_w => with_unfolding_all rfl); k_whole))) | ((k_here; k_dflt (refine' sub_news ?N_w ?m_w ?a_w ?b_w ?x_w ?_ ?s_w; (case N_w => k_asm); (case m_w => k_mem); (case a_w => decide); (case b_w => decide); (case x_w => rfl); (case s_w => with_unfolding_all rfl); k_whole))); walk_say "OWN subscriptTail Name Name ref int")
  k_with "own" => ((with_reducible show wpAny _ _ (subscriptTail (Expr.Name _ _) (Expr.Constant _ _ _) (Value.ref _) (Value.int _ _)) _ _ _); first | with_reducible ((k_here; k_dflt (refine' sub_news ?N_w ?m_w ?a_w ?b_w ?x_w ?_ ?s_w; (case N_w => k_asm); (case m_w => k_mem); (case a_w => decide); (case b_w => decide); (case x_w => rfl); (case s_w => with_unfolding_all rfl); k_whole))) | ((k_here; k_dflt (refine' sub_news ?N_w ?m_w ?a_w ?b_w ?x_w ?_ ?s_w; (case N_w => k_asm); (case m_w => k_mem); (case a_w => decide); (case b_w => decide); (case x_w => rfl); (case s_w => with_unfolding_all rfl); k_whole))); walk_say "OWN subscriptTail Name Constant ref int")
  k_with "own" => ((with_reducible show wpAny _ _ (subscriptTail (Expr.Name _ _) (Expr.Name _ _) (Value.ref _) (Value.int _ _)) _ _ _); first | with_reducible ((k_here; k_dflt (refine' sub_it ?N_w ?m_w ?i_w ?f_w ?x_w ?_ ?s_w; (case N_w => k_asm); (case m_w => k_mem); (case i_w => first | with_reducible rfl | with_reducible assumption); (case x_w => with_reducible assumption); (case f_w => with_reducible assumption); (case s_w => with_unfolding_all rfl); k_whole))) | ((k_here; k_dflt (refine' sub_it ?N_w ?m_w ?i_w ?f_w ?x_w ?_ ?s_w; (case N_w => k_asm); (case m_w => k_mem); (case i_w => first | with_reducible rfl | with_reducible assumption); (case x_w => with_reducible assumption); (case f_w => with_reducible assumption); (case s_w => with_unfolding_all rfl); k_whole))); walk_say "OWN subscriptTail Name Name ref int")
  k_with "own" => ((with_reducible show wpAny _ _ (subscriptTail (Expr.Name _ _) (Expr.Constant _ _ _) (Value.ref _) (Value.int _ _)) _ _ _); first | with_reducible ((k_here; k_dflt (refine' sub_it ?N_w ?m_w ?i_w ?f_w ?x_w ?_ ?s_w; (case N_w => k_asm); (case m_w => k_mem); (case i_w => first | with_reducible rfl | with_reducible assumption); (case x_w => with_reducible assumption); (case f_w => with_reducible assumption); (case s_w => with_unfolding_all rfl); k_whole))) | ((k_here; k_dflt (refine' sub_it ?N_w ?m_w ?i_w ?f_w ?x_w ?_ ?s_w; (case N_w => k_asm); (case m_w => k_mem); (case i_w => first | with_reducible rfl | with_reducible assumption); (case x_w => with_reducible assumption); (case f_w => with_reducible assumption); (case s_w => with_unfolding_all rfl); k_whole))); walk_say "OWN subscriptTail Name Constant ref int")
  k_with "own" => ((with_reducible show wpAny _ _ (compareOp CmpOp.NotEq (Value.ref _) (Value.ref _)) _ _ _); first | with_reducible ((k_here; k_dflt (refine ne_tup2_same (News.get (by k_asm) (by k_mem)) (News.get (by k_asm) (by k_mem)) (by first | k_units | ktr_units) ?_))) | ((k_here; k_dflt (refine ne_tup2_same (News.get (by k_asm) (by k_mem)) (News.get (by k_asm) (by k_mem)) (by first | k_units | ktr_units) ?_))); walk_say "OWN compareOp NotEq ref ref")
  unfold CodeSpec; k_fill; intro dp un gd cn cs a ccd cl outer A₀ base h₀ L m s R B F X N T hk hdp hu hret
  k_dflt (refine' spec_code ?k1 ?k2 ?k3 ?k4 ?k5 ?kA ?kF ?kK ?k6 ?k7 ?k8 ?k9 ?kB ?_ ?c2 ?c3 ?c4 ?c5; (case kA => exact rfl); (case kF => exact rfl); (case kK => assumption); (case k1 => k_asm); (case k2 => k_asm); (case k3 => k_asm); (case k4 => k_asm); (case k5 => k_asm); (case k6 => k_is); (case k7 => k_is); (case k8 => ktr_room); (case k9 => exact BindsTo.of_eq rfl); (case c5 => decide); (case kB => exact locs rfl); (case c2 => exact rfl); (case c3 => exact rfl); (case c4 => exact rfl); k_whole; intro g' L' h' FG' F' N' B' X' T' hkeep; (try dsimp only); (try k_lift B'); (try k_fold))
  have lzk : ∀ (k : Int), ∀ p ∈ (pick z0 z1 z2 z3 z4 k).led w, p ∈ rest := pick_all (p := fun z : Lead => ∀ p ∈ z.led w, p ∈ rest) lz0 lz1 lz2 lz3 lz4
  clear lz0 lz1 lz2 lz3 lz4
  repeat' ((fail_if_success (with_reducible show wpAny _ _ (pyIter _) _ _ _)); first | (k_unfold; (try dsimp only)) | (k_end; wrow_close) | k_extra "own" | walk1 | (dsimp only; first | k_extra "own" | walk1) | (leave1; walk_say "STEP leave1"; try dsimp only) | fail "no step")
  rename IsRange _ _ _ _ _ _ _ _ => hR
  refine' packP (σ := Nat) (fun z => [(Str.ofString "leads", .ref ld), (Str.ofString "heap", .ref z)]) (fun z => (z, listOf #[] 0) :: (ld, listOf #[.ref z0.x, .ref z1.x, .ref z2.x, .ref z3.x, .ref z4.x] e) :: rest) (fun z => PySem.Flt.Hid (ld ≠ z)) ?pF ?pN _ ?pm ?pn ?pp ?_
  case pF => k_asm
  case pN => k_asm
  case pn => ((try dsimp only); exact (List.forall_mem_cons.mpr ⟨by k_mem, (List.forall_mem_cons.mpr ⟨by k_mem, (by (repeat' (first | with_reducible assumption | exact in_self | refine in_tail ?_)))⟩)⟩))
  case pm => kst_all
  case pp => exact PySem.Flt.Hid.mk (Nat.ne_of_lt (by omega))
  rintro hp m1 hm1 dd1 F2 N2
  try dsimp only at hm1 dd1 N2
  refine iter_rangeUnr (n := 5) (by rfl) hR (range_small (by decide) (by decide) (by decide) (by decide)) (range_size (.inl ⟨by decide, by decide⟩)) F2 N2 (fun I hI => ?_)
  refine range_inv (σ := PshS)
    (fun i z => (hp, listOf (refsI z.l).toArray z.en) :: (ld, listOf #[.ref z0.x, .ref z1.x, .ref z2.x, .ref z3.x, .ref z4.x] e) :: z.es)
    (fun i z => [(Str.ofString "leads", .ref ld), (Str.ofString "heap", .ref hp)])
    (fun i z => PushL (colZ z0 z1 z2 z3 z4 1) i z.l ∧ EsOk rest [] z.l z.es)
    ?step ?done 5 0 _ _ rfl (fun p hp => Nat.ne_of_lt (hI p hp)) ⟨⟨[], 0, rest⟩, rfl, hm1, PushL.zero, fun _ h => h, (fun r h => nomatch h), (fun r h => nomatch h), hc, hr⟩
  case step =>
    intro i z v t h tk hi hP ho F3 N3
    obtain ⟨l, en, es⟩ := z
    dsimp only [kstB] at hP ho F3 N3 ⊢
    obtain ⟨hpu, hes⟩ := hP
    clear ho
    simp only [Int.zero_add] at F3
    have g0 : (0 : Int) ≤ (i : Int) := Int.natCast_nonneg i
    have g5 : (i : Int) < 5 := Int.ofNat_lt.mpr hi
    have yk : ∀ p ∈ (pick z0 z1 z2 z3 z4 (i : Int)).led w, p ∈ es := fun p h => hes.rest p (lzk _ p h)
    repeat' ((fail_if_success (with_reducible show wpAny _ _ (PySem.call (Value.ref 28) _) _ _ _)); (fail_if_success (with_reducible show UnrEnd _ _ _ _ _ _ _)); (fail_if_success (with_reducible show KswEnd _ _ _ _ _ _ _ _ _ _ _ _)); first | (k_unfold; (try dsimp only)) | (k_end; wrow_close) | k_extra "own" | walk1 | (dsimp only; first | k_extra "own" | walk1) | (leave1; walk_say "STEP leave1"; try dsimp only) | fail "no step")
    rename News g' _ _ _ => N0
    rename_i q9 D9 h9 F9 l9
    have hIhp : I ≠ hp := news_ne N0 (by k_mem) (by k_mem) (by simp [itR])
    have hDhp : D9 ≠ hp := news_ne N0 (by k_mem) (by k_mem) (by simp)
    k_dflt (refine' CodeSpec.use (push_spec (l₀ := l) (x := ⟨D9, colZ z0 z1 z2 z3 z4 1 (i : Int), q9, (i : Int), t⟩) (n := en) (es := (D9, tup2 (colZ z0 z1 z2 z3 z4 1 (i : Int)) q9 (i : Int) t) :: (I, itR (0 + ((i + 1 : Nat) : Int)) (((5 : Nat) : Int) - ((i + 1 : Nat) : Int))) :: (ld, listOf #[.ref z0.x, .ref z1.x, .ref z2.x, .ref z3.x, .ref z4.x] e) :: es) (by rw [hpu.len]; omega) (fun y hy => .tail _ (.tail _ (.tail _ (hes.it y hy)))) (.head _) (List.forall_mem_cons.mpr ⟨hDhp, (List.forall_mem_cons.mpr ⟨hIhp, (List.forall_mem_cons.mpr ⟨dd1.out, (off_list N0 (by k_mem) (by (repeat' (first | with_reducible assumption | exact in_self | refine in_tail ?_))) hes.nl)⟩)⟩)⟩)) ?uB ?uF ?uX ?uN ?uT ?uk ?uin ?ud ?uu ?_; (case uB => k_asm); (case uF => k_asm); (case uX => k_asm); (case uN => k_asm); (case uT => k_asm); (case uk => first | exact rfl | assumption); (case uin => exact (List.forall_mem_cons.mpr ⟨by k_mem, (List.forall_mem_cons.mpr ⟨by k_mem, (List.forall_mem_cons.mpr ⟨by k_mem, (List.forall_mem_cons.mpr ⟨by k_mem, (by (repeat' (first | with_reducible assumption | exact in_self | refine in_tail ?_)))⟩)⟩)⟩)⟩)); (case ud => ktr_room); (case uu => ktr_units))
    intro r9 l9 h9 tk9 F9 N9 K9 fr9 P9
    obtain ⟨rfl, rfl⟩ := P9
    (try dsimp only)
    (try k_fold)
    repeat' ( (fail_if_success (with_reducible show UnrEnd _ _ _ _ _ _ _)); (fail_if_success (with_reducible show KswEnd _ _ _ _ _ _ _ _ _ _ _ _)); first | (k_unfold; (try dsimp only)) | (k_end; wrow_close) | k_extra "own" | walk1 | (dsimp only; first | k_extra "own" | walk1) | (leave1; walk_say "STEP leave1"; try dsimp only) | fail "no step")
    refine unr_end4 (⟨sdn l.length (l ++ [⟨D9, colZ z0 z1 z2 z3 z4 1 (i : Int), q9, (i : Int), t⟩]) l.length ⟨D9, colZ z0 z1 z2 z3 z4 1 (i : Int), q9, (i : Int), t⟩, en + 1, (D9, tup2 (colZ z0 z1 z2 z3 z4 1 (i : Int)) q9 (i : Int) t) :: es⟩ : PshS) (by k_asm) N9 (by k_mem) (List.forall_mem_cons.mpr ⟨by k_mem, (List.forall_mem_cons.mpr ⟨by k_mem, (List.forall_mem_cons.mpr ⟨by k_mem, (by (repeat' (first | with_reducible assumption | exact in_self | refine in_tail ?_)))⟩)⟩)⟩) (List.forall_mem_cons.mpr ⟨by simp [itR], (List.forall_mem_cons.mpr ⟨by simp [itR], (List.forall_mem_cons.mpr ⟨by simp [itR], hes.ni⟩)⟩)⟩) (by kst_all) ⟨hpu.next hi rfl rfl, (hes.more ⟨D9, colZ z0 z1 z2 z3 z4 1 (i : Int), q9, (i : Int), t⟩).items fun y hy => ?_⟩
    rcases sdn_mem _ _ _ _ hy with q | rfl
    · rcases List.mem_append.mp q with q | q
      · exact .tail _ (hes.it y q)
      · rw [List.mem_singleton.mp q]; exact .head _
    · exact .head _
  case done =>
    intro z v h tk hP F3 N3
    obtain ⟨l, nh, es⟩ := z
    dsimp only [kstB] at hP F3 N3
    obtain ⟨hpu, hes⟩ := hP
    have I0 := hpu.all
    clear hpu hR hm1 F2 N2
    dsimp only
    repeat' ((fail_if_success (with_reducible show wpAny _ _ (pyIter _) _ _ _)); first | (k_unfold; (try dsimp only)) | (k_end; wrow_close) | k_extra "own" | walk1 | (dsimp only; first | k_extra "own" | walk1) | (leave1; walk_say "STEP leave1"; try dsimp only) | fail "no step")
    rename IsRange _ _ _ _ _ _ _ _ => hR
    refine' packP (σ := Nat) (fun z => [(Str.ofString "leads", .ref ld), (Str.ofString "heap", .ref hp), (Str.ofString "road", .ref z)]) (fun z => (z, listOf #[] 0) :: (hp, listOf (refsI l).toArray nh) :: (ld, listOf #[.ref z0.x, .ref z1.x, .ref z2.x, .ref z3.x, .ref z4.x] e) :: es)
      (fun z => PySem.Flt.Hid (hp ≠ z ∧ ld ≠ z)) ?pF ?pN _ ?pm ?pn ?pp ?_
    case pF => k_asm
    case pN => k_asm
    case pn => ((try dsimp only); exact (List.forall_mem_cons.mpr ⟨by k_mem, (List.forall_mem_cons.mpr ⟨by k_mem, (List.forall_mem_cons.mpr ⟨by k_mem, (by (repeat' (first | with_reducible assumption | exact in_self | refine in_tail ?_)))⟩)⟩)⟩))
    case pm => kst_all
    case pp => exact PySem.Flt.Hid.mk ⟨Nat.ne_of_lt (by omega), Nat.ne_of_lt (by omega)⟩
    rintro ra m1 hm1 dd F2 N2
    try dsimp only at hm1 dd N2
    refine iter_rangeUnr (n := 6) (by rfl) hR (range_small (by decide) (by decide) (by decide) (by decide)) (range_size (.inl ⟨by decide, by decide⟩)) F2 N2 (fun I hI => ?_)
    refine range_inv (σ := RdS)
      (fun i z => (ra, listOf (refsI z.rd).toArray z.en) :: (hp, listOf (refsI z.l).toArray nh) :: (ld, listOf #[.ref z0.x, .ref z1.x, .ref z2.x, .ref z3.x, .ref z4.x] e) :: z.es)
      (fun i z => [(Str.ofString "leads", .ref ld), (Str.ofString "heap", .ref hp), (Str.ofString "road", .ref ra)])
      (fun i z => InvL (colZ z0 z1 z2 z3 z4 (1 + (i : Int))) z.l ∧ z.rd.length = i ∧ (∀ (j : Nat) (r : It), z.rd[j]? = some r → IsLeast (colZ z0 z1 z2 z3 z4 (1 + (j : Int))) r.c r.k) ∧ EsOk rest z.rd z.l z.es)
      ?step2 ?done2 6 0 _ _ rfl (fun p hp => Nat.ne_of_lt (hI p hp)) ⟨⟨l, [], 0, es⟩, rfl, hm1, I0, rfl, (fun j r h => by simp at h), hes⟩
    case done2 =>
      intro z v h tk hP F3 N3
      obtain ⟨l, rd, en, es⟩ := z
      dsimp only [kstB] at hP F3 N3
      obtain ⟨hinv, hlen, hleast, hes⟩ := hP
      obtain ⟨r0, r1, r2, r3, r4, r5, rfl⟩ := six rd hlen
      have hrd := hes.rd
      have l0 := hleast 0 r0 rfl; have l1 := hleast 1 r1 rfl; have l2 := hleast 2 r2 rfl; have l3 := hleast 3 r3 rfl; have l4 := hleast 4 r4 rfl; have l5 := hleast 5 r5 rfl
      have m0 := hrd r0 (by simp); have m1 := hrd r1 (by simp); have m2 := hrd r2 (by simp); have m3 := hrd r3 (by simp); have m4 := hrd r4 (by simp); have m5 := hrd r5 (by simp)
      have hrest := hes.rest
      clear hinv hlen hleast hrd hes
      dsimp only
      repeat' ( first | (k_unfold; (try dsimp only)) | (k_end; wrow_close) | k_extra "own" | walk1 | (dsimp only; first | k_extra "own" | walk1) | (leave1; walk_say "STEP leave1"; try dsimp only) | fail "no step")
      refine' ret_end (sub' := [(ra, listOf #[.ref r0.a, .ref r1.a, .ref r2.a, .ref r3.a, .ref r4.a, .ref r5.a] en), r0.ent, r1.ent, r2.ent, r3.ent, r4.ent, r5.ent]) (Q := fun r s' => R (.ok (.ret r)) s') hret N hkeep ?rF ?rN ?rG ?rM ?rin ?rsub ?rp
      case rF => k_asm
      case rN => k_asm
      case rG => k_asm
      case rM => k_asm
      case rin => exact List.forall_mem_cons.mpr ⟨by k_mem, tail6 (by (repeat' (first | with_reducible assumption | exact in_self | refine in_tail ?_))) m0 m1 m2 m3 m4 m5⟩
      case rsub => exact sub_on (by k_mem) (by (repeat' (first | with_reducible assumption | exact in_self | refine in_tail ?_))) hrest
      case rp => exact ⟨ra, en, r0, r1, r2, r3, r4, r5, rfl, rfl, l0, l1, l2, l3, l4, l5⟩
    case step2 =>
      intro i z v t h tk hi hP ho F3 N3
      obtain ⟨l, rd, en, es⟩ := z
      dsimp only [kstB] at hP ho F3 N3 ⊢
      obtain ⟨hinv, hlen, hleast, hes⟩ := hP
      clear ho
      obtain ⟨x, hx⟩ := hinv.top
      have hxin := hes.it x (List.mem_of_getElem? hx)
      replace N3 := news_more N3 (.tail _ (.tail _ (.tail _ (.tail _ hxin))))
      have g0 : 0 ≤ x.k := (hinv.under x (List.mem_of_getElem? hx)).1
      have g5 : x.k < 5 := (hinv.under x (List.mem_of_getElem? hx)).2.1
      have yk : ∀ p ∈ (pick z0 z1 z2 z3 z4 x.k).led w, p ∈ es := fun p h => hes.rest p (lzk _ p h)
      have hz0 : (0 : Int) = ((0 : Nat) : Int) := rfl
      have hz9 : 0 < 9 := Nat.zero_lt_succ _
      repeat' ((fail_if_success (with_reducible show wpAny _ _ (PySem.call (Value.ref 35) _) _ _ _)); (fail_if_success (with_reducible show wpAny _ _ (exec (Stmt.While _ _ _ _) _) _ _ _)); (fail_if_success (with_reducible show wpAny _ _ (PySem.call (Value.builtin "list.append") _) _ _ _)); (fail_if_success (with_reducible show UnrEnd _ _ _ _ _ _ _)); (fail_if_success (with_reducible show KswEnd _ _ _ _ _ _ _ _ _ _ _ _)); first | (k_unfold; (try dsimp only)) | (k_end; wrow_close) | k_extra "own" | walk1 | (dsimp only; first | k_extra "own" | walk1) | (leave1; walk_say "STEP leave1"; try dsimp only) | fail "no step")
      refine ksw_while (σ := WhS) (fun c => c.x.ent :: (I, itR (1 + ((i + 1 : Nat) : Int)) (((6 : Nat) : Int) - ((i + 1 : Nat) : Int))) :: (ra, listOf (refsI rd).toArray en) :: (hp, listOf (refsI c.l).toArray nh) :: (ld, listOf #[.ref z0.x, .ref z1.x, .ref z2.x, .ref z3.x, .ref z4.x] e) :: c.es)
        (fun c => [(Str.ofString "column", .int c.x.c c.x.t), (Str.ofString "k", .int c.x.k c.x.u), (Str.ofString "present", .int (colZ z0 z1 z2 z3 z4 (1 + (i : Int)) c.x.k) c.tp)])
        (fun _ => True) [] (fun c => InvL (colZ z0 z1 z2 z3 z4 (1 + (i : Int))) c.l ∧ c.l[0]? = some c.x ∧ EsOk rest rd c.l c.es)
        (fun c => slackL (colZ z0 z1 z2 z3 z4 (1 + (i : Int))) c.l) ⟨l, x, es, _⟩ (by k_asm) (by k_asm) trivial (by kst_all) ⟨hinv, hx, hes⟩ ?turn
      case turn =>
        intro c u h9 tk9 _ hI9 F4 N4
        clear hinv hx hes hxin g0 g5 yk
        obtain ⟨l, x, es, tp⟩ := c
        dsimp only [kstB] at hI9 F4 N4 ⊢
        obtain ⟨hI9, hx9, he9⟩ := hI9
        repeat' ((fail_if_success (with_reducible show wpAny _ _ (PySem.call (Value.ref 35) _) _ _ _)); (fail_if_success (with_reducible show wpAny _ _ (exec (Stmt.While _ _ _ _) _) _ _ _)); (fail_if_success (with_reducible show wpAny _ _ (PySem.call (Value.builtin "list.append") _) _ _ _)); (fail_if_success (with_reducible show UnrEnd _ _ _ _ _ _ _)); (fail_if_success (with_reducible show KswEnd _ _ _ _ _ _ _ _ _ _ _ _)); first | (k_unfold; (try dsimp only)) | (k_end; wrow_close) | k_extra "own" | walk1 | (dsimp only; first | k_extra "own" | walk1) | (leave1; walk_say "STEP leave1"; try dsimp only) | fail "no step")
        · rename News g' _ _ _ => N0
          rename_i D9 h9 F9 l9
          have hIhp : I ≠ hp := news_ne N0 (by k_mem) (by k_mem) (by simp [itR])
          have hDhp : D9 ≠ hp := news_ne N0 (by k_mem) (by k_mem) (by simp)
          have hXhp : x.a ≠ hp := news_ne N0 (by k_mem) (by k_mem) (by simp)
          k_dflt (refine' CodeSpec.use (replace_spec (l₀ := l) (x₀ := x) (x := ⟨D9, (colZ z0 z1 z2 z3 z4 (1 + (i : Int)) x.k), tp, x.k, x.u⟩) (n := nh) (es := (D9, tup2 (colZ z0 z1 z2 z3 z4 (1 + (i : Int)) x.k) tp x.k x.u) :: x.ent :: (I, itR (1 + ((i + 1 : Nat) : Int)) (((6 : Nat) : Int) - ((i + 1 : Nat) : Int))) :: (ra, listOf (refsI rd).toArray en) :: (ld, listOf #[.ref z0.x, .ref z1.x, .ref z2.x, .ref z3.x, .ref z4.x] e) :: es) hx9 (by rw [hI9.len]; decide) (fun y hy => .tail _ (.tail _ (.tail _ (.tail _ (.tail _ (he9.it y hy)))))) (.head _) (List.forall_mem_cons.mpr ⟨hDhp, (List.forall_mem_cons.mpr ⟨hXhp, (List.forall_mem_cons.mpr ⟨hIhp, (List.forall_mem_cons.mpr ⟨Ne.symm dd.out.1, (List.forall_mem_cons.mpr ⟨dd1.out, (off_list N0 (by k_mem) (by (repeat' (first | with_reducible assumption | exact in_self | refine in_tail ?_))) he9.nl)⟩)⟩)⟩)⟩)⟩)) ?uB ?uF ?uX ?uN ?uT ?uk ?uin ?ud ?uu ?_; (case uB => k_asm); (case uF => k_asm); (case uX => k_asm); (case uN => k_asm); (case uT => k_asm); (case uk => first | exact rfl | assumption); (case uin => exact (List.forall_mem_cons.mpr ⟨by k_mem, (List.forall_mem_cons.mpr ⟨by k_mem, (List.forall_mem_cons.mpr ⟨by k_mem, (List.forall_mem_cons.mpr ⟨by k_mem, (List.forall_mem_cons.mpr ⟨by k_mem, (List.forall_mem_cons.mpr ⟨by k_mem, (by (repeat' (first | with_reducible assumption | exact in_self | refine in_tail ?_)))⟩)⟩)⟩)⟩)⟩)⟩)); (case ud => ktr_room); (case uu => ktr_units))
          intro r9 l9 h9 tk9 F9 N9 K9 fr9 P9
          obtain ⟨rfl, rfl⟩ := P9
          have J := hI9.replace (y := ⟨D9, (colZ z0 z1 z2 z3 z4 (1 + (i : Int)) x.k), tp, x.k, x.u⟩) hx9 rfl rfl
          have hless : x.c < (colZ z0 z1 z2 z3 z4 (1 + (i : Int)) x.k) → slackL (colZ z0 z1 z2 z3 z4 (1 + (i : Int))) (supF (l.set 0 ⟨D9, (colZ z0 z1 z2 z3 z4 (1 + (i : Int)) x.k), tp, x.k, x.u⟩) ⟨D9, (colZ z0 z1 z2 z3 z4 (1 + (i : Int)) x.k), tp, x.k, x.u⟩) < slackL (colZ z0 z1 z2 z3 z4 (1 + (i : Int))) l := hI9.less hx9 rfl rfl
          have hE : EsOk rest rd (supF (l.set 0 ⟨D9, (colZ z0 z1 z2 z3 z4 (1 + (i : Int)) x.k), tp, x.k, x.u⟩) ⟨D9, (colZ z0 z1 z2 z3 z4 (1 + (i : Int)) x.k), tp, x.k, x.u⟩) ((D9, tup2 (colZ z0 z1 z2 z3 z4 (1 + (i : Int)) x.k) tp x.k x.u) :: es) := (he9.more ⟨D9, (colZ z0 z1 z2 z3 z4 (1 + (i : Int)) x.k), tp, x.k, x.u⟩).items fun y hy => by
            rcases supF_mem hy with q | rfl
            · rcases List.mem_or_eq_of_mem_set q with q | rfl
              · exact .tail _ (he9.it y q)
              · exact .head _
            · exact .head _
          generalize supF (l.set 0 ⟨D9, (colZ z0 z1 z2 z3 z4 (1 + (i : Int)) x.k), tp, x.k, x.u⟩) ⟨D9, (colZ z0 z1 z2 z3 z4 (1 + (i : Int)) x.k), tp, x.k, x.u⟩ = l' at N9 J hE hless
          obtain ⟨x', hx'⟩ := J.top
          have hx'in := hE.it x' (List.mem_of_getElem? hx')
          have g0 : 0 ≤ x'.k := (J.under x' (List.mem_of_getElem? hx')).1
          have g5 : x'.k < 5 := (J.under x' (List.mem_of_getElem? hx')).2.1
          have yk : ∀ p ∈ (pick z0 z1 z2 z3 z4 x'.k).led w, p ∈ es := fun p h => he9.rest p (lzk _ p h)
          replace N9 := news_more (p := x'.ent) N9 (List.mem_cons.mpr (.inr ((List.mem_cons.mp hx'in).elim (fun e => e ▸ .head _) fun e => .tail _ (.tail _ (.tail _ (.tail _ (.tail _ e)))))))
          (try dsimp only)
          (try k_fold)
          repeat' ((fail_if_success (with_reducible show wpAny _ _ (PySem.call (Value.ref 35) _) _ _ _)); (fail_if_success (with_reducible show wpAny _ _ (exec (Stmt.While _ _ _ _) _) _ _ _)); (fail_if_success (with_reducible show wpAny _ _ (PySem.call (Value.builtin "list.append") _) _ _ _)); (fail_if_success (with_reducible show UnrEnd _ _ _ _ _ _ _)); (fail_if_success (with_reducible show KswEnd _ _ _ _ _ _ _ _ _ _ _ _)); first | (k_unfold; (try dsimp only)) | (k_end; wrow_close) | k_extra "own" | walk1 | (dsimp only; first | k_extra "own" | walk1) | (leave1; walk_say "STEP leave1"; try dsimp only) | fail "no step")
          refine ksw_end (⟨l', x', (D9, tup2 (colZ z0 z1 z2 z3 z4 (1 + (i : Int)) x.k) tp x.k x.u) :: es, _⟩ : WhS) (by k_asm) (by k_asm) (List.forall_mem_cons.mpr ⟨by k_mem, (List.forall_mem_cons.mpr ⟨by k_mem, (List.forall_mem_cons.mpr ⟨by k_mem, (List.forall_mem_cons.mpr ⟨by k_mem, (List.forall_mem_cons.mpr ⟨by k_mem, (List.forall_mem_cons.mpr ⟨by k_mem, (by (repeat' (first | with_reducible assumption | exact in_self | refine in_tail ?_)))⟩)⟩)⟩)⟩)⟩)⟩) trivial (by kst_all) (by ksw_same) ⟨J, hx', hE⟩ (hless (by assumption))
        · rename News g' _ _ _ => N0
          rename_i dT hT fT lT
          have q1 : dT ≠ ra := news_ne N0 (by k_mem) (by k_mem) (by simp)
          have q2 : x.a ≠ ra := news_ne N0 (by k_mem) (by k_mem) (by simp)
          have q3 : I ≠ ra := news_ne N0 (by k_mem) (by k_mem) (by simp [itR])
          k_dflt (refine' append_K (by k_asm) N0 (Upd.tail q1 (Upd.tail q2 (Upd.tail q3 (Upd.head ?uo)))) ?_ ?uz)
          case uo => exact (List.forall_mem_cons.mpr ⟨dd.out.1, (List.forall_mem_cons.mpr ⟨dd.out.2, (off_list N0 (by k_mem) (by (repeat' (first | with_reducible assumption | exact in_self | refine in_tail ?_))) he9.nl)⟩)⟩)
          case uz => (simp only [List.size_toArray, List.length_map]; rw [hlen, sizeLine_eq]; omega)
          intro h7 F7 N7
          rw [push_itA (x := ⟨dT, x.c, x.t, x.k, x.u⟩)] at N7
          (try dsimp only)
          repeat' ((fail_if_success (with_reducible show wpAny _ _ (PySem.call (Value.ref 35) _) _ _ _)); (fail_if_success (with_reducible show wpAny _ _ (exec (Stmt.While _ _ _ _) _) _ _ _)); (fail_if_success (with_reducible show wpAny _ _ (PySem.call (Value.builtin "list.append") _) _ _ _)); (fail_if_success (with_reducible show UnrEnd _ _ _ _ _ _ _)); (fail_if_success (with_reducible show KswEnd _ _ _ _ _ _ _ _ _ _ _ _)); first | (k_unfold; (try dsimp only)) | (k_end; wrow_close) | k_extra "own" | walk1 | (dsimp only; first | k_extra "own" | walk1) | (leave1; walk_say "STEP leave1"; try dsimp only) | fail "no step")
          refine unr_end4 (⟨l, rd ++ [⟨dT, x.c, x.t, x.k, x.u⟩], en + 1, (dT, tup2 x.c x.t x.k x.u) :: es⟩ : RdS) (by k_asm) N7 (by k_mem) (List.forall_mem_cons.mpr ⟨by k_mem, (List.forall_mem_cons.mpr ⟨by k_mem, (List.forall_mem_cons.mpr ⟨by k_mem, (List.forall_mem_cons.mpr ⟨by k_mem, (by (repeat' (first | with_reducible assumption | exact in_self | refine in_tail ?_)))⟩)⟩)⟩)⟩) (List.forall_mem_cons.mpr ⟨by simp [itR], (List.forall_mem_cons.mpr ⟨by simp [itR], (List.forall_mem_cons.mpr ⟨by simp [itR], (List.forall_mem_cons.mpr ⟨by simp [itR], he9.ni⟩)⟩)⟩)⟩) (by kst_all)
            ⟨hI9.next (fun k => colZ_le (by omega) k), by simp [hlen], fun j r hj => ?_, he9.on⟩
          rcases Nat.lt_or_ge j rd.length with hl | hl
          · rw [List.getElem?_append_left hl] at hj
            exact hleast j r hj
          · rw [List.getElem?_append_right hl] at hj
            have e0 : j - rd.length = 0 := by
              rcases Nat.eq_zero_or_pos (j - rd.length) with h | h
              · exact h
              · rw [List.getElem?_eq_none (by show 1 ≤ j - rd.length; exact h)] at hj
                cases hj
            rw [e0] at hj
            cases hj
            have ej : j = i := hlen ▸ Nat.le_antisymm (Nat.le_of_sub_eq_zero e0) hl
            subst ej
            have hu9 := hI9.under x (List.mem_of_getElem? hx9)
            have hge : ¬ x.c < colZ z0 z1 z2 z3 z4 (1 + (j : Int)) x.k := by assumption
            exact ⟨hu9.1, hu9.2.1, Int.le_antisymm hu9.2.2 (Int.not_lt.mp hge), fun q a b => hI9.least hx9 a b⟩
end
section
variable {prog : Program} {w : World} {A A₀ : Around} {E : Value → Shared → Prop} {s : Shared} {K : Frag} {L : Addr} {h₀ base : Heap} {m mg mb : Str → Option Value} {news : Led} {p : Program} {loose : List Str} {mean : ExcName → Option Value} {Q : Flow → Shared → Prop}
/-- a def whose locals a comprehension of its body reads -/
theorem spec_codeC {env : Env} {outer : List Env} {R : Result → Shared → Prop} {name qual : Str} {params : Arguments} {body : List Stmt} {scope : Scope} {dV kV doc pm cdv ct oc : Value} {an od : Option Addr} {osl : Array (Option Value)} {f : Addr} {args : Args} {binds : List (Str × Value)}
    (B : Below A₀ base outer h₀) (F : Fr h₀ L s.heap m) (X₀ : K.In h₀) (N : News h₀ L s.heap news) (T : Top p loose mean mg mb h₀) (hA : A.frames = some (env :: outer)) (hf : env.frame = some L) (hke : env.scope.kind = .function)
    (ho : K.lookup f = some ⟨oc, od, .func (fnOf name qual params body scope dV kV doc pm an cdv ct), osl⟩) (hcd : codeIn K cdv qual = true) (hroom : A.depth < recursionLimit)
    (hbind : BindsTo s (fnOf name qual params body scope dV kV doc pm an cdv ct) args binds) (hkind : (binds.all fun y => scope.names.lookup y.1 == some .local || scope.names.lookup y.1 == some .cell) = true)
    (hnd : ((cellsFrom 0 scope.names []).map (·.1)).Nodup)
    (h : ∀ g L' h₁ tk cells, Fr h₀ L g m → Fr g L' h₁ (bindL (envOfC qual scope L' f cdv).kindOf binds fun _ => none) → News g L' h₁ (cells ++ news) →
      CellsAre (bindC (envOfC qual scope L' f cdv).kindOf binds fun _ => none) (cellsFrom (L' + 1) scope.names []) cells → Below A base (env :: outer) g → K.In g → Top p loose mean mg mb g → (∀ p ∈ news, p.1 < L') → Keeps s.heap g (news.map (·.1)) →
      wpAny (model prog w) (A.deeper (envOfC qual scope L' f cdv)) (execs body (envOfC qual scope L' f cdv))
        (fun fl s' => LeaveK h₀ L m g R (match fl with | .ret v => v | _ => .none) s')
        (fun e s' => wpAny (model prog w) (A.deeper (envOfC qual scope L' f cdv)) (leaving (envOfC qual scope L' f cdv) e) (fun _ s'' => R (.error e) s'') (fun e' s'' => R (.error e') s'') s')
        { s with heap := h₁, toks := tk })
    (hco : scope.isCoroutine = false) (hgen : scope.isGenerator = false) (hk : scope.kind = .function) : codeAny (model prog w) A (.call (.ref f) args) R s := by
  obtain ⟨FG, BG, st, lv⟩ := groundX (R := R) B F N hA hf hke
  refine codeAny_call_function (fd := fnOf name qual params body scope dV kV doc pm an cdv ct) hroom ((X₀.keeps F.keep) _ _ ho) rfl hco hgen rfl (codeRec_of (X₀.keeps F.keep) hcd) (hbind _ _ _ _ ?_)
  refine wpAny_newFunctionEnv_cells hk (kindsX hkind _) fun env' he s' x => ?_
  subst he
  refine ⟨(T.nolimit.keeps F.keep).keeps x.toInCall.keep, codeAny_func ?_⟩
  obtain ⟨h₁, tk, rfl, _⟩ := x.done
  have hk₁ := x.toInCall.keep
  obtain ⟨cells, NC, Y⟩ := Cl.news (h₀ := s.heap) (Nat.le_refl _) fun n c hm => ⟨x.cell n c (lookup_of_mem_nodup (cellsFrom_names scope.names 0 (s.heap.objs.size + 1) [] [] rfl ▸ hnd) hm), x.above n c hm⟩
  have hN : News (hideAll s.heap (news.map (·.1))) s.heap.objs.size h₁ (cells ++ news) := fun p hp => by
    rcases List.mem_append.mp hp with hp | hp
    · refine ⟨(NC p hp).1, (NC p hp).2.1, ?_⟩
      cases q : (hideAll s.heap (news.map (·.1))).get? p.1 with
      | none => rfl
      | some o => have := of_hideAll _ q; rw [(NC p hp).2.2] at this; cases this
    · exact ⟨hk₁ _ _ (N p hp).1, Nat.ne_of_lt (Heap.lt_size (N p hp).1), hideAll_none _ (List.mem_map_of_mem hp)⟩
  exact wpAny_mono (h _ s.heap.objs.size h₁ tk cells FG ⟨x.toInCall.ns, fun b o e => hk₁ b o (of_hideAll _ e), Nat.le_of_eq (hideAll_size _ _)⟩ hN Y BG (X₀.keeps st) (T.keeps st) (fun p hp => Heap.lt_size (N p hp).1) (fun b o e hn => hideAll_get _ e hn)) (fun fl s' hl => lv _ _ hl) fun _ _ y => y
/-- a loop over a range by ones, its target kept in a cell -/
theorem iter_rangeT {σ : Type} {env : Env} {target : Expr} {body : List Stmt} (Ld : Nat → σ → Led) (ps : Nat → σ → List (Str × Value)) (P : Nat → σ → Prop) {r : Addr} {a₀ b₀ : Int} {t₀ u₀ v₀ : Tok} {n : Nat} {m₀ : Str → Option Value}
    (hh : A.handled = none) (hr : IsRange s.heap r a₀ b₀ 1 t₀ u₀ v₀) (hsmall : Builtin.Range.small a₀ b₀ 1 = true) (hn : Builtin.Range.rangeSize a₀ b₀ 1 = (n : Int)) (F : Fr h₀ env.locals s.heap m₀) (N : News h₀ env.locals s.heap news)
    (hgo : ∀ I v, letOwnedTupleGo target I v = pure ()) (init : LoopS (Ld 0) (ps 0) (P 0) m₀ news)
    (step : ∀ (s₁ : Shared) (I : Addr) (i : Nat) (z : σ) (v : Str → Option Value) (t : Tok) h tk, i < n → P i z → (∀ p ∈ Ld i z, p.1 ≠ I) → Fr h₀ env.locals h (kstB v (ps i z)) →
      News h₀ env.locals h ((I, itR (a₀ + ((i + 1 : Nat) : Int)) ((n : Int) - ((i + 1 : Nat) : Int))) :: Ld i z) →
      wpAny (model prog w) A (assign target env (.int (a₀ + (i : Int)) t)) (fun _ s₃ => wpAny (model prog w) A (execs body env)
        (fun f s₄ => f = .next ∧ UnrEnd h₀ env.locals { s₁ with heap := h, toks := tk } I (itR (a₀ + ((i + 1 : Nat) : Int)) ((n : Int) - ((i + 1 : Nat) : Int))) (fun m l => (∀ p ∈ l, p.1 ≠ I) ∧ LoopS (Ld (i + 1)) (ps (i + 1)) (P (i + 1)) m l) s₄) E s₃) E { s₁ with heap := h, toks := tk })
    (done : ∀ (z : σ) (v : Str → Option Value) h tk, P n z → Fr h₀ env.locals h (kstB v (ps n z)) → News h₀ env.locals h (Ld n z) → Q .next { s with heap := h, toks := tk }) :
    wpAny (model prog w) A (pyIter (.ref r)) (fun it s₂ => LoopAtT prog w A h₀ env target body Q E it s₂) E s := by
  refine wpAny_pyIter_range hr hsmall ?_
  have W : Walks prog w A s.heap.objs.size [s.heap.objs.size] [s.heap.objs.size] n (fun i v => i < n ∧ ∃ t, v = .int (a₀ + i * 1) t)
      (fun i h => IsRangeIter h s.heap.objs.size (a₀ + (i : Nat) * 1) ((n : Int) - (i : Nat)) 1) := (Walks.range hh _ a₀ 1 n).bound
  have hnew := next_is_new F
  have hlt : ∀ p ∈ news, p.1 ≠ s.heap.objs.size := fun p hp => Nat.ne_of_lt (Heap.lt_size (N p hp).1)
  refine ⟨_, _, _, n, _, _, m₀, news, fun i m l => (∀ p ∈ l, p.1 ≠ s.heap.objs.size) ∧ LoopS (Ld i) (ps i) (P i) m l, rfl, W, ?_, ?_, ?_, (by show IsRangeIter _ _ _ _ _; rw [hn]; simpa using Heap.get?_push_size _ rfl), F.push _, (fun p hp => ⟨Heap.get?_push_of_some _ (N p hp).1, (N p hp).2⟩), ?_, ⟨hlt, init⟩, ?_, ?_⟩
  · intro hm
    exact absurd F.ns.lt ((List.mem_singleton.mp hm) ▸ Nat.lt_irrefl _)
  · intro b hb
    rw [List.mem_singleton.mp hb]
    exact hnew
  · intro p hp hI
    exact hlt p hp (List.mem_singleton.mp hI)
  · intro i s' v Q' _ hQ
    rw [hgo]
    exact wpAny_pure hQ
  · rintro i v m₁ news₁ s₁ own hin ⟨_, t, rfl⟩ ⟨hoff, z, hz, hm, hp⟩ _ hown hget hall hst F₁ N₁
    subst hz
    have hst' : s₁.heap.get? s.heap.objs.size = some (itR (a₀ + ((i + 1 : Nat) : Int)) ((n : Int) - ((i + 1 : Nat) : Int))) := by
      have q : IsRangeIter s₁.heap s.heap.objs.size (a₀ + ((i + 1 : Nat) : Int) * 1) ((n : Int) - ((i + 1 : Nat) : Int)) 1 := hst
      rw [Int.mul_one] at q
      exact q
    have hmem := hall s.heap.objs.size (List.mem_singleton.mpr rfl) hnew _ hst'
    have N₂ : News h₀ env.locals s₁.heap ((s.heap.objs.size, itR (a₀ + ((i + 1 : Nat) : Int)) ((n : Int) - ((i + 1 : Nat) : Int))) :: Ld i z) := fun p hp => by
      rcases List.mem_cons.mp hp with rfl | hp
      · exact N₁ _ (List.mem_append_left _ hmem)
      · exact N₁ _ (List.mem_append_right _ hp)
    rw [← kstB_self hm] at F₁
    rw [Int.mul_one]
    refine wpAny_mono (step s₁ s.heap.objs.size i z m₁ t s₁.heap s₁.toks hin hp hoff F₁ N₂) (fun _ s₃ q => wpAny_mono q (fun f s₄ q => ?_) fun _ _ e => e) fun _ _ e => e
    obtain ⟨rfl, h', tk, m', news', e, F', N', ho, r⟩ := q
    refine ⟨rfl, h', tk, m', news', e, F', fun p hp => ?_, fun p hp hI => ho p hp (List.mem_singleton.mp hI), r⟩
    rcases List.mem_append.mp hp with hp | hp
    · have h1 : p.1 = s.heap.objs.size := List.mem_singleton.mp (hown p hp)
      have h2 : s₁.heap.get? p.1 = some p.2 := hget p hp
      have h3 : p = (s.heap.objs.size, itR (a₀ + ((i + 1 : Nat) : Int)) ((n : Int) - ((i + 1 : Nat) : Int))) := by
        rw [h1, hst'] at h2
        exact Prod.ext h1 (Option.some.inj h2).symm
      rw [h3]; exact N' _ (List.mem_cons_self ..)
    · exact N' _ (List.mem_cons_of_mem _ hp)
  · rintro h' tk m' news' F' N' _ ⟨_, z, hz, hm, hp⟩
    subst hz
    rw [← kstB_self hm] at F'
    exact done z m' h' tk hp F' N'
end
section
variable {prog : Program} {w : World} {A : Around} {R : Result → Shared → Prop} {I : Addr} {fp wr : List Addr} {n : Nat} {P : Nat → Value → Prop} {St : Nat → Heap → Prop} {G : Heap → Prop}
/-- the turns of min over items whose order hangs on what stands in the heap -/
theorem min_turns (W : Walks prog w A.in1 I fp wr n P St) (bt : Nat → Nat → Bool) (S : Addr) (hG : ∀ h h', G h → (∀ b o, b ∉ wr → b ≠ S → h.get? b = some o → h'.get? b = some o) → G h')
    (hcmp : ∀ i j vi vj (s : Shared) (Q E : Value → Shared → Prop), G s.heap → P i vi → P j vj → Q (.bool (bt i j)) s → wpAny (model prog w) A.in1 (richCompare .Lt vi vj) Q E s) (hSf : S ∉ fp) :
    ∀ (k j : Nat) (s : Shared) (vb : Value) (c : Nat), n - (j + 1) = k → j + 1 ≤ n → St (j + 1) s.heap → G s.heap → P (argBest bt j) vb →
    s.heap.get? S = some { cls := .type "list", dict := none, data := .seq #[vb, vb] c, slots := #[] } →
    (∀ v h' tk, P (argBest bt (n - 1)) v → (∀ b o, b ∉ wr → b ≠ S → s.heap.get? b = some o → h'.get? b = some o) → R (.ok (.ret v)) { s with heap := h', toks := tk }) →
    codeAny (model prog w) A (.builtin "min.loop" ⟨[.ref I, .none, .ref S], []⟩) R s := by
  have hSw : S ∉ wr := fun h => hSf (W.sub _ h)
  have hname : (toString "min" ++ toString ".loop" : String) = "min.loop" := by decide
  have offS : ∀ (h : Heap) (f : Obj → Obj) (b : Addr) (o : Obj), b ≠ S → h.get? b = some o → (h.update S f).get? b = some o := fun h f b o hb e => (Heap.get?_update_other _ _ (Ne.symm hb)).trans e
  intro k
  induction k with
  | zero =>
    intro j s vb c hk hj hst hg hPb hS hR
    have hin : j + 1 = n := by omega
    refine codeAny_builtin F.entry_min_loop ?_
    rw [Around.under_plainId F.plain_min_loop _]
    show wpAny _ A.in1 (seqItems? (.ref S) >>= _) _ _ s
    refine wpAny_bind (wpAny_seqItems hS rfl ?_)
    show wpAny _ A.in1 (tryCatch (pyNext (.ref I)) _ >>= _) _ _ s
    refine wpAny_bind (wpAny_tryCatch (W.done s _ _ (hin ▸ hst) fun h' tk hk' => ?_))
    show wpAny _ A.in1 (updateSeq S (fun _ => #[]) >>= _) _ _ _
    refine wpAny_bind (wpAny_updateSeq (hk' S _ hSw hS) rfl (wpAny_bind (wpAny_letGo (wpAny_pure ?_))))
    exact hR vb _ tk (by rw [← hin]; exact hPb) fun b o hb hs e => offS _ _ b o hs (hk' b o hb e)
  | succ k ih =>
    intro j s vb c hk hj hst hg hPb hS hR
    have hlt : j + 1 < n := by omega
    refine codeAny_builtin F.entry_min_loop ?_
    rw [Around.under_plainId F.plain_min_loop _]
    show wpAny _ A.in1 (seqItems? (.ref S) >>= _) _ _ s
    refine wpAny_bind (wpAny_seqItems hS rfl ?_)
    show wpAny _ A.in1 (tryCatch (pyNext (.ref I)) _ >>= _) _ _ s
    refine wpAny_bind (wpAny_tryCatch (W.item (j + 1) s _ _ hlt hst fun v h' tk hP hst' hk' => ?_))
    have hS' := hk' S _ hSw hS
    have hg' : G h' := hG _ _ hg fun b o hb _ e => hk' b o hb e
    show wpAny _ A.in1 (tryCatch (holding [v, v] (richCompare .Lt v vb >>= _)) _ >>= _) _ _ _
    refine wpAny_bind (wpAny_tryCatch (wpAny_holding (wpAny_bind (hcmp (j + 1) (argBest bt j) v vb _ _ _ hg' hP hPb ?_))))
    refine wpAny_bind (wpAny_holding (wpAny_truthy_bool ?_))
    refine wpAny_bind (wpAny_letGo (wpAny_pure ?_))
    cases hb : bt (j + 1) (argBest bt j) with
    | true =>
      simp only [if_true]
      refine wpAny_bind (wpAny_updateSeq hS' rfl (wpAny_bind (wpAny_letGo ?_)))
      rw [hname]
      refine wpAny_pure ⟨plainId_quiet F.plain_min_loop _, ih (j + 1) _ v _ (by omega) hlt (W.frame _ _ _ hst' fun b hbf o e => offS _ _ b o (fun q => hSf (q ▸ hbf)) e) (hG _ _ hg' fun b o _ hs e => offS _ _ b o hs e) (by simp only [argBest, hb, if_true]; exact hP) (Heap.get?_update_self _ hS' rfl)
        fun v' h'' tk'' hP' hk'' => hR v' h'' tk'' hP' fun b o hbw hbS e => hk'' b o hbw hbS (offS _ _ b o hbS (hk' b o hbw e))⟩
    | false =>
      simp only [Bool.false_eq_true, if_false]
      refine wpAny_bind (wpAny_letGo ?_)
      rw [hname]
      refine wpAny_pure ⟨plainId_quiet F.plain_min_loop _, ih (j + 1) _ vb c (by omega) hlt hst' hg' (by simp only [argBest, hb, Bool.false_eq_true, if_false]; exact hPb) hS'
        fun v' h'' tk'' hP' hk'' => hR v' h'' tk'' hP' fun b o hbw hbS e => hk'' b o hbw hbS (hk' b o hbw e)⟩
theorem min_first (W : Walks prog w A.in1 I fp wr n P St) (bt : Nat → Nat → Bool) (S : Addr) (hG : ∀ h h', G h → (∀ b o, b ∉ wr → b ≠ S → h.get? b = some o → h'.get? b = some o) → G h')
    (hcmp : ∀ i j vi vj (s : Shared) (Q E : Value → Shared → Prop), G s.heap → P i vi → P j vj → Q (.bool (bt i j)) s → wpAny (model prog w) A.in1 (richCompare .Lt vi vj) Q E s) (hSf : S ∉ fp) (hn : 0 < n) {s : Shared} {c : Nat} (hst : St 0 s.heap) (hg : G s.heap)
    (hS : s.heap.get? S = some { cls := .type "list", dict := none, data := .seq #[] c, slots := #[] })
    (hR : ∀ v h' tk, P (argBest bt (n - 1)) v → (∀ b o, b ∉ wr → b ≠ S → s.heap.get? b = some o → h'.get? b = some o) → R (.ok (.ret v)) { s with heap := h', toks := tk }) :
    codeAny (model prog w) A (.builtin "min.loop" ⟨[.ref I, .none, .ref S], []⟩) R s := by
  have hSw : S ∉ wr := fun h => hSf (W.sub _ h)
  have hname : (toString "min" ++ toString ".loop" : String) = "min.loop" := by decide
  have offS : ∀ (h : Heap) (f : Obj → Obj) (b : Addr) (o : Obj), b ≠ S → h.get? b = some o → (h.update S f).get? b = some o := fun h f b o hb e => (Heap.get?_update_other _ _ (Ne.symm hb)).trans e
  refine codeAny_builtin F.entry_min_loop ?_
  rw [Around.under_plainId F.plain_min_loop _]
  show wpAny _ A.in1 (seqItems? (.ref S) >>= _) _ _ s
  refine wpAny_bind (wpAny_seqItems hS rfl ?_)
  show wpAny _ A.in1 (tryCatch (pyNext (.ref I)) _ >>= _) _ _ s
  refine wpAny_bind (wpAny_tryCatch (W.item 0 s _ _ hn hst fun v h' tk hP hst' hk' => ?_))
  have hS' := hk' S _ hSw hS
  have hg' : G h' := hG _ _ hg fun b o hb _ e => hk' b o hb e
  show wpAny _ A.in1 (updateSeq S (fun _ => #[v, v]) >>= _) _ _ _
  refine wpAny_bind (wpAny_updateSeq hS' rfl ?_)
  rw [hname]
  exact wpAny_pure ⟨plainId_quiet F.plain_min_loop _, min_turns W bt S hG hcmp hSf _ 0 _ v _ rfl hn (W.frame _ _ _ hst' fun b hbf o e => offS _ _ b o (fun q => hSf (q ▸ hbf)) e) (hG _ _ hg' fun b o _ hs e => offS _ _ b o hs e) hP (Heap.get?_update_self _ hS' rfl)
    fun v' h'' tk'' hP' hk'' => hR v' h'' tk'' hP' fun b o hbw hbS e => hk'' b o hbw hbS (offS _ _ b o hbS (hk' b o hbw e))⟩
end
def itAt (its : List It) (i : Nat) : It := its.getD i ⟨0, 0, 0, 0, 0⟩
theorem argBest_lex (its : List It) : ∀ k, argBest (fun i j => decide ((itAt its i).c < (itAt its j).c ∨ ((itAt its i).c = (itAt its j).c ∧ (itAt its i).k < (itAt its j).k))) k ≤ k ∧
    ∀ j, j ≤ k → lexLe (itAt its (argBest (fun i j => decide ((itAt its i).c < (itAt its j).c ∨ ((itAt its i).c = (itAt its j).c ∧ (itAt its i).k < (itAt its j).k))) k)).c (itAt its (argBest (fun i j => decide ((itAt its i).c < (itAt its j).c ∨ ((itAt its i).c = (itAt its j).c ∧ (itAt its i).k < (itAt its j).k))) k)).k (itAt its j).c (itAt its j).k
  | 0 => ⟨Nat.le_refl _, fun j hj => by
      have : j = 0 := by omega
      subst this
      exact .inr ⟨rfl, Int.le_refl _⟩⟩
  | k + 1 => by
    obtain ⟨h1, h2⟩ := argBest_lex its k
    simp only [argBest]
    generalize argBest _ k = b at h1 h2
    unfold lexLe at h2 ⊢
    split
    · rename_i hc
      simp only [decide_eq_true_eq] at hc
      refine ⟨Nat.le_refl _, fun j hj => ?_⟩
      rcases Nat.lt_or_ge k j with hj' | hj'
      · have : j = k + 1 := by omega
        subst this
        exact .inr ⟨rfl, Int.le_refl _⟩
      · have := h2 j hj'
        omega
    · rename_i hc
      simp only [decide_eq_true_eq] at hc
      refine ⟨by omega, fun j hj => ?_⟩
      rcases Nat.lt_or_ge k j with hj' | hj'
      · have : j = k + 1 := by omega
        subst this
        omega
      · exact h2 j hj'
theorem min_tups {prog : Program} {w : World} {A : Around} {E : Value → Shared → Prop} {s : Shared} {h₀ : Heap} {L l : Addr} {m : Str → Option Value} {news : Led} {its : List It} {n : Nat} {Q : Value → Shared → Prop} (hu : A.in1.units < cLine) (hh : A.handled = none) (hF : Fr h₀ L s.heap m) (N : News h₀ L s.heap news)
    (hm : (l, listOf (its.map fun i => Value.ref i.a).toArray n) ∈ news) (ht : ∀ i ∈ its, i.ent ∈ news) (hne : 0 < its.length)
    (h : ∀ h' (r : It) tk, Fr h₀ L h' m → News h₀ L h' (r.ent :: news) → r ∈ its → (∀ i ∈ its, lexLe r.c r.k i.c i.k) → Q (.ref r.a) { s with heap := h', toks := tk }) :
    wpAny (model prog w) A (call (.builtin "min") [.ref l]) Q E s := by
  have hname : (toString "min" ++ toString ".loop" : String) = "min.loop" := by decide
  have hl : s.heap.IsList l (its.map fun i => Value.ref i.a).toArray := ⟨_, (N _ hm).1, rfl, _, rfl⟩
  have hlt : l < s.heap.objs.size := Heap.lt_size (N _ hm).1
  have hold : ∀ i ∈ its, i.a < s.heap.objs.size := fun i hi => Heap.lt_size (N _ (ht i hi)).1
  refine call_function_tree F.kind_min F.plain_min F.entry_min (F.args_min1 _) ?_
  show wpAny _ A.in1 (Builtin.Builtins.bindParams "min" ["key", "default"] 0 ⟨[], []⟩ >>= _) _ _ s
  refine wpAny_bind (wpAny_of_eq (show Builtin.Builtins.bindParams "min" ["key", "default"] 0 ⟨[], []⟩ = pure [none, none] from rfl) ?_)
  refine wpAny_bind (wpAny_pure ?_)
  refine wpAny_bind (wpAny_pyIter_list hl ?_)
  have up : ∀ b o, s.heap.get? b = some o → (s.heap.push { cls := .type "list_iterator", data := .fields #[.ref l, .int 0 0] }).get? b = some o := fun b o e => Heap.get?_push_of_some _ e
  have hI := Heap.get?_push_size s.heap (o := { cls := .type "list_iterator", data := .fields #[.ref l, .int 0 0] }) rfl
  have hsz : (s.heap.push { cls := .type "list_iterator", data := .fields #[.ref l, .int 0 0] }).objs.size = s.heap.objs.size + 1 := Heap.size_push _ _
  generalize s.heap.push { cls := .type "list_iterator", data := .fields #[.ref l, .int 0 0] } = H at up hI hsz ⊢
  refine wpAny_bind (wpAny_newObj_type ?_)
  rw [hname]
  have up2 : ∀ b o, H.get? b = some o → (H.push { cls := .type "list", dict := none, data := .seq ([] : List Value).toArray }).get? b = some o := fun b o e => Heap.get?_push_of_some _ e
  have hS := Heap.get?_push_size H (o := { cls := .type "list", dict := none, data := .seq ([] : List Value).toArray }) rfl
  have W := Walks.list (prog := prog) (w := w) (A := A.in1) hh s.heap.objs.size l (Nat.ne_of_lt hlt) (its.map fun i => Value.ref i.a).toArray
  have hat : ∀ i v, (its.map fun i => Value.ref i.a).toArray[i]? = some v → v = .ref (itAt its i).a ∧ itAt its i ∈ its := fun i v e => by
    simp only [List.getElem?_toArray, List.getElem?_map, Option.map_eq_some_iff] at e
    obtain ⟨r, hr, rfl⟩ := e
    have e2 : itAt its i = r := by unfold itAt; rw [List.getD_eq_getElem?_getD, hr]; rfl
    rw [e2]
    exact ⟨rfl, List.mem_of_getElem? hr⟩
  refine wpAny_pure ⟨plainId_quiet F.plain_min_loop _, min_first W (fun i j => decide ((itAt its i).c < (itAt its j).c ∨ ((itAt its i).c = (itAt its j).c ∧ (itAt its i).k < (itAt its j).k))) H.objs.size
    (G := fun h => ∀ i ∈ its, i.a ∉ [s.heap.objs.size] ∧ i.a ≠ H.objs.size ∧ h.get? i.a = some (tup2 i.c i.t i.k i.u)) (fun h h' g k i hi => ⟨(g i hi).1, (g i hi).2.1, k _ _ (g i hi).1 (g i hi).2.1 (g i hi).2.2⟩)
    (fun i j vi vj s' Q' E' g hi hj hq => ?_) (fun hm => ?_) (by simpa using hne) ⟨⟨_, up2 _ _ hI, rfl, rfl⟩, ⟨_, up2 _ _ (up _ _ (N _ hm).1), rfl, _, rfl⟩⟩ (fun i hi => ⟨?_, ?_, up2 _ _ (up _ _ (N _ (ht i hi)).1)⟩) hS fun v h' tk hv hk => ?_⟩
  · obtain ⟨rfl, mi⟩ := hat i vi hi
    obtain ⟨rfl, mj⟩ := hat j vj hj
    exact lt_tup2 (g _ mi).2.2 (g _ mj).2.2 hu hq
  · simp only [List.mem_cons, List.not_mem_nil, or_false] at hm
    rcases hm with e | e
    · exact Nat.ne_of_gt (hsz ▸ Nat.lt_succ_self _) e
    · exact Nat.ne_of_gt (hsz ▸ Nat.lt_succ_of_lt hlt) e
  · exact fun hm => Nat.ne_of_lt (hold i hi) (List.mem_singleton.mp hm)
  · exact Nat.ne_of_lt (hsz ▸ Nat.lt_succ_of_lt (hold i hi))
  · obtain ⟨rfl, mr⟩ := hat _ v hv
    obtain ⟨h1, h2⟩ := argBest_lex its (its.length - 1)
    have kk : ∀ b o, s.heap.get? b = some o → h'.get? b = some o := fun b o e => hk b o (fun q => Nat.ne_of_lt (Heap.lt_size e) (List.mem_singleton.mp q)) (Nat.ne_of_lt (hsz ▸ Nat.lt_succ_of_lt (Heap.lt_size e))) (up2 _ _ (up _ _ e))
    refine h h' _ tk (hF.grownK kk) (fun p hp => (List.mem_cons.mp hp).elim (fun e => e ▸ N.grown kk _ (ht _ mr)) (N.grown kk p)) mr fun i hi => ?_
    obtain ⟨j, hj, e⟩ := List.getElem_of_mem hi
    have e2 : itAt its j = i := by unfold itAt; rw [List.getD_eq_getElem?_getD, List.getElem?_eq_getElem hj, e]; rfl
    have q := h2 j (by omega)
    rw [e2] at q
    simpa using q
theorem of_its {its : List It} {r : It} {c : Nat} (hr : r ∈ its) (h : ∀ i ∈ its, c < i.a) : c < r.a := h r hr
theorem least_of {z0 z1 z2 z3 z4 : Lead} {s : Int} {a0 a1 a2 a3 a4 : Nat} {t0 t1 t2 t3 t4 u0 u1 u2 u3 u4 : Tok} {r : It}
    (hr : r ∈ [⟨a0, z0.b + s * z0.t, t0, 0, u0⟩, ⟨a1, z1.b + s * z1.t, t1, 1, u1⟩, ⟨a2, z2.b + s * z2.t, t2, 2, u2⟩, ⟨a3, z3.b + s * z3.t, t3, 3, u3⟩, (⟨a4, z4.b + s * z4.t, t4, 4, u4⟩ : It)])
    (hle : ∀ i ∈ [⟨a0, z0.b + s * z0.t, t0, 0, u0⟩, ⟨a1, z1.b + s * z1.t, t1, 1, u1⟩, ⟨a2, z2.b + s * z2.t, t2, 2, u2⟩, ⟨a3, z3.b + s * z3.t, t3, 3, u3⟩, (⟨a4, z4.b + s * z4.t, t4, 4, u4⟩ : It)], lexLe r.c r.k i.c i.k) :
    IsLeast (colZ z0 z1 z2 z3 z4 s) r.c r.k := by
  have hj : ∀ j : Int, 0 ≤ j → j < 5 → lexLe r.c r.k (colZ z0 z1 z2 z3 z4 s j) j := fun j h0 h5 => by
    simp only [List.forall_mem_cons] at hle
    obtain ⟨l0, l1, l2, l3, l4, _⟩ := hle
    rcases (by omega : j = 0 ∨ j = 1 ∨ j = 2 ∨ j = 3 ∨ j = 4) with rfl | rfl | rfl | rfl | rfl
    · exact l0
    · exact l1
    · exact l2
    · exact l3
    · exact l4
  simp only [List.mem_cons, List.not_mem_nil, or_false] at hr
  refine ⟨?_, ?_, ?_, hj⟩ <;> rcases hr with rfl | rfl | rfl | rfl | rfl <;> first | (dsimp only; omega) | rfl
theorem sub_newsT {prog : Program} {w : World} {A : Around} {E : Value → Shared → Prop} {s : Shared} {Q : Value → Shared → Prop} {value slice : PySem.Expr} {h₀ : Heap} {L D : Addr} {news : Led} {its : Array Value} {k : Int} {u : Tok} {v : Value} (N : News h₀ L s.heap news) (hm : (D, tupO its) ∈ news) (h0 : 0 ≤ k) (hfit : k < 2 ^ 63) (hx : nthV its.toList k.toNat = some v) (h : Q v s)
    (hs : subscripted slice false (.ref D) (.int k u) = operate [.ref D, .int k u] (getItem (.ref D) (.int k u)) := by with_unfolding_all rfl) :
    wpAny (model prog w) A (subscriptTail value slice (.ref D) (.int k u)) Q E s := by
  have e1 : its.toList[k.toNat]? = some v := by rw [← nthV_eq]; exact hx
  obtain ⟨hlt, _⟩ := List.getElem?_eq_some_iff.mp e1
  have hl : k.toNat < its.size := hlt
  refine item_tupleT (l := its.toList) (j := k.toNat) ⟨_, (N _ hm).1, rfl, 0, rfl⟩ (by omega) hfit ?_ e1 h hs
  unfold seqIndex?
  have h1 : ¬ k < 0 := by omega
  have h2 : k < (its.toList.length : Int) := by rw [Array.length_toList]; omega
  simp only [h1, if_false]
  exact if_pos (by rw [decide_eq_true h0, decide_eq_true h2]; rfl)
structure LeastS where
  en : Nat
  rd : List It
  rr : Led
  oc : Obj
  cv : Option Value
theorem off_gt {rr : Led} {c d : Nat} (h : ∀ p ∈ rr, c < p.1) (hd : d ≤ c) : ∀ p ∈ rr, p.1 ≠ d := fun p hp => Nat.ne_of_gt (Nat.lt_of_le_of_lt hd (h p hp))
theorem off_tup {rest : Led} {d : Nat} {o : Obj} {h₀ h : Heap} {L : Addr} {news : Led} (N : News h₀ L h news) (hm : (d, o) ∈ news) (hr : ∀ p ∈ rest, p ∈ news) (hc : ∀ p ∈ rest, p.2.cls = .type "tuple") (ho : Value.type "tuple" ≠ o.cls) : ∀ p ∈ rest, p.1 ≠ d :=
  fun p hp => news_ne N (hr p hp) hm (by rw [hc p hp]; exact ho)
section
theorem news_sub {h₀ h : Heap} {L : Addr} {news l : Led} (N : News h₀ L h news) (hl : ∀ p ∈ l, p ∈ news) : News h₀ L h l := fun p hp => N p (hl p hp)
theorem comp_end1 {h₀ : Heap} {L I C D T : Addr} {m : Str → Option Value} {s₁ : Shared} {oI oC oD oT : Obj} {S : Led → Prop} {rest : Value → Led → Prop} {y : Value} {h' : Heap} {tk : Nat} {r : Led} (F : Fr h₀ L h' m) (N : News h₀ L h' ((T, oT) :: (I, oI) :: (C, oC) :: (D, oD) :: r))
    (hT : (@Ne Nat T I) ∧ (@Ne Nat T C) ∧ (@Ne Nat T D)) (off : LCg.Off3 I C D r) (hS : S ((T, oT) :: r)) (k : rest y ((T, oT) :: r)) : LCg.CompEnd h₀ L m s₁ I oI C oC D oD S rest y { s₁ with heap := h', toks := tk } :=
  LCg.CompEnd.intro F N _ (List.forall_mem_cons.mpr ⟨.tail _ (.head _), List.forall_mem_cons.mpr ⟨.tail _ (.tail _ (.head _)), List.forall_mem_cons.mpr ⟨.tail _ (.tail _ (.tail _ (.head _))), List.forall_mem_cons.mpr ⟨.head _, fun p hp => .tail _ (.tail _ (.tail _ (.tail _ hp)))⟩⟩⟩⟩) ⟨hT, off⟩ hS k
local macro_rules | `(tactic| k_ne) => `(tactic| (refine neN ?_; (try dsimp only); first | (refine Offs.at (by with_reducible assumption) ?_; (simp; done)) | (refine Ne.symm (Offs.at (by with_reducible assumption) ?_); (simp; done)) | exact Nat.ne_of_gt (by omega) | exact Nat.ne_of_lt (by omega)))
local macro_rules | `(tactic| k_all) => `(tactic| first | exact off_gt (by with_reducible assumption) (by omega) | exact off_tup (by k_asm) (by k_mem) (by (repeat' (first | with_reducible assumption | exact in_self | refine in_tail ?_))) (by with_reducible assumption) (by intro h; cases h))
local macro_rules | `(tactic| walk_at "CompSrc") => `(tactic| (k_here; k_dflt (refine LCg.CompSrc.range (by rfl) (by k_asm) (by k_asm) (by assumption) (by first | decide | rfl) (by first | rfl | decide) (by first | size_fits | exact Nat.le_of_ble_eq_true rfl) ?_; intro g'; lcg_lit)))

theorem least_spec {w : World} {mean : ExcName → Option Value} {mg mb : Str → Option Value} {z0 z1 z2 z3 z4 : Lead} {sp e p0 p1 p2 p3 p4 : Nat} {u0 v0 u1 v1 u2 v2 u3 v3 u4 v4 : Tok} (ht0 : z0.t ≤ 3 ∧ z0.b ≤ 5) (ht1 : z1.t ≤ 3 ∧ z1.b ≤ 5) (ht2 : z2.t ≤ 3 ∧ z2.b ≤ 5) (ht3 : z3.t ≤ 3 ∧ z3.b ≤ 5) (ht4 : z4.t ≤ 3 ∧ z4.b ≤ 5) :
  CodeSpec w mean mg mb 158 [.ref sp] [(sp, listOf #[.ref p0, .ref p1, .ref p2, .ref p3, .ref p4] e), (p0, tup2 z0.t u0 z0.b v0), (p1, tup2 z1.t u1 z1.b v1), (p2, tup2 z2.t u2 z2.b v2), (p3, tup2 z3.t u3 z3.b v3), (p4, tup2 z4.t u4 z4.b v4)] [] 10 120
   (fun r l => ∃ (ra en : Nat) (r0 r1 r2 r3 r4 r5 : It), r = .ref ra ∧ l = [(ra, listOf #[.ref r0.a, .ref r1.a, .ref r2.a, .ref r3.a, .ref r4.a, .ref r5.a] en), r0.ent, r1.ent, r2.ent, r3.ent, r4.ent, r5.ent] ∧
     IsLeast (colZ z0 z1 z2 z3 z4 1) r0.c r0.k ∧ IsLeast (colZ z0 z1 z2 z3 z4 2) r1.c r1.k ∧ IsLeast (colZ z0 z1 z2 z3 z4 3) r2.c r2.k ∧ IsLeast (colZ z0 z1 z2 z3 z4 4) r3.c r3.k ∧ IsLeast (colZ z0 z1 z2 z3 z4 5) r4.c r4.k ∧ IsLeast (colZ z0 z1 z2 z3 z4 6) r5.c r5.k) := by
  k_with_none
  k_with "own" => ((with_reducible show LCg.CompRest _ _ _ _ _ _ _ _ _ _ _ _ _ _ _ _ _ _ _); first | with_reducible ((with_unfolding_all first | (refine LCg.CompRest.succ ?_; intro v' I' oI' C' oC' D' m' h' tk' E' hv' hC' hx' F' N' off' ne'; obtain ⟨t9', hv9'⟩ := hv'; subst hv9') | refine LCg.CompRest.zero ?_)) | ((with_unfolding_all first | (refine LCg.CompRest.succ ?_; intro v' I' oI' C' oC' D' m' h' tk' E' hv' hC' hx' F' N' off' ne'; obtain ⟨t9', hv9'⟩ := hv'; subst hv9') | refine LCg.CompRest.zero ?_)); walk_say "OWN CompRest")
  k_with "own" => ((with_reducible show LCg.CompEnd _ _ _ _ _ _ _ _ _ _ _ _ _ _); first | with_reducible ((k_dflt (refine comp_end1 (by k_asm) (by k_asm) ⟨Nat.ne_of_gt (by omega), Nat.ne_of_gt (by omega), Nat.ne_of_gt (by omega)⟩ (by with_reducible assumption) trivial ?_))) | ((k_dflt (refine comp_end1 (by k_asm) (by k_asm) ⟨Nat.ne_of_gt (by omega), Nat.ne_of_gt (by omega), Nat.ne_of_gt (by omega)⟩ (by with_reducible assumption) trivial ?_))); walk_say "OWN CompEnd")
  k_with "own" => ((with_reducible show LCg.FinE _ _ _ _ _ _ _); first | with_reducible (((unfold LCg.FinE); intro D' h' tk' F' N' o1'; (try simp only [List.nil_append, List.cons_append] at N'); (try dsimp only))) | (((unfold LCg.FinE); intro D' h' tk' F' N' o1'; (try simp only [List.nil_append, List.cons_append] at N'); (try dsimp only))); walk_say "OWN FinE")
  k_with "own" => ((with_reducible show wpAny _ _ (subscriptTail (Expr.Name _ _) (Expr.Name _ _) (Value.ref _) (Value.int _ _)) _ _ _); first | with_reducible ((k_here; k_dflt (refine' sub_news ?N_w ?m_w ?a_w ?b_w ?x_w ?_ ?s_w; (case N_w => k_asm); (case m_w => k_mem); (case a_w => decide); (case b_w => decide); (case x_w => rfl); (case s_w => with_unfolding_all rfl); k_whole))) | ((k_here; k_dflt (refine' sub_news ?N_w ?m_w ?a_w ?b_w ?x_w ?_ ?s_w; (case N_w => k_asm); (case m_w => k_mem); (case a_w => decide); (case b_w => decide); (case x_w => rfl); (case s_w => with_unfolding_all rfl); k_whole))); walk_say "OWN subscriptTail Name Name ref int")
  k_with "own" => ((with_reducible show wpAny _ _ (subscriptTail (Expr.Name _ _) (Expr.Constant _ _ _) (Value.ref _) (Value.int _ _)) _ _ _); first | with_reducible ((k_here; k_dflt (refine' sub_news ?N_w ?m_w ?a_w ?b_w ?x_w ?_ ?s_w; (case N_w => k_asm); (case m_w => k_mem); (case a_w => decide); (case b_w => decide); (case x_w => rfl); (case s_w => with_unfolding_all rfl); k_whole))) | ((k_here; k_dflt (refine' sub_news ?N_w ?m_w ?a_w ?b_w ?x_w ?_ ?s_w; (case N_w => k_asm); (case m_w => k_mem); (case a_w => decide); (case b_w => decide); (case x_w => rfl); (case s_w => with_unfolding_all rfl); k_whole))); walk_say "OWN subscriptTail Name Constant ref int")
  k_with "own" => ((with_reducible show wpAny _ _ (subscriptTail (Expr.Subscript _ _ _) _ _ _) _ _ _); first | with_reducible ((k_here; k_dflt (refine' sub_newsT ?N_w ?m_w ?a_w ?b_w ?x_w ?_ ?s_w; (case N_w => k_asm); (case m_w => k_mem); (case a_w => decide); (case b_w => decide); (case x_w => rfl); (case s_w => with_unfolding_all rfl); k_whole))) | ((k_here; k_dflt (refine' sub_newsT ?N_w ?m_w ?a_w ?b_w ?x_w ?_ ?s_w; (case N_w => k_asm); (case m_w => k_mem); (case a_w => decide); (case b_w => decide); (case x_w => rfl); (case s_w => with_unfolding_all rfl); k_whole))); walk_say "OWN subscriptTail Subscript")
  k_with "own" => ((with_reducible show wpAny _ _ (subscriptTail (Expr.Name _ _) (Expr.Constant _ _ _) (Value.ref _) (Value.int _ _)) _ _ _); first | with_reducible (first | (k_here; k_dflt (refine' sub_news ?N_w ?m_w ?a_w ?b_w ?x_w ?_ ?s_w; (case N_w => k_asm); (case m_w => k_mem); (case a_w => decide); (case b_w => decide); (case x_w => rfl); (case s_w => with_unfolding_all rfl); k_whole)) | (k_here; k_dflt (refine' sub_newsT ?N_w ?m_w ?a_w ?b_w ?x_w ?_ ?s_w; (case N_w => k_asm); (case m_w => k_mem); (case a_w => decide); (case b_w => decide); (case x_w => rfl); (case s_w => with_unfolding_all rfl); k_whole))) | (first | (k_here; k_dflt (refine' sub_news ?N_w ?m_w ?a_w ?b_w ?x_w ?_ ?s_w; (case N_w => k_asm); (case m_w => k_mem); (case a_w => decide); (case b_w => decide); (case x_w => rfl); (case s_w => with_unfolding_all rfl); k_whole)) | (k_here; k_dflt (refine' sub_newsT ?N_w ?m_w ?a_w ?b_w ?x_w ?_ ?s_w; (case N_w => k_asm); (case m_w => k_mem); (case a_w => decide); (case b_w => decide); (case x_w => rfl); (case s_w => with_unfolding_all rfl); k_whole))); walk_say "OWN subscriptTail Name Constant ref int")
  unfold CodeSpec; k_fill; intro dp un gd cn cs a ccd cl outer A₀ base h₀ L m s R B F X N T hk hdp hu hret
  k_dflt (refine' spec_codeC ?k1 ?k2 ?k3 ?k4 ?k5 ?kA ?kF ?kK ?k6 ?k7 ?k8 ?k9 ?kB ?kD ?_ ?c2 ?c3 ?c4; (case kA => exact rfl); (case kF => exact rfl); (case kK => assumption); (case k1 => k_asm); (case k2 => k_asm); (case k3 => k_asm); (case k4 => k_asm); (case k5 => k_asm); (case k6 => k_is); (case k7 => k_is); (case k8 => ktr_room); (case k9 => exact BindsTo.of_eq rfl); (case kB => exact rfl); (case kD => decide +kernel); (case c2 => exact rfl); (case c3 => exact rfl); (case c4 => exact rfl); k_whole; intro g' L' h' tk' cells' FG' F' N' Y' B' X' T' l1 hkeep; (try k_lt l1); k_cells Y'; (try simp only [List.cons_append, List.nil_append] at N'); (try dsimp only); (try k_lift B'); (try k_fold))
  repeat' ((fail_if_success (with_reducible show wpAny _ _ (exec (Stmt.For (Expr.Name (Str.ofString "size") _) _ _ _ _) _) _ _ _)); first | (k_unfold; (try dsimp only)) | (k_end; wrow_close) | k_extra "own" | walk1 | (dsimp only; first | k_extra "own" | walk1) | (leave1; walk_say "STEP leave1"; try dsimp only) | fail "no step")
  k_dflt (refine For_invTF (by k_asm) ?_ (by intro _; rfl))
  repeat' ((fail_if_success (with_reducible show wpAny _ _ (pyIter _) _ _ _)); first | (k_unfold; (try dsimp only)) | (k_end; wrow_close) | k_extra "own" | walk1 | (dsimp only; first | k_extra "own" | walk1) | (leave1; walk_say "STEP leave1"; try dsimp only) | fail "no step")
  rename IsRange _ _ _ _ _ _ _ _ => hR
  refine' packP (σ := Nat × Obj × Obj) (fun z => [(Str.ofString "least", .ref z.1)])
    (fun z => [(z.1, listOf #[] 0), (L' + 1 + 1, z.2.1), (L' + 1, z.2.2), (sp, listOf #[.ref p0, .ref p1, .ref p2, .ref p3, .ref p4] e), (p0, tup2 z0.t u0 z0.b v0), (p1, tup2 z1.t u1 z1.b v1), (p2, tup2 z2.t u2 z2.b v2), (p3, tup2 z3.t u3 z3.b v3), (p4, tup2 z4.t u4 z4.b v4)])
    (fun z => L' + 2 < z.1 ∧ z.2.1.data = .cell none ∧ z.2.2.data = .cell (some (.ref sp))) ?pF ?pN ⟨_, _, _⟩ ?pm ?pn ?pp ?_
  case pF => k_asm
  case pN => k_asm
  case pn => (dsimp only; exact (List.forall_mem_cons.mpr ⟨by k_mem, (List.forall_mem_cons.mpr ⟨by k_mem, (List.forall_mem_cons.mpr ⟨by k_mem, (List.forall_mem_cons.mpr ⟨by k_mem, (List.forall_mem_cons.mpr ⟨by k_mem, (List.forall_mem_cons.mpr ⟨by k_mem, (List.forall_mem_cons.mpr ⟨by k_mem, (List.forall_mem_cons.mpr ⟨by k_mem, (List.forall_mem_cons.mpr ⟨by k_mem, (List.forall_mem_nil _)⟩)⟩)⟩)⟩)⟩)⟩)⟩)⟩)⟩))
  case pm => kst_all
  case pp => exact ⟨(show @LT.lt Nat _ _ _ from by omega), by assumption, by assumption⟩
  rintro ⟨la, o1, o2⟩ m1 hm1 ⟨lla, d1, d2⟩ F2 N2
  dsimp only at hm1 lla d1 d2 N2
  have lla' : @LT.lt Nat _ (L' + 2) la := lla
  have lts : Offs la [L' + 1 + 1, L' + 1, sp, p0, p1, p2, p3, p4] := ⟨by
    simp only [List.forall_mem_cons]
    exact ⟨Nat.ne_of_lt (by omega), Nat.ne_of_lt (by omega), Nat.ne_of_lt (by omega), Nat.ne_of_lt (by omega), Nat.ne_of_lt (by omega), Nat.ne_of_lt (by omega), Nat.ne_of_lt (by omega), Nat.ne_of_lt (by omega), fun _ h => nomatch h⟩⟩
  refine iter_rangeT (n := 6) (σ := LeastS)
    (fun i z => (la, listOf (z.rd.map fun r => Value.ref r.a).toArray z.en) :: (L' + 1 + 1, z.oc) :: (L' + 1, o2) :: (sp, listOf #[.ref p0, .ref p1, .ref p2, .ref p3, .ref p4] e) :: (p0, tup2 z0.t u0 z0.b v0) :: (p1, tup2 z1.t u1 z1.b v1) :: (p2, tup2 z2.t u2 z2.b v2) :: (p3, tup2 z3.t u3 z3.b v3) :: (p4, tup2 z4.t u4 z4.b v4) :: z.rr)
    (fun i z => [(Str.ofString "least", .ref la)])
    (fun i z => z.oc.data = .cell z.cv ∧ z.rd.length = i ∧ (∀ (j : Nat) (r : It), z.rd[j]? = some r → IsLeast (colZ z0 z1 z2 z3 z4 (1 + (j : Int))) r.c r.k) ∧
      (∀ r ∈ z.rd, r.ent ∈ z.rr) ∧ (∀ p ∈ z.rr, p.2.cls = .type "tuple") ∧ (∀ p ∈ z.rr, L' + 2 < p.1))
    (by rfl) hR (range_small (by decide) (by decide) (by decide) (by decide)) (range_size (.inl ⟨by decide, by decide⟩)) F2 N2 (fun _ _ => rfl) ⟨⟨0, [], [], o1, none⟩, rfl, hm1,
      ⟨d1, rfl, (fun j r h => by simp at h), (fun r h => by simp at h), (fun _ h => nomatch h), (fun _ h => nomatch h)⟩⟩ ?step ?done
  case done =>
    intro z v h tk hP F3 N3
    obtain ⟨en, rd, rr, oc, cv⟩ := z
    dsimp only [kstB] at hP F3 N3
    obtain ⟨hoc, hlen, hleast, hrd, hcl, hgt⟩ := hP
    obtain ⟨r0, r1, r2, r3, r4, r5, rfl⟩ := six rd hlen
    have l0 := hleast 0 r0 rfl; have l1 := hleast 1 r1 rfl; have l2 := hleast 2 r2 rfl; have l3 := hleast 3 r3 rfl; have l4 := hleast 4 r4 rfl; have l5 := hleast 5 r5 rfl
    have m0 := hrd r0 (by simp); have m1 := hrd r1 (by simp); have m2 := hrd r2 (by simp); have m3 := hrd r3 (by simp); have m4 := hrd r4 (by simp); have m5 := hrd r5 (by simp)
    simp only [List.map_cons, List.map_nil] at N3
    clear hlen hleast hrd hcl hgt
    dsimp only
    repeat' ( first | (k_unfold; (try dsimp only)) | (k_end; wrow_close) | k_extra "own" | walk1 | (dsimp only; first | k_extra "own" | walk1) | (leave1; walk_say "STEP leave1"; try dsimp only) | fail "no step")
    refine' ret_end (sub' := [(la, listOf #[.ref r0.a, .ref r1.a, .ref r2.a, .ref r3.a, .ref r4.a, .ref r5.a] en), r0.ent, r1.ent, r2.ent, r3.ent, r4.ent, r5.ent]) (Q := fun r s' => R (.ok (.ret r)) s') hret N hkeep ?rF ?rN ?rG ?rM ?rin ?rsub ?rp
    case rF => k_asm
    case rN => k_asm
    case rG => k_asm
    case rM => k_asm
    case rin => exact List.forall_mem_cons.mpr ⟨by k_mem, tail6 (by (repeat' (first | with_reducible assumption | exact in_self | refine in_tail ?_))) m0 m1 m2 m3 m4 m5⟩
    case rsub => exact (List.forall_mem_cons.mpr ⟨.inr (by k_mem), (List.forall_mem_cons.mpr ⟨.inr (by k_mem), (List.forall_mem_cons.mpr ⟨.inr (by k_mem), (List.forall_mem_cons.mpr ⟨.inr (by k_mem), (List.forall_mem_cons.mpr ⟨.inr (by k_mem), (List.forall_mem_cons.mpr ⟨.inr (by k_mem), (List.forall_mem_nil _)⟩)⟩)⟩)⟩)⟩)⟩)
    case rp => exact ⟨la, en, r0, r1, r2, r3, r4, r5, rfl, rfl, l0, l1, l2, l3, l4, l5⟩
  case step =>
    intro s₁ I i z v t h tk hi hP ho F3 N3
    obtain ⟨en, rd, rr, oc, cv⟩ := z
    dsimp only [kstB, It.ent] at hP ho F3 N3 ⊢
    obtain ⟨hoc, hlen, hleast, hrd, hcl, hgt⟩ := hP
    have oI : Offs I [la, L' + 1 + 1, L' + 1, sp, p0, p1, p2, p3, p4] := ⟨fun a ha => by
      simp only [List.mem_cons, List.not_mem_nil, or_false] at ha
      rcases ha with rfl | rfl | rfl | rfl | rfl | rfl | rfl | rfl | rfl <;> first | exact ho (_, _) (by k_mem)⟩
    repeat' ((fail_if_success (with_reducible show wpAny _ _ (PySem.call (Value.builtin "min") _) _ _ _)); (fail_if_success (with_reducible show UnrEnd _ _ _ _ _ _ _)); (fail_if_success (with_reducible show KswEnd _ _ _ _ _ _ _ _ _ _ _ _)); first | (k_unfold; (try dsimp only)) | (k_end; wrow_close) | k_extra "own" | walk1 | (dsimp only; first | k_extra "own" | walk1) | (leave1; walk_say "STEP leave1"; try dsimp only) | fail "no step")
    k_dflt (refine' min_tups (its := [⟨_, z0.b + (1 + (i : Int)) * z0.t, _, 0, _⟩, ⟨_, z1.b + (1 + (i : Int)) * z1.t, _, 1, _⟩, ⟨_, z2.b + (1 + (i : Int)) * z2.t, _, 2, _⟩, ⟨_, z3.b + (1 + (i : Int)) * z3.t, _, 3, _⟩, ⟨_, z4.b + (1 + (i : Int)) * z4.t, _, 4, _⟩]) (n := 5) ?mu ?mh ?mF ?mN ?mm ?mt ?mne ?_; (case mF => k_asm); (case mN => k_asm); (case mm => k_mem); (case mt => exact (List.forall_mem_cons.mpr ⟨by k_mem, (List.forall_mem_cons.mpr ⟨by k_mem, (List.forall_mem_cons.mpr ⟨by k_mem, (List.forall_mem_cons.mpr ⟨by k_mem, (List.forall_mem_cons.mpr ⟨by k_mem, (List.forall_mem_nil _)⟩)⟩)⟩)⟩)⟩)); (case mu => ktr_units); (case mh => rfl); (case mne => exact Nat.succ_pos _))
    intro h9 r tk9 F9 N9 hr9 hle9
    have hrl := least_of hr9 hle9
    have hrg : L' + 2 < r.a := of_its hr9 (List.forall_mem_cons.mpr ⟨(show @LT.lt Nat _ _ _ from by dsimp only; omega), (List.forall_mem_cons.mpr ⟨(show @LT.lt Nat _ _ _ from by dsimp only; omega), (List.forall_mem_cons.mpr ⟨(show @LT.lt Nat _ _ _ from by dsimp only; omega), (List.forall_mem_cons.mpr ⟨(show @LT.lt Nat _ _ _ from by dsimp only; omega), (List.forall_mem_cons.mpr ⟨(show @LT.lt Nat _ _ _ from by dsimp only; omega), (List.forall_mem_nil _)⟩)⟩)⟩)⟩)⟩)
    clear hr9 hle9
    rename Fr _ _ _ _ => F8
    have N8 := news_sub N9 (l := (I, itR (1 + ((i + 1 : Nat) : Int)) (((6 : Nat) : Int) - ((i + 1 : Nat) : Int))) :: (la, listOf (rd.map fun r => Value.ref r.a).toArray en) :: (L' + 1 + 1, _) :: (L' + 1, o2) :: (sp, listOf #[.ref p0, .ref p1, .ref p2, .ref p3, .ref p4] e) :: (p0, tup2 z0.t u0 z0.b v0) :: (p1, tup2 z1.t u1 z1.b v1) :: (p2, tup2 z2.t u2 z2.b v2) :: (p3, tup2 z3.t u3 z3.b v3) :: (p4, tup2 z4.t u4 z4.b v4) :: r.ent :: rr) (List.forall_mem_cons.mpr ⟨by k_mem, (List.forall_mem_cons.mpr ⟨by k_mem, (List.forall_mem_cons.mpr ⟨by k_mem, (List.forall_mem_cons.mpr ⟨by k_mem, (List.forall_mem_cons.mpr ⟨by k_mem, (List.forall_mem_cons.mpr ⟨by k_mem, (List.forall_mem_cons.mpr ⟨by k_mem, (List.forall_mem_cons.mpr ⟨by k_mem, (List.forall_mem_cons.mpr ⟨by k_mem, (List.forall_mem_cons.mpr ⟨by k_mem, (List.forall_mem_cons.mpr ⟨by k_mem, (by (repeat' (first | with_reducible assumption | exact in_self | refine in_tail ?_)))⟩)⟩)⟩)⟩)⟩)⟩)⟩)⟩)⟩)⟩)⟩)
    clear N9
    have hcl' : ∀ p ∈ r.ent :: rr, p.2.cls = .type "tuple" := List.forall_mem_cons.mpr ⟨rfl, hcl⟩
    have hgt' : ∀ p ∈ r.ent :: rr, L' + 2 < p.1 := List.forall_mem_cons.mpr ⟨hrg, hgt⟩
    clear hcl hgt
    (try dsimp only)
    repeat' ((fail_if_success (with_reducible show wpAny _ _ (PySem.call (Value.builtin "list.append") _) _ _ _)); (fail_if_success (with_reducible show UnrEnd _ _ _ _ _ _ _)); (fail_if_success (with_reducible show KswEnd _ _ _ _ _ _ _ _ _ _ _ _)); first | (k_unfold; (try dsimp only)) | (k_end; wrow_close) | k_extra "own" | walk1 | (dsimp only; first | k_extra "own" | walk1) | (leave1; walk_say "STEP leave1"; try dsimp only) | fail "no step")
    k_dflt (refine' append_K (by k_asm) N8 (Upd.tail (Ne.symm (oI.at (by simp))) (Upd.head ?uo)) ?_ ?uz)
    case uo => exact (List.forall_mem_cons.mpr ⟨lts.at (by simp), (List.forall_mem_cons.mpr ⟨lts.at (by simp), (List.forall_mem_cons.mpr ⟨lts.at (by simp), (List.forall_mem_cons.mpr ⟨lts.at (by simp), (List.forall_mem_cons.mpr ⟨lts.at (by simp), (List.forall_mem_cons.mpr ⟨lts.at (by simp), (List.forall_mem_cons.mpr ⟨lts.at (by simp), (List.forall_mem_cons.mpr ⟨lts.at (by simp), (off_tup N8 (by k_mem) (by (repeat' (first | with_reducible assumption | exact in_self | refine in_tail ?_))) hcl' (by simp [tupO]))⟩)⟩)⟩)⟩)⟩)⟩)⟩)⟩)
    case uz => (simp only [List.size_toArray, List.length_map]; rw [hlen, sizeLine_eq]; omega)
    intro h7 F7 N7
    (try dsimp only)
    repeat' ( (fail_if_success (with_reducible show UnrEnd _ _ _ _ _ _ _)); (fail_if_success (with_reducible show KswEnd _ _ _ _ _ _ _ _ _ _ _ _)); first | (k_unfold; (try dsimp only)) | (k_end; wrow_close) | k_extra "own" | walk1 | (dsimp only; first | k_extra "own" | walk1) | (leave1; walk_say "STEP leave1"; try dsimp only) | fail "no step")
    rename Obj.data _ = _ => hoc'
    refine' unr_end2 (⟨en + 1, rd ++ [r], r.ent :: rr, _, some (.int (1 + (i : Int)) t)⟩ : LeastS) (by k_asm) N7 (by k_mem) ?es ?eo (by kst_all) ?ep
    case es =>
      dsimp only
      rw [show (List.map (fun r : It => Value.ref r.a) (rd ++ [r])).toArray = (List.map (fun r : It => Value.ref r.a) rd).toArray.push (.ref r.a) from by simp]
      exact (List.forall_mem_cons.mpr ⟨by k_mem, (List.forall_mem_cons.mpr ⟨by k_mem, (List.forall_mem_cons.mpr ⟨by k_mem, (List.forall_mem_cons.mpr ⟨by k_mem, (List.forall_mem_cons.mpr ⟨by k_mem, (List.forall_mem_cons.mpr ⟨by k_mem, (List.forall_mem_cons.mpr ⟨by k_mem, (List.forall_mem_cons.mpr ⟨by k_mem, (List.forall_mem_cons.mpr ⟨by k_mem, (by (repeat' (first | with_reducible assumption | exact in_self | refine in_tail ?_)))⟩)⟩)⟩)⟩)⟩)⟩)⟩)⟩)⟩)
    case eo =>
      dsimp only
      exact (List.forall_mem_cons.mpr ⟨oI.at (by simp), (List.forall_mem_cons.mpr ⟨oI.at (by simp), (List.forall_mem_cons.mpr ⟨oI.at (by simp), (List.forall_mem_cons.mpr ⟨oI.at (by simp), (List.forall_mem_cons.mpr ⟨oI.at (by simp), (List.forall_mem_cons.mpr ⟨oI.at (by simp), (List.forall_mem_cons.mpr ⟨oI.at (by simp), (List.forall_mem_cons.mpr ⟨oI.at (by simp), (List.forall_mem_cons.mpr ⟨oI.at (by simp), (off_tup N7 (by k_mem) (by (repeat' (first | with_reducible assumption | exact in_self | refine in_tail ?_))) hcl' (by simp [itR]))⟩)⟩)⟩)⟩)⟩)⟩)⟩)⟩)⟩)
    case ep =>
      dsimp only
      refine ⟨hoc', by simp [hlen], ?_, ?_, hcl', hgt'⟩
      · intro j q hj
        rcases Nat.lt_or_ge j rd.length with hl | hl
        · rw [List.getElem?_append_left hl] at hj
          exact hleast j q hj
        · rw [List.getElem?_append_right hl] at hj
          have e0 : j - rd.length = 0 := by
            rcases Nat.eq_zero_or_pos (j - rd.length) with h | h
            · exact h
            · rw [List.getElem?_eq_none (by show 1 ≤ j - rd.length; omega)] at hj
              cases hj
          rw [e0] at hj
          cases hj
          have ej : j = i := by omega
          subst ej
          exact hrl
      · intro q hq
        rcases List.mem_append.mp hq with h | h
        · exact .tail _ (hrd q h)
        · rw [List.mem_singleton.mp h]; exact .head _
end
/-- t capital letters, then b small ones -/
def waStr (t b : Nat) : Str := ⟨(List.replicate t 65 ++ List.replicate b 97).toArray⟩
theorem wa_len (t b : Nat) : (waStr t b).length = t + b := by simp [waStr, Str.length]
theorem wa_eq_all : ∀ t < 4, ∀ b < 6, ∀ t' < 4, ∀ b' < 6, (waStr t b == waStr t' b') = (decide (t = t') && decide (b = b')) := by decide +kernel
theorem wa_from_all : ∀ t < 4, ∀ b < 6, ∀ p < 9, Txt.slice (waStr t b) (some ((p : Nat) : Int)) none = waStr (t - p) (b - (p - t)) := by decide +kernel
theorem wa_upto_all : ∀ t < 4, ∀ b < 6, ∀ p < 9, 0 < p → Txt.slice (waStr t b) none (some (-((p : Nat) : Int))) = waStr (t - (p - b)) (b - p) := by decide +kernel
theorem wa_whole_all : ∀ t < 4, ∀ b < 6, Txt.slice (waStr t b) none none = waStr t b := by decide +kernel
theorem wa_at_all : ∀ t < 4, ∀ b < 6, ∀ p < 9, p < t + b → (seqIndex? ((p : Nat) : Int) (waStr t b).length).bind ((waStr t b).cps[·]?) = some (if p < t then 65 else 97) := by decide +kernel
theorem wa_back_all : ∀ t < 4, ∀ b < 6, ∀ p < 9, p < t + b → (seqIndex? (-((p : Nat) : Int) - 1) (waStr t b).length).bind ((waStr t b).cps[·]?) = some (if p < b then 97 else 65) := by decide +kernel
section
variable {prog : Program} {w : World} {A : Around} {E : Value → Shared → Prop} {s : Shared} {value slice : PySem.Expr} {x y : Str} {t u : Tok} {h₀ : Heap} {L : Addr} {m : Str → Option Value} {news : Led} {Q : Value → Shared → Prop} {a b : Nat}
theorem wa_room (ha : a < 4) (hb : b < 6) : (waStr a b).length ≤ sizeLine := by rw [wa_len, sizeLine_eq]; omega
theorem sl_from {i : Int} {ui : Tok} (hF : Fr h₀ L s.heap m) (hN : News h₀ L s.heap news) (e : Txt.slice x (some i) none = y) (hsz : x.length ≤ sizeLine) (h : ∀ h' t' k, Fr h₀ L h' m → News h₀ L h' news → Q (.str y t') { s with heap := h', toks := k })
    (hs : subscripted slice false (.str x t) (.ref s.heap.objs.size) = operate [.ref s.heap.objs.size, .str x t] (getItem (.str x t) (.ref s.heap.objs.size)) := by with_unfolding_all rfl)
    (ht : ∀ r, letTemporaryGo value (.str x t) r = pure () := by intro _; with_unfolding_all rfl) :
    wpAny (model prog w) A (subscriptTail value slice (.str x t) (.ref s.heap.objs.size)) Q E { s with heap := s.heap.push { cls := .type "slice", data := .fields #[.int i ui, .none, .none] } } :=
  slice_strN_sn hF hN (fun h' t' k a b => e ▸ h h' t' k a b) hs ht hsz
theorem sl_upto {i : Int} {ui : Tok} (hF : Fr h₀ L s.heap m) (hN : News h₀ L s.heap news) (e : Txt.slice x none (some i) = y) (hsz : x.length ≤ sizeLine) (h : ∀ h' t' k, Fr h₀ L h' m → News h₀ L h' news → Q (.str y t') { s with heap := h', toks := k })
    (hs : subscripted slice false (.str x t) (.ref s.heap.objs.size) = operate [.ref s.heap.objs.size, .str x t] (getItem (.str x t) (.ref s.heap.objs.size)) := by with_unfolding_all rfl)
    (ht : ∀ r, letTemporaryGo value (.str x t) r = pure () := by intro _; with_unfolding_all rfl) :
    wpAny (model prog w) A (subscriptTail value slice (.str x t) (.ref s.heap.objs.size)) Q E { s with heap := s.heap.push { cls := .type "slice", data := .fields #[.none, .int i ui, .none] } } :=
  slice_strN_ns hF hN (fun h' t' k a b => e ▸ h h' t' k a b) hs ht hsz
theorem sl_whole (hF : Fr h₀ L s.heap m) (hN : News h₀ L s.heap news) (e : Txt.slice x none none = y) (hsz : x.length ≤ sizeLine) (h : ∀ h' t' k, Fr h₀ L h' m → News h₀ L h' news → Q (.str y t') { s with heap := h', toks := k })
    (hs : subscripted slice false (.str x t) (.ref s.heap.objs.size) = operate [.ref s.heap.objs.size, .str x t] (getItem (.str x t) (.ref s.heap.objs.size)) := by with_unfolding_all rfl)
    (ht : ∀ r, letTemporaryGo value (.str x t) r = pure () := by intro _; with_unfolding_all rfl) :
    wpAny (model prog w) A (subscriptTail value slice (.str x t) (.ref s.heap.objs.size)) Q E { s with heap := s.heap.push { cls := .type "slice", data := .fields #[.none, .none, .none] } } :=
  slice_strN_nn hF hN (fun h' t' k a b => e ▸ h h' t' k a b) hs ht hsz
theorem wa_truthy {Q : Bool → Shared → Prop} (ha : a < 4) (hb : b < 6) (h : ∀ k, Q (decide (0 < a + b)) { s with toks := k }) : wpAny (model prog w) A (truthy (.str (waStr a b) t)) Q E s := by
  refine P.truthy_str (by rw [wa_len]; omega) ?_
  have e : (((waStr a b).length : Int) != 0) = decide (0 < a + b) := by
    rw [wa_len]
    rcases Nat.eq_zero_or_pos (a + b) with h | h
    · rw [h]; rfl
    · rw [decide_eq_true h, bne_iff_ne]; omega
  rw [e]
  exact h _
theorem wa_item {i : Int} {c : Nat} (hc : (seqIndex? i x.length).bind (x.cps[·]?) = some c) (h1 : -(2 ^ 63 : Int) ≤ i) (h2 : i < 2 ^ 63) (h : ∀ t' k, Q (.str ⟨#[c]⟩ t') { s with toks := k })
    (hs : subscripted slice false (.str x t) (.int i u) = operate [.str x t, .int i u] (getItem (.str x t) (.int i u)) := by with_unfolding_all rfl) : wpAny (model prog w) A (subscriptTail value slice (.str x t) (.int i u)) Q E s :=
  tail_any (typeIs_str s x t) slot_str_getitem.lookup (getItem_str (by rw [decide_eq_false (by omega), decide_eq_false (by omega)]; rfl) hc (h _ _)) hs
theorem chr_eq {c d : Nat} (h : Q (.bool (decide (c = d))) s) : wpAny (model prog w) A (compareOp .Eq (.str ⟨#[c]⟩ t) (.str ⟨#[d]⟩ u)) Q E s := by
  refine eq_str ?_
  have e : ((⟨#[c]⟩ : Str) == ⟨#[d]⟩) = decide (c = d) := by
    by_cases hc : c = d
    · subst hc; simp
    · rw [decide_eq_false hc]
      simp [hc]
  rw [e]
  exact h
end
theorem chr_iff {p q : Prop} [Decidable p] [Decidable q] : ((if p then 65 else 97) = (if q then 65 else (97 : Nat))) ↔ (p ↔ q) := by
  by_cases hp : p <;> by_cases hq : q <;> simp [hp, hq]
theorem chr_iff' {p q : Prop} [Decidable p] [Decidable q] : ((if p then 97 else 65) = (if q then 97 else (65 : Nat))) ↔ (p ↔ q) := by
  by_cases hp : p <;> by_cases hq : q <;> simp [hp, hq]
section
variable {prog : Program} {w : World} {A : Around} {E : Value → Shared → Prop} {s : Shared} {t : Tok} {Q : Value → Shared → Prop} {a b : Nat}
theorem wa_len_call (ha : a < 4) (hb : b < 6) (h : ∀ u k, Q (.int ((a : Int) + (b : Int)) u) { s with toks := k }) : wpAny (model prog w) A (call (.builtin "len") [.str (waStr a b) t]) Q E s := by
  refine len_str (by rw [wa_len]; omega) ?_
  rw [wa_len, Int.natCast_add]
  exact h _ _
end
/-- n times one letter -/
def oneS (c n : Nat) : Str := ⟨(List.replicate n c).toArray⟩
theorem wa_caps (n : Nat) : waStr n 0 = oneS 65 n := by simp [waStr, oneS]
theorem wa_smalls (n : Nat) : waStr 0 n = oneS 97 n := by simp [waStr, oneS]
theorem one_len (c n : Nat) : (oneS c n).length = n := by simp [oneS, Str.length]
section
variable {prog : Program} {w : World} {A : Around} {E : Value → Shared → Prop} {s : Shared} {value slice : PySem.Expr} {t u : Tok} {Q : Value → Shared → Prop} {c n : Nat}
theorem one_len_call (hn : n < 9) (h : ∀ u k, Q (.int (n : Int) u) { s with toks := k }) : wpAny (model prog w) A (call (.builtin "len") [.str (oneS c n) t]) Q E s := by
  refine len_str (by rw [one_len]; omega) ?_
  rw [one_len]
  exact h _ _
theorem one_item {i : Int} (h1 : 0 ≤ i) (h2 : i < n) (hn : n < 9) (h : ∀ t' k, Q (.str ⟨#[c]⟩ t') { s with toks := k })
    (hs : subscripted slice false (.str (oneS c n) t) (.int i u) = operate [.str (oneS c n) t, .int i u] (getItem (.str (oneS c n) t) (.int i u)) := by with_unfolding_all rfl) : wpAny (model prog w) A (subscriptTail value slice (.str (oneS c n) t) (.int i u)) Q E s := by
  refine wa_item (c := c) ?_ (by omega) (by omega) h hs
  rw [one_len]
  unfold seqIndex?
  have e1 : ¬ i < 0 := by omega
  simp only [e1, if_false]
  rw [if_pos (by rw [decide_eq_true h1, decide_eq_true h2]; rfl)]
  simp only [Option.bind_some]
  have e2 : i.toNat < n := by omega
  simp [oneS, e2]
end
theorem sub_cost_spec {w : World} {mean : ExcName → Option Value} {mg mb : Str → Option Value} {c c' : Nat} {k1 k2 : Tok} (hc : (c = 65 ∧ c' = 97) ∨ (c = 97 ∧ c' = 65)) :
  CodeSpec w mean mg mb 122 [.str ⟨#[c']⟩ k1, .str ⟨#[c]⟩ k2] [] [] 4 60
   (fun r l => (∃ q, r = .int 1 q) ∧ l = []) := by
  rcases hc with ⟨rfl, rfl⟩ | ⟨rfl, rfl⟩
  · k_with_none
    unfold CodeSpec; k_fill; intro dp un gd cn cs a ccd cl outer A₀ base h₀ L m s R B F X N T hk hdp hu hret
    k_dflt (refine' spec_code ?k1 ?k2 ?k3 ?k4 ?k5 ?kA ?kF ?kK ?k6 ?k7 ?k8 ?k9 ?kB ?_ ?c2 ?c3 ?c4 ?c5; (case kA => exact rfl); (case kF => exact rfl); (case kK => assumption); (case k1 => k_asm); (case k2 => k_asm); (case k3 => k_asm); (case k4 => k_asm); (case k5 => k_asm); (case k6 => k_is); (case k7 => k_is); (case k8 => ktr_room); (case k9 => exact BindsTo.of_eq rfl); (case c5 => decide); (case kB => exact locs rfl); (case c2 => exact rfl); (case c3 => exact rfl); (case c4 => exact rfl); k_whole; intro g' L' h' FG' F' N' B' X' T' hkeep; (try dsimp only); (try k_lift B'); (try k_fold))
    k_steps
    refine' ret_end (sub' := []) (Q := fun r s' => R (.ok (.ret r)) s') hret N hkeep ?rF95 ?rN95 ?rG95 ?rM95 ?rin95 ?rsub95 ?rp95; (case rF95 => k_asm); (case rN95 => k_asm); (case rG95 => k_asm); (case rM95 => k_asm); (case rin95 => exact (List.forall_mem_nil _)); (case rsub95 => simp)
    exact ⟨⟨_, rfl⟩, rfl⟩
  · k_with_none
    unfold CodeSpec; k_fill; intro dp un gd cn cs a ccd cl outer A₀ base h₀ L m s R B F X N T hk hdp hu hret
    k_dflt (refine' spec_code ?k1 ?k2 ?k3 ?k4 ?k5 ?kA ?kF ?kK ?k6 ?k7 ?k8 ?k9 ?kB ?_ ?c2 ?c3 ?c4 ?c5; (case kA => exact rfl); (case kF => exact rfl); (case kK => assumption); (case k1 => k_asm); (case k2 => k_asm); (case k3 => k_asm); (case k4 => k_asm); (case k5 => k_asm); (case k6 => k_is); (case k7 => k_is); (case k8 => ktr_room); (case k9 => exact BindsTo.of_eq rfl); (case c5 => decide); (case kB => exact locs rfl); (case c2 => exact rfl); (case c3 => exact rfl); (case c4 => exact rfl); k_whole; intro g' L' h' FG' F' N' B' X' T' hkeep; (try dsimp only); (try k_lift B'); (try k_fold))
    k_steps
    refine' ret_end (sub' := []) (Q := fun r s' => R (.ok (.ret r)) s') hret N hkeep ?rF98 ?rN98 ?rG98 ?rM98 ?rin98 ?rsub98 ?rp98; (case rF98 => k_asm); (case rN98 => k_asm); (case rG98 => k_asm); (case rM98 => k_asm); (case rin98 => exact (List.forall_mem_nil _)); (case rsub98 => simp)
    exact ⟨⟨_, rfl⟩, rfl⟩
def dd (i j : Nat) : Int := 2 * max (i : Int) (j : Int) - min (i : Int) (j : Int)
/-- the row of the table: done up to j -/
structure RowOk (m i j : Nat) (row : List Value) : Prop where
  len : row.length = m
  at' : ∀ k, k < m → ∃ tk, row[k]? = some (.int (if k < j then dd (i + 1) (k + 1) else dd i (k + 1)) tk)
theorem RowOk.next {m i : Nat} {row : List Value} (h : RowOk m i m row) : RowOk m (i + 1) 0 row :=
  ⟨h.len, fun k hk => by
    obtain ⟨tk, e⟩ := h.at' k hk
    rw [if_pos hk] at e
    exact ⟨tk, by rw [e, if_neg (Nat.not_lt_zero k)]⟩⟩
theorem RowOk.old {m i j : Nat} {row : List Value} (h : RowOk m i j row) (hj : j < m) : ∃ tk, row[j]? = some (.int (dd i (j + 1)) tk) := by
  obtain ⟨tk, e⟩ := h.at' j hj
  rw [if_neg (Nat.lt_irrefl j)] at e
  exact ⟨tk, e⟩
theorem RowOk.set {m i j : Nat} {row : List Value} {v : Int} {t : Tok} (h : RowOk m i j row) (hj : j < m) (hv : v = dd (i + 1) (j + 1)) : RowOk m i (j + 1) (row.set j (.int v t)) := by
  refine ⟨by rw [List.length_set]; exact h.len, fun k hk => ?_⟩
  by_cases e : k = j
  · subst e
    refine ⟨t, ?_⟩
    rw [List.getElem?_set_self (by rw [h.len]; exact hj), if_pos (Nat.lt_succ_self _), hv]
  · obtain ⟨tk, q⟩ := h.at' k hk
    refine ⟨tk, ?_⟩
    rw [List.getElem?_set_ne (Ne.symm e), q]
    by_cases e2 : k < j
    · rw [if_pos e2, if_pos (by omega)]
    · rw [if_neg e2, if_neg (by omega)]
theorem set_some : ∀ {l : List Value} {k : Nat} {v : Value}, k < l.length → ki_setL l k v = some (l.set k v)
  | [], _, _, h => absurd h (Nat.not_lt_zero _)
  | _ :: _, 0, _, _ => rfl
  | a :: l, k + 1, v, h => by
    have e := set_some (l := l) (k := k) (v := v) (Nat.lt_of_succ_lt_succ h)
    unfold ki_setL
    rw [e]
    rfl
section
variable {prog : Program} {w : World} {A : Around} {E : Value → Shared → Prop} {s : Shared} {h₀ : Heap} {L : Addr} {m : Str → Option Value} {news : Led} {Q : Value → Shared → Prop}
theorem sub_at {value slice : PySem.Expr} {D : Addr} {row : List Value} {n j : Nat} {u : Tok} {v : Value} (N : News h₀ L s.heap news) (hm : (D, listOf row.toArray n) ∈ news) (hfit : j < 9) (hx : row[j]? = some v) (h : Q v s)
    (hs : subscripted slice false (.ref D) (.int (j : Int) u) = operate [.ref D, .int (j : Int) u] (getItem (.ref D) (.int (j : Int) u)) := by with_unfolding_all rfl) :
    wpAny (model prog w) A (subscriptTail value slice (.ref D) (.int (j : Int) u)) Q E s :=
  sub_news N hm (Int.natCast_nonneg _) (by omega) (by rw [nthV_eq]; exact hx) h hs
theorem list_step {r : Addr} {a b c : Int} {t u v : Tok} {n : Nat} (hh : A.handled = none) (F : Fr h₀ L s.heap m) (N : News h₀ L s.heap news) (hr : IsRange s.heap r a b c t u v) (hsmall : Builtin.Range.small a b c = true) (hn : Builtin.Range.rangeSize a b c = n) (hlen : n ≤ 2 ^ 24)
    (h : ∀ D (us : List Value) e h' tk, Fr h₀ L h' m → News h₀ L h' ((D, listOf us.toArray e) :: news) → (∀ p ∈ news, p.1 < D) → us.length = n → (∀ (i : Nat) x, us[i]? = some x → ∃ t, x = .int (a + (i : Int) * c) t) → Q (.ref D) { s with heap := h', toks := tk }) :
    wpAny (model prog w) A (call (.type "list") [.ref r]) Q E s := by
  refine call_list_range hh hr hsmall hn hlen fun h' tk acc e hk hD hI => ?_
  refine h _ acc.toList e h' tk (F.keeps hk) (fun p hp => ?_) (fun p hp => Heap.lt_size (N p hp).1) (by rw [Array.length_toList]; exact hI.1) fun i x hx => hI.2 i x (by rw [← Array.getElem?_toList]; exact hx)
  rcases List.mem_cons.mp hp with rfl | hp
  · exact ⟨hD, Nat.ne_of_gt F.ns.lt, next_is_new F⟩
  · exact ⟨hk _ _ (N p hp).1, (N p hp).2⟩
end
theorem range2_size {m : Nat} (h1 : 1 ≤ m) (h3 : m ≤ 3) : Builtin.Range.rangeSize 2 (2 * ((m : Int) + 1)) 2 = (m : Int) ∧ Builtin.Range.small 2 (2 * ((m : Int) + 1)) 2 = true := by
  rcases (by omega : m = 1 ∨ m = 2 ∨ m = 3) with rfl | rfl | rfl <;> exact ⟨by decide +kernel, by decide +kernel⟩
/-- the like heads of two words -/
def lcp (t b t' b' : Nat) : Nat := if t = t' then t + min b b' else min t t'
/-- what the marks of two leads tell of the distance of their words -/
def dueT (t b t' b' : Nat) : Int :=
  max (max ((2 * ((b : Int) + 1 * t) - 2 * ((b' : Int) + 1 * t')).natAbs : Int) (((b : Int) + 2 * t - ((b' : Int) + 2 * t')).natAbs : Int)) ((3 * ((b : Int) + 1 * t) - ((b : Int) + 2 * t) - (3 * ((b' : Int) + 1 * t') - ((b' : Int) + 2 * t'))).natAbs : Int)
def chk (P : Nat → Nat → Nat → Nat → Nat → Bool) : Bool := (List.range 4).all fun t => (List.range 6).all fun b => (List.range 4).all fun t' => (List.range 6).all fun b' => (List.range 9).all fun p => P t b t' b' p
theorem chk_at {P : Nat → Nat → Nat → Nat → Nat → Bool} {t b t' b' p : Nat} (h : chk P = true) (ht : t < 4) (hb : b < 6) (ht' : t' < 4) (hb' : b' < 6) (hp : p < 9) : P t b t' b' p = true := by
  unfold chk at h
  simp only [List.all_eq_true, List.mem_range] at h
  exact h t ht b hb t' ht' b' hb' p hp
def chk4 (P : Nat → Nat → Nat → Nat → Bool) : Bool := (List.range 4).all fun t => (List.range 6).all fun b => (List.range 4).all fun t' => (List.range 6).all fun b' => P t b t' b'
theorem chk4_at {P : Nat → Nat → Nat → Nat → Bool} {t b t' b' : Nat} (h : chk4 P = true) (ht : t < 4) (hb : b < 6) (ht' : t' < 4) (hb' : b' < 6) : P t b t' b' = true := by
  unfold chk4 at h
  simp only [List.all_eq_true, List.mem_range] at h
  exact h t ht b hb t' ht' b' hb'
abbrev HeadOk (t b t' b' p : Nat) : Prop := p ≤ lcp t b t' b' → p ≤ t + b ∧ (¬ 0 < t - p + (b - (p - t)) → p = lcp t b t' b') ∧ (¬ 0 < t' - p + (b' - (p - t')) → p = lcp t b t' b') ∧
    (0 < t - p + (b - (p - t)) → 0 < t' - p + (b' - (p - t')) → p < t + b ∧ p < t' + b' ∧ ((if p < t then 65 else 97) = (if p < t' then 65 else (97 : Nat)) → p + 1 ≤ lcp t b t' b') ∧ (¬ (if p < t then 65 else 97) = (if p < t' then 65 else (97 : Nat)) → p = lcp t b t' b'))
theorem lev_head {t b t' b' p : Nat} (ht : t < 4) (hb : b < 6) (ht' : t' < 4) (hb' : b' < 6) (hp : p < 9) : HeadOk t b t' b' p :=
  of_decide_eq_true (chk_at (P := fun t b t' b' p => decide (HeadOk t b t' b' p)) (by decide +kernel) ht hb ht' hb' hp)
/-- what is left when the like heads are off: X, X' of the capitals, Y, Y' of the small letters; one at least has no capitals left -/
abbrev LevLeft (X Y X' Y' : Nat) (mc : Int) : Prop := X < 4 ∧ X' < 4 ∧ Y < 6 ∧ Y' < 6 ∧ (X = 0 ∨ X' = 0) ∧
  ((X + (Y - min Y Y') = 0 ∨ X' + (Y' - min Y Y') = 0) → mc = 2 * ((X : Int) + ((Y - min Y Y' : Nat) : Int) + ((X' : Int) + ((Y' - min Y Y' : Nat) : Int)))) ∧
  (0 < X + (Y - min Y Y') → 0 < X' + (Y' - min Y Y') → (Y - min Y Y' = 0 ∧ X' = 0 ∧ 1 ≤ X ∧ X ≤ 3 ∧ 1 ≤ Y' - min Y Y' ∧ Y' - min Y Y' ≤ 5 ∧ (X ≤ Y' - min Y Y' → mc = 2 * ((Y' - min Y Y' : Nat) : Int) - X) ∧ (Y' - min Y Y' ≤ X → mc = 2 * (X : Int) - ((Y' - min Y Y' : Nat) : Int))) ∨
    (X = 0 ∧ Y' - min Y Y' = 0 ∧ 1 ≤ X' ∧ X' ≤ 3 ∧ 1 ≤ Y - min Y Y' ∧ Y - min Y Y' ≤ 5 ∧ (X' ≤ Y - min Y Y' → mc = 2 * ((Y - min Y Y' : Nat) : Int) - X') ∧ (Y - min Y Y' ≤ X' → mc = 2 * (X' : Int) - ((Y - min Y Y' : Nat) : Int))))
theorem lev_left {t b t' b' : Nat} (ht : t < 4) (hb : b < 6) (ht' : t' < 4) (hb' : b' < 6) : LevLeft (t - lcp t b t' b') (b - (lcp t b t' b' - t)) (t' - lcp t b t' b') (b' - (lcp t b t' b' - t')) (dueT t b t' b') :=
  of_decide_eq_true (chk4_at (P := fun t b t' b' => decide (LevLeft (t - lcp t b t' b') (b - (lcp t b t' b' - t)) (t' - lcp t b t' b') (b' - (lcp t b t' b' - t')) (dueT t b t' b'))) (by decide +kernel) ht hb ht' hb')
theorem lev_same : ∀ t < 4, ∀ b < 6, dueT t b t b = 0 := by decide +kernel
abbrev TailOk (X Y X' Y' p : Nat) : Prop := (X = 0 ∨ X' = 0) → p ≤ min Y Y' → (¬ 0 < X - (p - Y) + (Y - p) → p = min Y Y') ∧ (¬ 0 < X' - (p - Y') + (Y' - p) → p = min Y Y') ∧
    (0 < X - (p - Y) + (Y - p) → 0 < X' - (p - Y') + (Y' - p) → p < X + Y ∧ p < X' + Y' ∧ ((if p < Y then 97 else 65) = (if p < Y' then 97 else (65 : Nat)) → p + 1 ≤ min Y Y') ∧ (¬ (if p < Y then 97 else 65) = (if p < Y' then 97 else (65 : Nat)) → p = min Y Y'))
theorem lev_tail {X Y X' Y' p : Nat} (hX : X < 4) (hY : Y < 6) (hX' : X' < 4) (hY' : Y' < 6) (hp : p < 9) : TailOk X Y X' Y' p :=
  of_decide_eq_true (chk_at (P := fun X Y X' Y' p => decide (TailOk X Y X' Y' p)) (by decide +kernel) hX hY hX' hY' hp)
/-- kept from omega's sight -/
structure LevRest (X Y X' Y' : Nat) (mc : Int) : Prop where
  of : LevLeft X Y X' Y' mc
abbrev Tail0 (X Y X' Y' : Nat) : Prop := (X = 0 ∨ X' = 0) → (¬ 0 < X + Y → 0 = min Y Y') ∧ (¬ 0 < X' + Y' → 0 = min Y Y') ∧
    (0 < X + Y → 0 < X' + Y' → ((if 0 < Y then 97 else 65) = (if 0 < Y' then 97 else (65 : Nat)) → 0 + 1 ≤ min Y Y') ∧ (¬ (if 0 < Y then 97 else 65) = (if 0 < Y' then 97 else (65 : Nat)) → 0 = min Y Y'))
theorem lev_tail0 {X Y X' Y' : Nat} (hX : X < 4) (hY : Y < 6) (hX' : X' < 4) (hY' : Y' < 6) : Tail0 X Y X' Y' :=
  of_decide_eq_true (chk4_at (P := fun X Y X' Y' => decide (Tail0 X Y X' Y')) (by decide +kernel) hX hY hX' hY')
/-- two words, each of one letter -/
structure TwoRest (x y : Nat) (mc : Int) : Prop where
  x1 : 1 ≤ x
  x3 : x ≤ 3
  y1 : 1 ≤ y
  y5 : y ≤ 5
  up : x ≤ y → mc = 2 * (y : Int) - x
  dn : y ≤ x → mc = 2 * (x : Int) - y
abbrev TwoOk (ca m cb n : Nat) (mc : Int) : Prop := ((ca = 65 ∧ cb = 97) ∨ (ca = 97 ∧ cb = 65)) ∧ 1 ≤ m ∧ m ≤ n ∧ m ≤ 3 ∧ n ≤ 5 ∧ mc = 2 * (n : Int) - m
theorem TwoRest.keep {x y ca cb : Nat} {mc : Int} (h : TwoRest x y mc) (hc : (ca = 65 ∧ cb = 97) ∨ (ca = 97 ∧ cb = 65)) (q : x ≤ y) : TwoOk ca x cb y mc := ⟨hc, h.x1, q, h.x3, h.y5, h.up q⟩
theorem TwoRest.swap {x y ca cb : Nat} {mc : Int} (h : TwoRest x y mc) (hc : (ca = 65 ∧ cb = 97) ∨ (ca = 97 ∧ cb = 65)) (q : y ≤ x) : TwoOk ca y cb x mc :=
  ⟨hc, h.y1, q, Nat.le_trans q h.x3, Nat.le_trans h.x3 (by decide), h.dn q⟩
theorem LevRest.ret {X Y X' Y' p : Nat} {mc : Int} (h : LevRest X Y X' Y' mc) (hp : p = min Y Y') (hz : X + (Y - p) = 0 ∨ X' + (Y' - p) = 0) : mc = 2 * ((X : Int) + ((Y - p : Nat) : Int) + ((X' : Int) + ((Y' - p : Nat) : Int))) := by
  subst hp; exact h.of.2.2.2.2.2.1 hz
theorem LevRest.two {X Y X' Y' p : Nat} {mc : Int} (h : LevRest X Y X' Y' mc) (hp : p = min Y Y') (h1 : 0 < X + (Y - p)) (h2 : 0 < X' + (Y' - p)) : (Y - p = 0 ∧ X' = 0 ∧ TwoRest X (Y' - p) mc) ∨ (X = 0 ∧ Y' - p = 0 ∧ TwoRest X' (Y - p) mc) := by
  subst hp
  rcases h.of.2.2.2.2.2.2 h1 h2 with ⟨a, b, c⟩ | ⟨a, b, c⟩
  · exact .inl ⟨a, b, c.1, c.2.1, c.2.2.1, c.2.2.2.1, c.2.2.2.2.1, c.2.2.2.2.2⟩
  · exact .inr ⟨a, b, c.1, c.2.1, c.2.2.1, c.2.2.2.1, c.2.2.2.2.1, c.2.2.2.2.2⟩
/-- the table's cell, and the turn's name result ahead of it -/
def rr (i j : Nat) : Int := if j = 0 then 2 * (i : Int) else dd (i + 1) j
theorem dd_step : ∀ i < 5, ∀ j < 3, (if dd i j + 1 < (if dd i (j + 1) < rr i j then dd i (j + 1) else rr i j) + 2 then dd i j + 1 else (if dd i (j + 1) < rr i j then dd i (j + 1) else rr i j) + 2) = dd (i + 1) (j + 1) := by decide +kernel
abbrev LeastOk (m n i : Nat) : Prop := i < n → 0 < m → m ≤ n → min (i + 1) m - 1 < m ∧ dd (i + 1) (min (i + 1) m - 1 + 1) ≤ dd n m
theorem dd_least {m n i : Nat} (hm : m < 4) (hn : n < 6) (hi : i < 6) : LeastOk m n i :=
  of_decide_eq_true (chk4_at (P := fun m n _ i => decide (LeastOk m n i)) (by decide +kernel) hm hn (t' := 0) (by decide) hi)
theorem dd_end : ∀ m < 4, ∀ n < 6, 0 < m → m ≤ n → dd n m = 2 * (n : Int) - m := by decide +kernel
theorem dd_zero (i : Nat) : dd i 0 = (i : Int) * 2 := by unfold dd; omega
theorem dd_room : ∀ i < 6, ∀ j < 4, 0 ≤ dd i j ∧ dd i j ≤ 10 := by decide +kernel

structure DpS where
  row : List Value
  en : Nat
  r : Int
  kr : Tok
structure InS where
  row : List Value
  en : Nat
  d : Int
  r : Int
  mn : Int
  kd : Tok
  kr : Tok
  km : Tok
theorem RowOk.lt {m i j : Nat} {row : List Value} (h : RowOk m i j row) (hj : j < m) : j < row.length := by rw [h.len]; exact hj
theorem set_at {m i j : Nat} {row : List Value} {v : Value} (h : RowOk m i j row) (hj : j < m) : ki_setL row.toArray.toList ((j : Int)).toNat v = some (row.set j v) := set_some (h.lt hj)
section
local macro_rules | `(tactic| k_ne) => `(tactic| (refine neN ?_; (try dsimp only); first | with_reducible assumption | exact Ne.symm (by with_reducible assumption)))
theorem lev_spec {w : World} {mean : ExcName → Option Value} {mg mb : Str → Option Value} {t b t' b' : Nat} {mc : Int} {k1 k2 k3 : Tok} (ht : t ≤ 3) (hb : b ≤ 5) (ht' : t' ≤ 3) (hb' : b' ≤ 5) (hmc : mc = dueT t b t' b') :
  CodeSpec w mean mg mb 129 [.str (waStr t b) k1, .str (waStr t' b') k2, .int mc k3] [] [] 10 120
   (fun r l => (∃ q, r = .int mc q) ∧ l = []) := by
  have he := wa_eq_all t (by omega) b (by omega) t' (by omega) b' (by omega)
  k_with_none
  k_with "own" => ((with_reducible show wpAny _ _ (subscriptTail _ (Expr.Slice _ _ _ _) (Value.str _ _) _) _ _ _); first | with_reducible (((with_reducible show wpAny _ _ (subscriptTail _ (Expr.Slice (some _) none none _) (Value.str (waStr _ _) _) _) _ _ _); (with_reducible rename Fr _ _ _ _ => F'); (with_reducible rename News _ _ _ _ => N'); refine' sl_from (s := ⟨_, _, _, _, _⟩) F' N' ?he_w ?hz_w ?_; (case he_w => exact wa_from_all _ (by omega) _ (by omega) _ (by omega)); (case hz_w => exact wa_room (by omega) (by omega)); intro _ _ _ _ _)) | (((with_reducible show wpAny _ _ (subscriptTail _ (Expr.Slice (some _) none none _) (Value.str (waStr _ _) _) _) _ _ _); (with_reducible rename Fr _ _ _ _ => F'); (with_reducible rename News _ _ _ _ => N'); refine' sl_from (s := ⟨_, _, _, _, _⟩) F' N' ?he_w ?hz_w ?_; (case he_w => exact wa_from_all _ (by omega) _ (by omega) _ (by omega)); (case hz_w => exact wa_room (by omega) (by omega)); intro _ _ _ _ _)); walk_say "OWN subscriptTail Name Slice str ref")
  k_with "own" => ((with_reducible show wpAny _ _ (subscriptTail _ (Expr.Slice _ _ _ _) (Value.str _ _) _) _ _ _); first | with_reducible (((with_reducible show wpAny _ _ (subscriptTail _ (Expr.Slice none (some _) none _) (Value.str (waStr _ _) _) _) _ _ _); (with_reducible rename Fr _ _ _ _ => F'); (with_reducible rename News _ _ _ _ => N'); refine' sl_upto (s := ⟨_, _, _, _, _⟩) F' N' ?he_w ?hz_w ?_; (case he_w => exact wa_upto_all _ (by omega) _ (by omega) _ (by omega) (by omega)); (case hz_w => exact wa_room (by omega) (by omega)); intro _ _ _ _ _)) | (((with_reducible show wpAny _ _ (subscriptTail _ (Expr.Slice none (some _) none _) (Value.str (waStr _ _) _) _) _ _ _); (with_reducible rename Fr _ _ _ _ => F'); (with_reducible rename News _ _ _ _ => N'); refine' sl_upto (s := ⟨_, _, _, _, _⟩) F' N' ?he_w ?hz_w ?_; (case he_w => exact wa_upto_all _ (by omega) _ (by omega) _ (by omega) (by omega)); (case hz_w => exact wa_room (by omega) (by omega)); intro _ _ _ _ _)); walk_say "OWN subscriptTail Name Slice str ref")
  k_with "own" => ((with_reducible show wpAny _ _ (subscriptTail _ (Expr.Slice _ _ _ _) (Value.str _ _) _) _ _ _); first | with_reducible (((with_reducible show wpAny _ _ (subscriptTail _ (Expr.Slice none (some _) none _) (Value.str (waStr _ _) _) _) _ _ _); (with_reducible rename Fr _ _ _ _ => F'); (with_reducible rename News _ _ _ _ => N'); refine' sl_whole (s := ⟨_, _, _, _, _⟩) F' N' ?he_w ?hz_w ?_; (case he_w => exact wa_whole_all _ (by omega) _ (by omega)); (case hz_w => exact wa_room (by omega) (by omega)); intro _ _ _ _ _)) | (((with_reducible show wpAny _ _ (subscriptTail _ (Expr.Slice none (some _) none _) (Value.str (waStr _ _) _) _) _ _ _); (with_reducible rename Fr _ _ _ _ => F'); (with_reducible rename News _ _ _ _ => N'); refine' sl_whole (s := ⟨_, _, _, _, _⟩) F' N' ?he_w ?hz_w ?_; (case he_w => exact wa_whole_all _ (by omega) _ (by omega)); (case hz_w => exact wa_room (by omega) (by omega)); intro _ _ _ _ _)); walk_say "OWN subscriptTail Name Slice str ref")
  k_with "own" => ((with_reducible show wpAny _ _ (PySem.truthy (Value.str _ _)) _ _ _); first | with_reducible (((with_reducible show wpAny _ _ (PySem.truthy (Value.str (waStr _ _) _)) _ _ _); refine wa_truthy (by omega) (by omega) ?_; intro _)) | (((with_reducible show wpAny _ _ (PySem.truthy (Value.str (waStr _ _) _)) _ _ _); refine wa_truthy (by omega) (by omega) ?_; intro _)); walk_say "OWN truthy str")
  k_with "own" => ((with_reducible show wpAny _ _ (compareOp CmpOp.Eq (Value.str _ _) (Value.str _ _)) _ _ _); first | with_reducible (((with_reducible show wpAny _ _ (compareOp _ (Value.str ⟨#[_]⟩ _) (Value.str ⟨#[_]⟩ _)) _ _ _); refine chr_eq ?_)) | (((with_reducible show wpAny _ _ (compareOp _ (Value.str ⟨#[_]⟩ _) (Value.str ⟨#[_]⟩ _)) _ _ _); refine chr_eq ?_)); walk_say "OWN compareOp Eq str str")
  k_with "own" => ((with_reducible show wpAny _ _ (subscriptTail (Expr.Name _ _) (Expr.Name _ _) (Value.str _ _) (Value.int _ _)) _ _ _); first | with_reducible (((with_reducible show wpAny _ _ (subscriptTail _ _ (Value.str (waStr _ _) _) _) _ _ _); refine' wa_item (wa_at_all _ (by omega) _ (by omega) _ (by omega) (by omega)) (by omega) (by omega) ?_; intro _ _)) | (((with_reducible show wpAny _ _ (subscriptTail _ _ (Value.str (waStr _ _) _) _) _ _ _); refine' wa_item (wa_at_all _ (by omega) _ (by omega) _ (by omega) (by omega)) (by omega) (by omega) ?_; intro _ _)); walk_say "OWN subscriptTail Name Name str int")
  k_with "own" => ((with_reducible show wpAny _ _ (subscriptTail (Expr.Name _ _) (Expr.BinOp _ _ _ _) (Value.str _ _) (Value.int _ _)) _ _ _); first | with_reducible (((with_reducible show wpAny _ _ (subscriptTail _ _ (Value.str (waStr _ _) _) _) _ _ _); refine' wa_item (wa_back_all _ (by omega) _ (by omega) _ (by omega) (by omega)) (by omega) (by omega) ?_; intro _ _)) | (((with_reducible show wpAny _ _ (subscriptTail _ _ (Value.str (waStr _ _) _) _) _ _ _); refine' wa_item (wa_back_all _ (by omega) _ (by omega) _ (by omega) (by omega)) (by omega) (by omega) ?_; intro _ _)); walk_say "OWN subscriptTail Name BinOp str int")
  k_with "own" => ((with_reducible show wpAny _ _ (PySem.call (Value.builtin "len") _) _ _ _); first | with_reducible (((with_reducible show wpAny _ _ (PySem.call (Value.builtin _) [Value.str (waStr _ _) _]) _ _ _); refine wa_len_call (by omega) (by omega) ?_; intro _ _)) | (((with_reducible show wpAny _ _ (PySem.call (Value.builtin _) [Value.str (waStr _ _) _]) _ _ _); refine wa_len_call (by omega) (by omega) ?_; intro _ _)); walk_say "OWN call builtin:len")
  k_with "own" => ((with_reducible show wpAny _ _ (PySem.call (Value.builtin "len") _) _ _ _); first | with_reducible (((with_reducible show wpAny _ _ (PySem.call (Value.builtin _) [Value.str (oneS _ _) _]) _ _ _); refine one_len_call (by omega) ?_; intro _ _)) | (((with_reducible show wpAny _ _ (PySem.call (Value.builtin _) [Value.str (oneS _ _) _]) _ _ _); refine one_len_call (by omega) ?_; intro _ _)); walk_say "OWN call builtin:len")
  k_with "own" => ((with_reducible show wpAny _ _ (subscriptTail (Expr.Name _ _) (Expr.Name _ _) (Value.str _ _) (Value.int _ _)) _ _ _); first | with_reducible (((with_reducible show wpAny _ _ (subscriptTail _ _ (Value.str (oneS _ _) _) _) _ _ _); refine one_item (by omega) (by omega) (by omega) ?_; intro _ _)) | (((with_reducible show wpAny _ _ (subscriptTail _ _ (Value.str (oneS _ _) _) _) _ _ _); refine one_item (by omega) (by omega) (by omega) ?_; intro _ _)); walk_say "OWN subscriptTail Name Name str int")
  k_with "own" => ((with_reducible show wpAny _ _ (subscriptTail (Expr.Name _ _) (Expr.Name _ _) (Value.ref _) (Value.int _ _)) _ _ _); first | with_reducible ((k_here; k_dflt (refine' sub_at ?N_w ?m_w ?f_w ?x_w ?_ ?s_w; (case N_w => k_asm); (case m_w => k_mem); (case x_w => with_reducible assumption); (case f_w => omega); (case s_w => with_unfolding_all rfl); k_whole))) | ((k_here; k_dflt (refine' sub_at ?N_w ?m_w ?f_w ?x_w ?_ ?s_w; (case N_w => k_asm); (case m_w => k_mem); (case x_w => with_reducible assumption); (case f_w => omega); (case s_w => with_unfolding_all rfl); k_whole))); walk_say "OWN subscriptTail Name Name ref int")
  k_with "own" => ((with_reducible show wpAny _ _ (PySem.call (Value.ref _) _) _ _ _); first | with_reducible ((k_here; k_dflt (refine' pure_use (sub_cost_spec (by with_reducible assumption)) ?uB_w ?uF_w ?uX_w ?uN_w ?uT_w ?uk_w ?uin_w ?ud_w ?uu_w ?_; (case uB_w => k_asm); (case uF_w => k_asm); (case uX_w => k_asm); (case uN_w => k_asm); (case uT_w => k_asm); (case uk_w => first | exact rfl | assumption); (case uin_w => exact (List.forall_mem_nil _)); (case ud_w => ktr_room); (case uu_w => ktr_units); k_whole); intro r9 h9 tk9 F9 N9 P9; obtain ⟨q9, e9⟩ := P9; subst e9; (try dsimp only); (try k_fold))) | ((k_here; k_dflt (refine' pure_use (sub_cost_spec (by with_reducible assumption)) ?uB_w ?uF_w ?uX_w ?uN_w ?uT_w ?uk_w ?uin_w ?ud_w ?uu_w ?_; (case uB_w => k_asm); (case uF_w => k_asm); (case uX_w => k_asm); (case uN_w => k_asm); (case uT_w => k_asm); (case uk_w => first | exact rfl | assumption); (case uin_w => exact (List.forall_mem_nil _)); (case ud_w => ktr_room); (case uu_w => ktr_units); k_whole); intro r9 h9 tk9 F9 N9 P9; obtain ⟨q9, e9⟩ := P9; subst e9; (try dsimp only); (try k_fold))); walk_say "OWN call ref")
  k_with "own" => ((with_reducible show wpAny _ _ (setItem (Value.ref _) (Value.int _ _) (Value.int _ _)) _ _ _); first | with_reducible ((k_here; k_dflt (refine' ki_set ?F_w ?N_w ?a_w ?b_w ?e_w ?U_w ?_; (case F_w => k_asm); (case N_w => k_asm); (case U_w => k_upd); (case a_w => exact Int.natCast_nonneg _); (case b_w => omega); (case e_w => exact set_at (by with_reducible assumption) (by with_reducible assumption))); ki_rest)) | ((k_here; k_dflt (refine' ki_set ?F_w ?N_w ?a_w ?b_w ?e_w ?U_w ?_; (case F_w => k_asm); (case N_w => k_asm); (case U_w => k_upd); (case a_w => exact Int.natCast_nonneg _); (case b_w => omega); (case e_w => exact set_at (by with_reducible assumption) (by with_reducible assumption))); ki_rest)); walk_say "OWN setItem ref int int")
  unfold CodeSpec; k_fill; intro dp un gd cn cs a ccd cl outer A₀ base h₀ L m s R B F X N T hk hdp hu hret
  k_dflt (refine' spec_code ?k1 ?k2 ?k3 ?k4 ?k5 ?kA ?kF ?kK ?k6 ?k7 ?k8 ?k9 ?kB ?_ ?c2 ?c3 ?c4 ?c5; (case kA => exact rfl); (case kF => exact rfl); (case kK => assumption); (case k1 => k_asm); (case k2 => k_asm); (case k3 => k_asm); (case k4 => k_asm); (case k5 => k_asm); (case k6 => k_is); (case k7 => k_is); (case k8 => ktr_room); (case k9 => exact BindsTo.of_eq rfl); (case c5 => decide); (case kB => exact locs rfl); (case c2 => exact rfl); (case c3 => exact rfl); (case c4 => exact rfl); k_whole; intro g' L' h' FG' F' N' B' X' T' hkeep; (try dsimp only); (try k_lift B'); (try k_fold))
  repeat' ((fail_if_success (with_reducible show wpAny _ _ (exec (Stmt.While _ _ _ _) _) _ _ _)); first | (k_unfold; (try dsimp only)) | (k_end; wrow_close) | k_extra "own" | walk1 | (dsimp only; first | k_extra "own" | walk1) | (leave1; walk_say "STEP leave1"; try dsimp only) | fail "no step")
  · rename (waStr t b == waStr t' b') = true => h1
    rw [he] at h1
    simp only [Bool.and_eq_true, decide_eq_true_eq] at h1
    obtain ⟨rfl, rfl⟩ := h1
    rw [lev_same t (by omega) b (by omega)] at hmc
    subst hmc
    refine' ret_end (sub' := []) (Q := fun r s' => R (.ok (.ret r)) s') hret N hkeep ?rF103 ?rN103 ?rG103 ?rM103 ?rin103 ?rsub103 ?rp103; (case rF103 => k_asm); (case rN103 => k_asm); (case rG103 => k_asm); (case rM103 => k_asm); (case rin103 => exact (List.forall_mem_nil _)); (case rsub103 => simp)
    exact ⟨⟨_, rfl⟩, rfl⟩
  clear he
  rename (waStr t b == waStr t' b') = false => z1
  clear z1
  refine while_out (σ := Nat × Tok) (fun _ => []) (fun z => [(Str.ofString "a", .str (waStr t b) k1), (Str.ofString "b", .str (waStr t' b') k2), (Str.ofString "max_cost", .int mc k3), (Str.ofString "pre", .int z.1 z.2)])
    (fun z => z.1 < 9 ∧ z.1 ≤ lcp t b t' b') (fun z => z.1 < 9 ∧ z.1 = lcp t b t' b') (fun z => t + b - z.1) ⟨0, _⟩ (by k_asm) (by k_asm) (by kst_all) ⟨Nat.zero_lt_succ _, Nat.zero_le _⟩ ?turn ?done
  case turn =>
    intro c u h tk hP F4 N4
    obtain ⟨pre, tp⟩ := c
    dsimp only [kstB] at hP F4 N4 ⊢
    obtain ⟨hp9, hpl⟩ := hP
    repeat' ( (fail_if_success (with_reducible show UnrEnd _ _ _ _ _ _ _)); (fail_if_success (with_reducible show KswEnd _ _ _ _ _ _ _ _ _ _ _ _)); first | (k_unfold; (try dsimp only)) | (k_end; wrow_close) | k_extra "own" | walk1 | (dsimp only; first | k_extra "own" | walk1) | (leave1; walk_say "STEP leave1"; try dsimp only) | fail "no step")
    · rename 0 < t - pre + (b - (pre - t)) => c1
      rename 0 < t' - pre + (b' - (pre - t')) => c2
      rename (if pre < t then 65 else 97) = (if pre < t' then 65 else 97) => c3
      have H := ((lev_head (by omega) (by omega) (by omega) (by omega) hp9 : HeadOk t b t' b' pre) hpl).2.2.2 c1 c2
      clear c1 c2
      refine ksw_end (⟨pre + 1, _⟩ : Nat × Tok) (by k_asm) (by k_asm) (List.forall_mem_nil _) trivial (by kst_all) (by ksw_same) ⟨?_, H.2.2.1 c3⟩ ?_
      · dsimp only; omega
      · dsimp only; omega
    · rename ¬ (if pre < t then 65 else 97) = (if pre < t' then 65 else 97) => c3
      refine wend (⟨pre, _⟩ : Nat × Tok) (by k_asm) (by k_asm) (List.forall_mem_nil _) (by kst_all) ⟨hp9, ((lev_head (by omega) (by omega) (by omega) (by omega) hp9 : HeadOk t b t' b' pre) hpl).2.2.2 (by assumption) (by assumption) |>.2.2.2 c3⟩
    · refine wend (⟨pre, _⟩ : Nat × Tok) (by k_asm) (by k_asm) (List.forall_mem_nil _) (by kst_all) ⟨hp9, ((lev_head (by omega) (by omega) (by omega) (by omega) hp9 : HeadOk t b t' b' pre) hpl).2.2.1 (by assumption)⟩
    · refine wend (⟨pre, _⟩ : Nat × Tok) (by k_asm) (by k_asm) (List.forall_mem_nil _) (by kst_all) ⟨hp9, ((lev_head (by omega) (by omega) (by omega) (by omega) hp9 : HeadOk t b t' b' pre) hpl).2.1 (by assumption)⟩
  case done =>
    intro z u h tk hO F4 N4
    obtain ⟨pre, tp⟩ := z
    dsimp only [kstB] at hO F4 N4
    obtain ⟨hp9, hpe⟩ := hO
    dsimp only
    repeat' ((fail_if_success (with_reducible show wpAny _ _ (exec (Stmt.While _ _ _ _) _) _ _ _)); first | (k_unfold; (try dsimp only)) | (k_end; wrow_close) | k_extra "own" | walk1 | (dsimp only; first | k_extra "own" | walk1) | (leave1; walk_say "STEP leave1"; try dsimp only) | fail "no step")
    refine' packP (σ := Nat × Nat × Nat × Nat × Tok × Tok × Tok) (fun z => [(Str.ofString "a", .str (waStr z.1 z.2.1) z.2.2.2.2.1), (Str.ofString "b", .str (waStr z.2.2.1 z.2.2.2.1) z.2.2.2.2.2.1), (Str.ofString "max_cost", .int mc k3), (Str.ofString "post", .int 0 z.2.2.2.2.2.2)]) (fun _ => [])
      (fun z => LevRest z.1 z.2.1 z.2.2.1 z.2.2.2.1 mc) ?pF ?pN ⟨_, _, _, _, _, _, _⟩ ?pm ?pn ?pp ?_
    case pF => k_asm
    case pN => k_asm
    case pn => exact (List.forall_mem_nil _)
    case pm => kst_all
    case pp => (rw [hpe, hmc]; exact ⟨lev_left (by omega) (by omega) (by omega) (by omega)⟩)
    rintro ⟨X, Y, X', Y', j1, j2, j3⟩ m2 hm2 hXY F5 N5
    dsimp only at hm2 hXY N5
    clear hp9 hpe hmc
    obtain ⟨hX, hX', hY, hY', hxx, _⟩ := hXY.of
    refine while_out (σ := Nat × Int × Tok) (fun _ => []) (fun z => [(Str.ofString "a", .str (waStr X Y) j1), (Str.ofString "b", .str (waStr X' Y') j2), (Str.ofString "max_cost", .int mc k3), (Str.ofString "post", .int z.2.1 z.2.2)])
      (fun z => z.1 < 9 ∧ z.1 ≤ min Y Y' ∧ z.2.1 = -(z.1 : Int)) (fun z => z.1 < 9 ∧ z.1 = min Y Y' ∧ z.2.1 = -(z.1 : Int)) (fun z => 9 - z.1) ⟨0, 0, _⟩ F5 N5 hm2 ⟨Nat.zero_lt_succ _, Nat.zero_le _, rfl⟩ ?turn2 ?done2
    case turn2 =>
      intro c u h tk hP F4 N4
      obtain ⟨p, pv, tp⟩ := c
      dsimp only [kstB] at hP F4 N4 ⊢
      obtain ⟨hp9, hpl, hv⟩ := hP
      subst hv
      repeat' ( (fail_if_success (with_reducible show UnrEnd _ _ _ _ _ _ _)); (fail_if_success (with_reducible show KswEnd _ _ _ _ _ _ _ _ _ _ _ _)); first | (k_unfold; (try dsimp only)) | (k_end; wrow_close) | k_extra "own" | walk1 | (dsimp only; first | k_extra "own" | walk1) | (leave1; walk_say "STEP leave1"; try dsimp only) | fail "no step")
      · rename 0 < X - (p - Y) + (Y - p) => c1
        rename 0 < X' - (p - Y') + (Y' - p) => c2
        rename (if p < Y then 97 else 65) = (if p < Y' then 97 else 65) => c3
        have H := ((lev_tail hX hY hX' hY' hp9 : TailOk X Y X' Y' p) hxx hpl).2.2 c1 c2
        obtain ⟨H1, H2, H3, _⟩ := H
        clear c1 c2 hxx
        refine ksw_end (⟨p + 1, _, _⟩ : Nat × Int × Tok) (by k_asm) (by k_asm) (List.forall_mem_nil _) trivial (by kst_all) (by ksw_same) ⟨?_, H3 c3, ?_⟩ ?_
        · dsimp only; omega
        · dsimp only; omega
        · dsimp only; omega
      · rename ¬ (if p < Y then 97 else 65) = (if p < Y' then 97 else 65) => c3
        refine wend (⟨p, _, _⟩ : Nat × Int × Tok) (by k_asm) (by k_asm) (List.forall_mem_nil _) (by kst_all) ⟨hp9, ((lev_tail hX hY hX' hY' hp9 : TailOk X Y X' Y' p) hxx hpl).2.2 (by assumption) (by assumption) |>.2.2.2 c3, rfl⟩
      · refine wend (⟨p, _, _⟩ : Nat × Int × Tok) (by k_asm) (by k_asm) (List.forall_mem_nil _) (by kst_all) ⟨hp9, ((lev_tail hX hY hX' hY' hp9 : TailOk X Y X' Y' p) hxx hpl).2.1 (by assumption), rfl⟩
      · contradiction
      · refine wend (⟨p, _, _⟩ : Nat × Int × Tok) (by k_asm) (by k_asm) (List.forall_mem_nil _) (by kst_all) ⟨hp9, ((lev_tail hX hY hX' hY' hp9 : TailOk X Y X' Y' p) hxx hpl).1 (by assumption), rfl⟩
      · contradiction
      · have hp0 : p = 0 := by (with_reducible rename -(p : Int) = 0 => e0); omega
        subst hp0
        rename 0 < X + Y => c1
        rename 0 < X' + Y' => c2
        rename (if 0 < Y then 97 else 65) = (if 0 < Y' then 97 else 65) => c3
        have H := ((lev_tail0 hX hY hX' hY' : Tail0 X Y X' Y') hxx).2.2 c1 c2
        clear c1 c2 hxx
        refine ksw_end (⟨0 + 1, _, _⟩ : Nat × Int × Tok) (by k_asm) (by k_asm) (List.forall_mem_nil _) trivial (by kst_all) (by ksw_same) ⟨(by dsimp only; omega), H.1 c3, rfl⟩ (by dsimp only; omega)
      · have hp0 : p = 0 := by (with_reducible rename -(p : Int) = 0 => e0); omega
        subst hp0
        rename ¬ (if 0 < Y then 97 else 65) = (if 0 < Y' then 97 else 65) => c3
        refine wend (⟨0, _, _⟩ : Nat × Int × Tok) (by k_asm) (by k_asm) (List.forall_mem_nil _) (by kst_all) ⟨hp9, ((lev_tail0 hX hY hX' hY' : Tail0 X Y X' Y') hxx).2.2 (by assumption) (by assumption) |>.2 c3, rfl⟩
      · have hp0 : p = 0 := by (with_reducible rename -(p : Int) = 0 => e0); omega
        subst hp0
        refine wend (⟨0, _, _⟩ : Nat × Int × Tok) (by k_asm) (by k_asm) (List.forall_mem_nil _) (by kst_all) ⟨hp9, ((lev_tail0 hX hY hX' hY' : Tail0 X Y X' Y') hxx).2.1 (by assumption), rfl⟩
      · have hp0 : p = 0 := by (with_reducible rename -(p : Int) = 0 => e0); omega
        subst hp0
        refine wend (⟨0, _, _⟩ : Nat × Int × Tok) (by k_asm) (by k_asm) (List.forall_mem_nil _) (by kst_all) ⟨hp9, ((lev_tail0 hX hY hX' hY' : Tail0 X Y X' Y') hxx).1 (by assumption), rfl⟩
    case done2 =>
      intro z u h tk hO2 F4 N4
      obtain ⟨p, pv, tp⟩ := z
      dsimp only [kstB] at hO2 F4 N4
      obtain ⟨hp9, hpe, hv⟩ := hO2
      subst hv
      have hpY : p ≤ Y := by rw [hpe]; exact Nat.min_le_left _ _
      have hpY' : p ≤ Y' := by rw [hpe]; exact Nat.min_le_right _ _
      clear hxx
      dsimp only
      repeat' ((fail_if_success (with_reducible show wpAny _ _ (exec (Stmt.Assign [Expr.Name (Str.ofString "a") _] _ _) _) _ _ _)); first | (k_unfold; (try dsimp only)) | (k_end; wrow_close) | k_extra "own" | walk1 | (dsimp only; first | k_extra "own" | walk1) | (leave1; walk_say "STEP leave1"; try dsimp only) | fail "no step")
      refine stmt_out (σ := Nat × Nat × Tok) (fun _ => []) (fun z => [(Str.ofString "a", .str (waStr z.1 z.2.1) z.2.2), (Str.ofString "b", .str (waStr X' Y') j2), (Str.ofString "max_cost", .int mc k3), (Str.ofString "post", .int (-(p : Int)) tp)]) (fun z => z.1 = X ∧ z.2.1 = Y - p) (by k_asm) ?turn3 ?done3
      case turn3 =>
        repeat' ( (fail_if_success (with_reducible show UnrEnd _ _ _ _ _ _ _)); (fail_if_success (with_reducible show KswEnd _ _ _ _ _ _ _ _ _ _ _ _)); first | (k_unfold; (try dsimp only)) | (k_end; wrow_close) | k_extra "own" | walk1 | (dsimp only; first | k_extra "own" | walk1) | (leave1; walk_say "STEP leave1"; try dsimp only) | fail "no step")
        all_goals (refine wend (⟨_, _, _⟩ : Nat × Nat × Tok) (by k_asm) (by k_asm) (List.forall_mem_nil _) (by kst_all) ?_; dsimp only; omega)
      case done3 =>
        rintro ⟨X2, Y2, j4⟩ u h tk ⟨hX2, hY2⟩ F5 N5
        dsimp only [kstB] at hX2 hY2 F5 N5
        dsimp only
        subst hX2 hY2
        repeat' ((fail_if_success (with_reducible show wpAny _ _ (exec (Stmt.Assign [Expr.Name (Str.ofString "b") _] _ _) _) _ _ _)); first | (k_unfold; (try dsimp only)) | (k_end; wrow_close) | k_extra "own" | walk1 | (dsimp only; first | k_extra "own" | walk1) | (leave1; walk_say "STEP leave1"; try dsimp only) | fail "no step")
        refine stmt_out (σ := Nat × Nat × Tok) (fun _ => []) (fun z => [(Str.ofString "a", .str (waStr X2 (Y - p)) j4), (Str.ofString "b", .str (waStr z.1 z.2.1) z.2.2), (Str.ofString "max_cost", .int mc k3)]) (fun z => z.1 = X' ∧ z.2.1 = Y' - p) (by k_asm) ?turn4 ?done4
        case turn4 =>
          repeat' ( (fail_if_success (with_reducible show UnrEnd _ _ _ _ _ _ _)); (fail_if_success (with_reducible show KswEnd _ _ _ _ _ _ _ _ _ _ _ _)); first | (k_unfold; (try dsimp only)) | (k_end; wrow_close) | k_extra "own" | walk1 | (dsimp only; first | k_extra "own" | walk1) | (leave1; walk_say "STEP leave1"; try dsimp only) | fail "no step")
          all_goals (refine wend (⟨_, _, _⟩ : Nat × Nat × Tok) (by k_asm) (by k_asm) (List.forall_mem_nil _) (by kst_all) ?_; dsimp only; omega)
        case done4 =>
          rintro ⟨X3, Y3, j5⟩ u h tk ⟨hX3, hY3⟩ F6 N6
          dsimp only [kstB] at hX3 hY3 F6 N6
          dsimp only
          subst hX3 hY3
          repeat' ((fail_if_success (with_reducible show wpAny _ _ (exec (Stmt.If (Expr.Compare _ _ _ _) _ _ _) _) _ _ _)); first | (k_unfold; (try dsimp only)) | (k_end; wrow_close) | k_extra "own" | walk1 | (dsimp only; first | k_extra "own" | walk1) | (leave1; walk_say "STEP leave1"; try dsimp only) | fail "no step")
          rotate_left
          · (have e1 := hXY.ret hpe (by first | exact .inl (by omega) | exact .inr (by omega)); (refine' ret_end (sub' := []) (Q := fun r s' => R (.ok (.ret r)) s') hret N hkeep ?rF112 ?rN112 ?rG112 ?rM112 ?rin112 ?rsub112 ?rp112; (case rF112 => k_asm); (case rN112 => k_asm); (case rG112 => k_asm); (case rM112 => k_asm); (case rin112 => exact (List.forall_mem_nil _)); (case rsub112 => simp)); exact ⟨⟨_, by rw [e1]⟩, rfl⟩)
          · (have e1 := hXY.ret hpe (by first | exact .inl (by omega) | exact .inr (by omega)); (refine' ret_end (sub' := []) (Q := fun r s' => R (.ok (.ret r)) s') hret N hkeep ?rF113 ?rN113 ?rG113 ?rM113 ?rin113 ?rsub113 ?rp113; (case rF113 => k_asm); (case rN113 => k_asm); (case rG113 => k_asm); (case rM113 => k_asm); (case rin113 => exact (List.forall_mem_nil _)); (case rsub113 => simp)); exact ⟨⟨_, by rw [e1]⟩, rfl⟩)
          have hcase := hXY.two hpe (by assumption) (by assumption)
          clear hXY hX hX' hY hY' hpY hpY' hp9
          refine stmt_out (σ := Nat × Nat × Nat × Nat × Tok × Tok) (fun _ => []) (fun z => [(Str.ofString "a", .str (oneS z.1 z.2.1) z.2.2.2.2.1), (Str.ofString "b", .str (oneS z.2.2.1 z.2.2.2.1) z.2.2.2.2.2), (Str.ofString "max_cost", .int mc k3)]) (fun z => TwoOk z.1 z.2.1 z.2.2.1 z.2.2.2.1 mc) (by k_asm) ?turn5 ?done5
          case turn5 =>
            rcases hcase with ⟨c1, c2, c3⟩ | ⟨c1, c2, c3⟩
            · rename Fr _ _ _ _ => F7
              simp only [c1, c2, wa_caps, wa_smalls] at F7
              have x3 := c3.x3; have y5 := c3.y5
              repeat' ( (fail_if_success (with_reducible show UnrEnd _ _ _ _ _ _ _)); (fail_if_success (with_reducible show KswEnd _ _ _ _ _ _ _ _ _ _ _ _)); first | (k_unfold; (try dsimp only)) | (k_end; wrow_close) | k_extra "own" | walk1 | (dsimp only; first | k_extra "own" | walk1) | (leave1; walk_say "STEP leave1"; try dsimp only) | fail "no step")
              all_goals (refine wend (⟨_, _, _, _, _, _⟩ : Nat × Nat × Nat × Nat × Tok × Tok) (by k_asm) (by k_asm) (List.forall_mem_nil _) (by kst_all) ?_; dsimp only; clear x3 y5; first | exact c3.keep (.inl ⟨rfl, rfl⟩) (by omega) | exact c3.swap (.inr ⟨rfl, rfl⟩) (by omega))
            · rename Fr _ _ _ _ => F7
              simp only [c1, c2, wa_caps, wa_smalls] at F7
              have x3 := c3.x3; have y5 := c3.y5
              repeat' ( (fail_if_success (with_reducible show UnrEnd _ _ _ _ _ _ _)); (fail_if_success (with_reducible show KswEnd _ _ _ _ _ _ _ _ _ _ _ _)); first | (k_unfold; (try dsimp only)) | (k_end; wrow_close) | k_extra "own" | walk1 | (dsimp only; first | k_extra "own" | walk1) | (leave1; walk_say "STEP leave1"; try dsimp only) | fail "no step")
              all_goals (refine wend (⟨_, _, _, _, _, _⟩ : Nat × Nat × Nat × Nat × Tok × Tok) (by k_asm) (by k_asm) (List.forall_mem_nil _) (by kst_all) ?_; dsimp only; clear x3 y5; first | exact c3.swap (.inr ⟨rfl, rfl⟩) (by omega) | exact c3.keep (.inl ⟨rfl, rfl⟩) (by omega))
          case done5 =>
            clear hcase hpe
            rintro ⟨ca, m0, cb, n0, j6, j7⟩ u h tk ⟨hcc, hm1, hmn, hm3, hn5, hmv⟩ F8 N8
            dsimp only [kstB] at hcc hm1 hmn hm3 hn5 hmv F8 N8
            dsimp only
            rename 0 < X2 + (Y - p) => z1
            rename 0 < X3 + (Y' - p) => z2
            clear z1 z2
            repeat' ((fail_if_success (with_reducible show wpAny _ _ (PySem.call (Value.type "list") _) _ _ _)); first | (k_unfold; (try dsimp only)) | (k_end; wrow_close) | k_extra "own" | walk1 | (dsimp only; first | k_extra "own" | walk1) | (leave1; walk_say "STEP leave1"; try dsimp only) | fail "no step")
            rename IsRange _ _ _ _ _ _ _ _ => hR
            k_dflt (refine' list_step (n := m0) ?la ?lF ?lN ?lr ?ls ?ln ?ll ?_; (case la => rfl); (case lF => k_asm); (case lN => k_asm); (case lr => exact hR); (case ls => exact (range2_size hm1 hm3).2) ; (case ln => exact (range2_size hm1 hm3).1); (case ll => omega))
            intro D row e h9 tk9 F9 N9 l9 hlen hrow
            clear hR
            repeat' ((fail_if_success (with_reducible show wpAny _ _ (pyIter _) _ _ _)); first | (k_unfold; (try dsimp only)) | (k_end; wrow_close) | k_extra "own" | walk1 | (dsimp only; first | k_extra "own" | walk1) | (leave1; walk_say "STEP leave1"; try dsimp only) | fail "no step")
            rename IsRange _ _ _ _ _ _ _ _ => hR
            have hr0 : RowOk m0 0 0 row := ⟨hlen, fun k hk => by
              obtain ⟨t, q⟩ := hrow k row[k] (List.getElem?_eq_getElem (by omega))
              refine ⟨t, ?_⟩
              rw [List.getElem?_eq_getElem (by omega), q, if_neg (Nat.not_lt_zero k)]
              congr 2
              unfold dd
              omega⟩
            clear hrow hlen
            refine' packP (σ := Tok) (fun z => [(Str.ofString "a", .str (oneS ca m0) j6), (Str.ofString "b", .str (oneS cb n0) j7), (Str.ofString "max_cost", .int mc k3), (Str.ofString "row", .ref D), (Str.ofString "result", .int 0 z)]) (fun _ => [(D, listOf row.toArray e)]) (fun _ => True) ?pF ?pN _ ?pm ?pn ?pp ?_
            case pF => k_asm
            case pN => k_asm
            case pn => exact (List.forall_mem_cons.mpr ⟨by k_mem, (List.forall_mem_nil _)⟩)
            case pm => kst_all
            case pp => trivial
            rintro j8 m9 hm9 _ F10 N10

            refine iter_rangeUnr (n := n0) (by rfl) hR (range_small (by decide) (by decide) (by omega) (by omega)) (range_size (.inl ⟨by omega, by omega⟩)) F10 N10 (fun I hI => ?_)
            refine range_inv (σ := DpS) (fun i z => [(D, listOf z.row.toArray z.en)]) (fun i z => [(Str.ofString "a", .str (oneS ca m0) j6), (Str.ofString "b", .str (oneS cb n0) j7), (Str.ofString "max_cost", .int mc k3), (Str.ofString "row", .ref D), (Str.ofString "result", .int z.r z.kr)])
              (fun i z => RowOk m0 i 0 z.row ∧ (i = 0 ∨ z.r = dd i m0)) ?step ?done9 n0 0 _ _ (by omega) (fun p hp => Nat.ne_of_lt (hI p hp)) ⟨⟨row, e, 0, j8⟩, rfl, hm9, hr0, .inl rfl⟩
            case done9 =>
              intro z v h tk hP F11 N11
              obtain ⟨row2, en, r, kr⟩ := z
              dsimp only [kstB] at hP F11 N11
              have hr : r = mc := by
                rcases hP.2 with q | q
                · omega
                · rw [q, hmv]; exact dd_end m0 (Nat.lt_succ_of_le hm3) n0 (Nat.lt_succ_of_le hn5) hm1 hmn
              subst hr
              dsimp only
              repeat' ( first | (k_unfold; (try dsimp only)) | (k_end; wrow_close) | k_extra "own" | walk1 | (dsimp only; first | k_extra "own" | walk1) | (leave1; walk_say "STEP leave1"; try dsimp only) | fail "no step")
              refine' ret_end (sub' := []) (Q := fun r s' => R (.ok (.ret r)) s') hret N hkeep ?rF120 ?rN120 ?rG120 ?rM120 ?rin120 ?rsub120 ?rp120; (case rF120 => k_asm); (case rN120 => k_asm); (case rG120 => k_asm); (case rM120 => k_asm); (case rin120 => exact (List.forall_mem_nil _)); (case rsub120 => simp)
              exact ⟨⟨_, rfl⟩, rfl⟩
            case step =>
              intro i z v t h tk hi hP ho F11 N11
              obtain ⟨row2, en, r, kr⟩ := z
              dsimp only [kstB] at hP ho F11 N11 ⊢
              obtain ⟨hrow, hres⟩ := hP
              have oD : D ≠ I := ho (D, _) (.head _)
              clear ho
              simp only [Int.zero_add] at F11
              repeat' ((fail_if_success (with_reducible show wpAny _ _ (pyIter _) _ _ _)); (fail_if_success (with_reducible show UnrEnd _ _ _ _ _ _ _)); (fail_if_success (with_reducible show KswEnd _ _ _ _ _ _ _ _ _ _ _ _)); first | (k_unfold; (try dsimp only)) | (k_end; wrow_close) | k_extra "own" | walk1 | (dsimp only; first | k_extra "own" | walk1) | (leave1; walk_say "STEP leave1"; try dsimp only) | fail "no step")
              rename IsRange _ _ _ _ _ _ _ _ => hR3
              refine' packP (σ := Tok × Tok × Tok × Tok) (fun z => [(Str.ofString "a", .str (oneS ca m0) j6), (Str.ofString "b", .str (oneS cb n0) j7), (Str.ofString "max_cost", .int mc k3), (Str.ofString "row", .ref D), (Str.ofString "bindex", .int (i : Int) t), (Str.ofString "bchar", .str ⟨#[cb]⟩ z.1), (Str.ofString "distance", .int (dd i 0) z.2.1), (Str.ofString "result", .int (2 * (i : Int)) z.2.2.1), (Str.ofString "minimum", .int 9223372036854775807 z.2.2.2)]) (fun _ => [(I, itR (0 + ((i + 1 : Nat) : Int)) ((n0 : Int) - ((i + 1 : Nat) : Int))), (D, listOf row2.toArray en)]) (fun _ => True) ?pF ?pN ⟨_, _, _, _⟩ ?pm ?pn ?pp ?_
              case pF => k_asm
              case pN => k_asm
              case pn => exact (List.forall_mem_cons.mpr ⟨by k_mem, (List.forall_mem_cons.mpr ⟨by k_mem, (List.forall_mem_nil _)⟩)⟩)
              case pm =>
                rw [dd_zero, show 2 * (i : Int) = (i : Int) * 2 from Int.mul_comm _ _]
                kst_all
              case pp => trivial
              rintro ⟨g1, g2, g3, g4⟩ m9 hm9 _ F10 N10
              dsimp only at hm9
              refine iter_rangeUnr (n := m0) (by rfl) hR3 (range_small (by decide) (by decide) (by omega) (by omega)) (range_size (.inl ⟨by omega, by omega⟩)) F10 N10 (fun I2 hI2 => ?_)
              refine range_inv (σ := InS) (fun j z => [(I, itR (0 + ((i + 1 : Nat) : Int)) ((n0 : Int) - ((i + 1 : Nat) : Int))), (D, listOf z.row.toArray z.en)])
                (fun j z => [(Str.ofString "a", .str (oneS ca m0) j6), (Str.ofString "b", .str (oneS cb n0) j7), (Str.ofString "max_cost", .int mc k3), (Str.ofString "row", .ref D), (Str.ofString "bindex", .int (i : Int) t), (Str.ofString "bchar", .str ⟨#[cb]⟩ g1), (Str.ofString "distance", .int z.d z.kd), (Str.ofString "result", .int z.r z.kr), (Str.ofString "minimum", .int z.mn z.km)])
                (fun j z => RowOk m0 i j z.row ∧ z.d = dd i j ∧ z.r = rr i j ∧ (∀ k, k < j → z.mn ≤ dd (i + 1) (k + 1)))
                ?step2 ?done10 m0 0 _ _ (by omega) (fun p hp => Nat.ne_of_lt (hI2 p hp)) ⟨⟨row2, en, dd i 0, 2 * (i : Int), 9223372036854775807, g2, g3, g4⟩, rfl, hm9, hrow, rfl, rfl, fun k hk => absurd hk (Nat.not_lt_zero k)⟩
              case done10 =>
                intro z v h tk hP F11 N11
                obtain ⟨row3, en3, d3, r3, mn3, kd3, kr3, km3⟩ := z
                dsimp only [kstB] at hP F11 N11
                obtain ⟨q1, q2, q3, q4⟩ := hP
                have hdl := (dd_least (Nat.lt_succ_of_le hm3) (Nat.lt_succ_of_le hn5) (Nat.lt_of_lt_of_le hi (Nat.le_succ_of_le hn5)) : LeastOk m0 n0 i) hi hm1 hmn
                have hmn3 : mn3 ≤ mc := by
                  rw [hmv, ← dd_end m0 (Nat.lt_succ_of_le hm3) n0 (Nat.lt_succ_of_le hn5) hm1 hmn]
                  exact Int.le_trans (q4 _ hdl.1) hdl.2
                have q5 : r3 = dd (i + 1) m0 := q3.trans (if_neg (Nat.ne_of_gt hm1))
                clear hdl
                clear q2 q3 q4
                dsimp only
                repeat' ( (fail_if_success (with_reducible show UnrEnd _ _ _ _ _ _ _)); (fail_if_success (with_reducible show KswEnd _ _ _ _ _ _ _ _ _ _ _ _)); first | (k_unfold; (try dsimp only)) | (k_end; wrow_close) | k_extra "own" | walk1 | (dsimp only; first | k_extra "own" | walk1) | (leave1; walk_say "STEP leave1"; try dsimp only) | fail "no step")
                all_goals first
                  | (exfalso; omega)
                  | (refine unr_end2 (⟨row3, en3, r3, kr3⟩ : DpS) (by k_asm) N11 (by k_mem) (List.forall_mem_cons.mpr ⟨by k_mem, (List.forall_mem_nil _)⟩) (List.forall_mem_cons.mpr ⟨oD, List.forall_mem_nil _⟩) (by kst_all) ⟨q1.next, .inr q5⟩)
              case step2 =>
                intro j z v t3 h tk hj hP ho F11 N11
                obtain ⟨row3, en3, d3, r3, mn3, kd3, kr3, km3⟩ := z
                dsimp only [kstB] at hP ho F11 N11 ⊢
                obtain ⟨q1, q2, q3, q4⟩ := hP
                have oD2 : D ≠ I2 := ho (D, _) (by k_mem)
                have oI2 : I ≠ I2 := ho (I, _) (by k_mem)
                clear ho
                simp only [Int.zero_add] at F11
                obtain ⟨tko, ho⟩ := q1.old hj
                have hi5 : i < 5 := Nat.lt_of_lt_of_le hi hn5
                have hj3 : j < 3 := Nat.lt_of_lt_of_le hj hm3
                repeat' ( (fail_if_success (with_reducible show UnrEnd _ _ _ _ _ _ _)); (fail_if_success (with_reducible show KswEnd _ _ _ _ _ _ _ _ _ _ _ _)); first | (k_unfold; (try dsimp only)) | (k_end; wrow_close) | k_extra "own" | walk1 | (dsimp only; first | k_extra "own" | walk1) | (leave1; walk_say "STEP leave1"; try dsimp only) | fail "no step")
                all_goals
                  have hv : (if d3 + 1 < (if dd i (j + 1) < r3 then dd i (j + 1) else r3) + 2 then d3 + 1 else (if dd i (j + 1) < r3 then dd i (j + 1) else r3) + 2) = dd (i + 1) (j + 1) := by
                    rw [q2, q3]
                    exact dd_step i hi5 j hj3
                  rename News _ _ _ _ => Nn
                  rename Fr _ _ _ _ => Fn
                  simp only [hv] at Nn Fn
                  refine' unr_end2 (⟨row3.set j (.int (dd (i + 1) (j + 1)) _), en3, dd i (j + 1), dd (i + 1) (j + 1), _, _, _, _⟩ : InS) Fn Nn (by k_mem) (List.forall_mem_cons.mpr ⟨by k_mem, (List.forall_mem_cons.mpr ⟨by k_mem, (List.forall_mem_nil _)⟩)⟩) (List.forall_mem_cons.mpr ⟨oI2, List.forall_mem_cons.mpr ⟨oD2, List.forall_mem_nil _⟩⟩) (by kst_all) ⟨q1.set hj rfl, rfl, (if_neg (Nat.succ_ne_zero j)).symm, ?q5⟩
                  case q5 =>
                    intro k hk
                    dsimp only
                    rcases Nat.lt_or_eq_of_le (Nat.le_of_lt_succ hk) with h | h
                    · first
                      | exact q4 k h
                      | (with_reducible rename _ < mn3 => z9; rw [hv] at z9; exact Int.le_of_lt (Int.lt_of_lt_of_le z9 (q4 k h)))
                    · subst h
                      first
                      | exact Int.le_refl _
                      | (with_reducible rename ¬ _ < mn3 => z9; rw [hv] at z9; exact Int.not_lt.mp z9)
end
def ZEnd (h₀ : Heap) (L : Addr) (m : Str → Option Value) (s₁ : Shared) (led : Led) (V : Value → Prop) (y : Value) (s₂ : Shared) : Prop :=
  ∃ h' tk, s₂ = { s₁ with heap := h', toks := tk } ∧ Fr h₀ L h' m ∧ News h₀ L h' led ∧ V y
theorem zend {h₀ : Heap} {L : Addr} {m : Str → Option Value} {s₁ : Shared} {led all : Led} {V : Value → Prop} {y : Value} {h' : Heap} {tk : Nat} (F : Fr h₀ L h' m) (N : News h₀ L h' all) (hs : ∀ p ∈ led, p ∈ all) (v : V y) : ZEnd h₀ L m s₁ led V y { s₁ with heap := h', toks := tk } :=
  ⟨h', tk, rfl, F, fun p hp => N p (hs p hp), v⟩
section
open LCg
variable {prog : Program} {w : World} {A : Around} {E : Value → Shared → Prop} {s : Shared} {h₀ : Heap} {L : Addr} {m : Str → Option Value} {env : Env} {news : Led}
theorem pair_block {elt iter : Expr} {a b : Str} {pa pb tp : Pos} {kk : Nat} {scope : Scope} {cl : List (Str × Addr)} {pos : Pos} {s₂ : Shared} {I : Addr} {fp wr : List Addr} {n : Nat} {Pt : Nat → Array Value → Prop} {St : Nat → Heap → Prop} {Mid : Nat → Addr → Heap → Prop} {V : Nat → Value → Prop} {RR : Value → Addr → Result → Shared → Prop}
    (W : WalksU prog w A I fp wr n Pt St Mid) (hh : A.handled = none) (hPt : ∀ i vals, Pt i vals → ∃ x y, vals = #[x, y]) (hsz : n ≤ sizeLine)
    (hcell : ∀ y ∈ scope.names, y.2 ≠ .cell) (hkind : scope.kind = .function) (hxa : scope.names.lookup a = some .local) (hxb : scope.names.lookup b = some .local) (hab : ¬ a = b)
    (hst : St 0 s₂.heap) (hfp : ∀ b ∈ fp, b < s₂.heap.objs.size) (hwr : ∀ b ∈ wr, h₀.get? b = none) (hLf : L ∉ fp) (F : Fr h₀ L s₂.heap m) (N : News h₀ L s₂.heap news) (hnw : ∀ p ∈ news, p.1 ∉ wr)
    (turn : ∀ i x y, Pt i #[x, y] → ∀ C oC m₂ h tk rest (E' : Value → Shared → Prop), NsObj oC m₂ → m₂ a = some x → m₂ b = some y → Fr h₀ L h m → News h₀ L h ((C, oC) :: rest) →
      wpAny (model prog w) A (eval elt (compEnvC scope cl C env)) (ZEnd h₀ L m { s₂ with heap := h, toks := tk } ((C, oC) :: rest) (V i)) E' { s₂ with heap := h, toks := tk })
    (hRR : ∀ D C h tk m' ys, Fr h₀ L h m → News h₀ L h ((D, lst ys) :: news) → (∀ p ∈ news, p.1 ≠ D) → h.Ns C m' → h₀.get? C = none → C ≠ L → C ≠ D → (∀ p ∈ news, p.1 ≠ C) → ys.length = n → (∀ i v, ys[i]? = some v → V i v) →
      RR (.ref D) C (.ok .next) { s₂ with heap := h, toks := tk }) :
    wpAny (model prog w) A (newList []) (fun acc s₃ => wpAny (model prog w) A (newFunctionEnv scope env.globals cl [] env.qual none .none (some env)) (fun cenv s₄ =>
      codeAny (model prog w) A (.compStart (.ListComp elt [⟨.Tuple [.Name a pa, .Name b pb] kk tp, iter, [], 0⟩] scope pos) 0 (.ref I) acc { cenv with scope := relabel scope env }) (RR acc cenv.locals) s₄) E s₃) E s₂ := by
  refine wpAny_newObj_type (wpAny_newFunctionEnv hcell (by intro y hy; simp at hy) (fun h₁ hns₁ hsb₁ => ?_) hkind)
  dsimp only at hns₁ hsb₁ ⊢
  generalize hH2 : s₂.heap.push { cls := .type "list", dict := none, data := .seq ([] : List Value).toArray } = H2 at hns₁ hsb₁ ⊢
  have hC : H2.objs.size = s₂.heap.objs.size + 1 := by rw [← hH2, Heap.size_push]
  have below : ∀ b, b < s₂.heap.objs.size → b ≠ H2.objs.size ∧ b ≠ s₂.heap.objs.size := fun b hb => ⟨by rw [hC]; exact Nat.ne_of_lt (Nat.lt_succ_of_lt hb), Nat.ne_of_lt hb⟩
  have hDC : s₂.heap.objs.size ≠ H2.objs.size := by rw [hC]; exact Nat.ne_of_lt (Nat.lt_succ_self _)
  have hDf : s₂.heap.objs.size ∉ fp := fun hm => Nat.lt_irrefl _ (hfp _ hm)
  have hCf : H2.objs.size ∉ fp := fun hm => by have := hfp _ hm; rw [hC] at this; exact Nat.lt_irrefl _ (Nat.lt_of_succ_lt this)
  have old : ∀ b o, s₂.heap.get? b = some o → h₁.get? b = some o := fun b o e => hsb₁.extBut b o (below b (Heap.lt_size e)).1 (Heap.get?_push_of_some _ (hH2 ▸ Heap.get?_push_of_some _ e))
  have hacc : h₁.get? s₂.heap.objs.size = some (lst []) := hsb₁.extBut _ _ hDC (Heap.get?_push_of_some _ (hH2 ▸ Heap.get?_push_size _ rfl))
  have fresh₀ : ∀ a, s₂.heap.objs.size ≤ a → h₀.get? a = none := fun a ha => by
    cases e : h₀.get? a with
    | none => rfl
    | some o' => exact absurd (Heap.lt_size (F.keep a o' e)) (Nat.not_lt.mpr ha)
  have hD₀ : h₀.get? s₂.heap.objs.size = none := fresh₀ _ (Nat.le_refl _)
  have hC₀ : h₀.get? H2.objs.size = none := fresh₀ _ (by rw [hC]; exact Nat.le_succ _)
  have hLlt : L < s₂.heap.objs.size := F.ns.lt
  have hDL : s₂.heap.objs.size ≠ L := Ne.symm (below L hLlt).2
  have hCL : H2.objs.size ≠ L := Ne.symm (below L hLlt).1
  have offN : ∀ p ∈ news, p.1 ≠ H2.objs.size ∧ p.1 ≠ s₂.heap.objs.size := fun p hp => below _ (Heap.lt_size (N p hp).1)
  have hCw : H2.objs.size ∉ wr := fun h => hCf (W.sub _ h)
  have hDw : s₂.heap.objs.size ∉ wr := fun h => hDf (W.sub _ h)
  have hLw : L ∉ wr := fun h => hLf (W.sub _ h)
  have oldw : ∀ b o, h₀.get? b = some o → b ∉ wr := fun b o e hb => by rw [hwr b hb] at e; cases e
  have loop : ∀ s₃ : Shared, s₃ = { s₂ with heap := h₁, toks := s₂.toks + ([] : List (Str × Value)).length } →
      codeAny (model prog w) A (.compLoop (.ListComp elt [⟨.Tuple [.Name a pa, .Name b pb] kk tp, iter, [], 0⟩] scope pos) 0 (.ref I) (.ref s₂.heap.objs.size) (compEnvC scope cl H2.objs.size env))
        (RR (.ref s₂.heap.objs.size) H2.objs.size) s₃ := by
    rintro s₃ rfl
    refine kcp_loop
      (fun k s' => ∃ h' tk i ys m', s' = { s₂ with heap := h', toks := tk } ∧ i ≤ n ∧ k = n + 1 - i ∧ ys.length = i ∧ St i h' ∧ Fr h₀ L h' m ∧ h'.Ns H2.objs.size m' ∧
        News h₀ L h' ((s₂.heap.objs.size, lst ys) :: news) ∧ (∀ j v, ys[j]? = some v → V j v)) ?_ (n + 1)
      ⟨h₁, _, 0, [], _, rfl, Nat.zero_le _, rfl, rfl, W.frame _ _ _ hst fun b _ o e => old b o e, F.keeps old, hns₁, fun p hp => ?_, fun j v e => by simp at e⟩
    · rintro k s' ⟨h', tk, i, ys, m', rfl, hi, rfl, hyl, hst', F', hn', N', hV⟩
      by_cases hlt : i < n
      · refine W.item i _ _ _ hlt hst' fun T vals h₂ tk₂ hP hT hMd hk₂ => ?_
        obtain ⟨x, y, rfl⟩ := hPt i vals hP
        refine W.go _ _ _ i T _ _ _ hMd fun h₃ hst₃ hk₃ => ?_
        have hT₃ : h₃.IsTuple T #[x, y] := hT.at fun o e => hk₃ T o (W.apart i T h₂ hMd) e
        have up₃ : ∀ c o, c ∉ wr → h'.get? c = some o → h₃.get? c = some o := fun c o hc e => hk₃ c o hc (hk₂ c o hc e)
        refine kcp_assign (env := compEnvC scope cl H2.objs.size env) hh hT₃ (lookup_relabel_local hxa) (lookup_relabel_local hxb) (by simp [compEnvC, relabel, hkind]) (hn'.at' fun o e => up₃ _ o hCw e) fun h₄ tk₄ hn₄ hs₄ => ?_
        have up : ∀ c o, c ∉ wr → c ≠ H2.objs.size → h'.get? c = some o → h₄.get? c = some o := fun c o h1 h2 e => hs₄ c o h2 (up₃ c o h1 e)
        have hst₄ : St (i + 1) h₄ := W.frame _ _ _ hst₃ fun b hb o e => hs₄ b o (fun q => hCf (by have q' : b = H2.objs.size := q; rw [← q']; exact hb)) e
        obtain ⟨oC, heC, hoC⟩ := ns_obj hn₄
        have F₄ : Fr h₀ L h₄ m := ⟨F'.ns.at' fun o e => up _ o hLw (Ne.symm hCL) e, fun c o e => up c o (oldw c o e) (fun q => by rw [q, hC₀] at e; cases e) (F'.keep c o e), F'.above⟩
        have Nown : News h₀ L h₄ (ownOf h₀ fp h₄) := news_ownOf hLf
        have N₄ : News h₀ L h₄ ((H2.objs.size, oC) :: (s₂.heap.objs.size, lst ys) :: (news ++ ownOf h₀ fp h₄)) := fun q hq => by
          rcases List.mem_cons.mp hq with rfl | hq
          · exact ⟨heC, hCL, hC₀⟩
          · rcases List.mem_cons.mp hq with rfl | hq
            · have z := N' _ List.mem_cons_self
              exact ⟨up _ _ hDw hDC z.1, z.2⟩
            · rcases List.mem_append.mp hq with hq | hq
              · have z := N' q (List.mem_cons_of_mem _ hq)
                exact ⟨up _ _ (hnw q hq) (offN q hq).1 z.1, z.2⟩
              · exact Nown q hq
        refine wpAny_mono (turn i x y hP H2.objs.size oC _ h₄ tk₄ _ _ hoC (by simp [hab]) (by simp) F₄ N₄) (fun v s₅ h₅ => ?_) fun _ _ e => e
        obtain ⟨h₅, tk₅, rfl, F₅, N₅, hv⟩ := h₅
        have zC := (N₅ _ List.mem_cons_self).1
        have zD := (N₅ _ (List.mem_cons_of_mem _ List.mem_cons_self)).1
        have N₅' : News h₀ L h₅ (news ++ ownOf h₀ fp h₄) := fun q hq => N₅ q (List.mem_cons_of_mem _ (List.mem_cons_of_mem _ hq))
        have hst₅ : St (i + 1) h₅ := W.frame _ _ _ hst₄ fun b hb o e => by
          cases hn : h₀.get? b with
          | some o₀ =>
            have : o₀ = o := by have := F₄.keep b o₀ hn; rw [e] at this; exact (Option.some.inj this).symm
            exact this ▸ F₅.keep b o₀ hn
          | none => exact (N₅' _ (List.mem_append_right _ (mem_ownOf hb hn e))).1
        refine append_at (hsz := by show ys.toArray.size ≤ sizeLine; rw [List.size_toArray, hyl]; exact Nat.le_trans hi hsz) zD fun h₆ hs₆ hD₆ => ?_
        refine ⟨n + 1 - (i + 1), by omega, h₆, tk₅, i + 1, ys ++ [v], _, rfl, hlt, rfl, by rw [List.length_append, List.length_singleton, hyl], W.frame _ _ _ hst₅ fun b hb o e => hs₆.extBut b o (fun q => hDf (by have q' : b = s₂.heap.objs.size := q; rw [← q']; exact hb)) e, F₅.change hs₆ hDL hD₀,
          (hoC.ns zC).sameBut hs₆ (Ne.symm hDC), fun q hq => ?_, fun j v' e => ?_⟩
        · rcases List.mem_cons.mp hq with rfl | hq
          · exact ⟨hD₆.trans (congrArg some (lst_snoc ys v)), hDL, hD₀⟩
          · have z := N₅' q (List.mem_append_left _ hq)
            exact ⟨hs₆.extBut _ _ (offN q hq).2 z.1, z.2⟩
        · rcases Nat.lt_or_ge j ys.length with hl | hl
          · rw [List.getElem?_append_left hl] at e
            exact hV j v' e
          · rw [List.getElem?_append_right hl] at e
            rcases Nat.eq_zero_or_pos (j - ys.length) with h | h
            · rw [h] at e
              cases e
              have : j = i := by omega
              exact this ▸ hv
            · rw [List.getElem?_eq_none (by show 1 ≤ j - ys.length; omega)] at e
              cases e
      · obtain rfl : i = n := Nat.le_antisymm hi (Nat.not_lt.mp hlt)
        refine W.done _ _ _ hst' fun h₂ tk₂ hk₂ => ?_
        refine hRR _ _ h₂ tk₂ _ ys ⟨F'.ns.at' fun o e => hk₂ _ o hLw e, fun c o e => hk₂ c o (oldw c o e) (F'.keep c o e), F'.above⟩ (fun p hp => ⟨hk₂ _ _ ?_ (N' p hp).1, (N' p hp).2⟩) (fun p hp => (offN p hp).2) (hn'.at' fun o e => hk₂ _ o hCw e) hC₀ hCL (Ne.symm hDC) (fun p hp => (offN p hp).1) hyl hV
        rcases List.mem_cons.mp hp with rfl | hp
        · exact hDw
        · exact hnw p hp
    · rcases List.mem_cons.mp hp with rfl | hp
      · exact ⟨hacc, hDL, hD₀⟩
      · exact ⟨old _ _ (N p hp).1, (N p hp).2⟩
  exact codeAny_compStart_list (loop _ rfl) (W.self 0 _ _ _ (W.frame _ _ _ hst fun b _ o e => old b o e) (loop _ rfl))
end
section
open LCg
variable {prog : Program} {w : World} {A : Around} {E : Value → Shared → Prop} {s : Shared} {h₀ : Heap} {L : Addr} {m : Str → Option Value} {env : Env} {news : Led}
def ZSrc (prog : Program) (w : World) (A : Around) (h₀ : Heap) (L : Addr) (m : Str → Option Value) (env : Env) (elt : Expr) (a b : Str) (scope : Scope) (cl : List (Str × Addr)) (Q : Value → Shared → Prop) (xv : Value) (s₁ : Shared) : Prop :=
  ∃ (z TI TO i1 i2 l1 l2 : Addr) (xs ys : List Value) (V : Nat → Value → Prop) (news : Led), xv = .ref z ∧ A.handled = none ∧ ZipApart z TI TO i1 i2 l1 l2 ∧
    (IsZip s₁.heap z TI TO .none ∧ IsPair s₁.heap TI (.ref i1) (.ref i2) ∧ (∃ a b, IsPair s₁.heap TO a b) ∧ s₁.heap.IsListIter i1 l1 0 ∧ s₁.heap.IsListIter i2 l2 0 ∧ s₁.heap.IsList l1 xs.toArray ∧ s₁.heap.IsList l2 ys.toArray) ∧
    Fr h₀ L s₁.heap m ∧ News h₀ L s₁.heap news ∧ (∀ b ∈ [z, TI, TO, i1, i2, l1, l2], b < s₁.heap.objs.size ∧ b ≠ L) ∧ (∀ b ∈ [z, TO, i1, i2], h₀.get? b = none ∧ ∀ p ∈ news, p.1 ≠ b) ∧ xs.length = ys.length ∧ xs.length ≤ sizeLine ∧
    (∀ i x y, xs[i]? = some x → ys[i]? = some y → ∀ C oC m₂ h tk rest (E' : Value → Shared → Prop), NsObj oC m₂ → m₂ a = some x → m₂ b = some y → Fr h₀ L h m → News h₀ L h ((C, oC) :: rest) →
      wpAny (model prog w) A (eval elt (compEnvC scope cl C env)) (ZEnd h₀ L m { s₁ with heap := h, toks := tk } ((C, oC) :: rest) (V i)) E' { s₁ with heap := h, toks := tk }) ∧
    ∀ D vs h tk, Fr h₀ L h m → News h₀ L h ((D, lst vs) :: news) → (∀ p ∈ news, p.1 ≠ D) → vs.length = xs.length → (∀ i v, vs[i]? = some v → V i v) → Q (.ref D) { s₁ with heap := h, toks := tk }
theorem ListComp_zip {elt iter : PySem.Expr} {a b : Str} {pa pb tp : Pos} {kk : Nat} {scope : Scope} {cl : List (Str × Addr)} {pos : Pos} {Q : Value → Shared → Prop} (_F₀ : Fr h₀ L s.heap m)
    (hclos : closureFor scope env = pure cl) (hcell : ∀ y ∈ scope.names, y.2 ≠ .cell) (hkind : scope.kind = .function)
    (hnames : ∀ y ∈ scope.names, y.2 = .local → scope.names.lookup y.1 = some .local) (hxa : scope.names.lookup a = some .local) (hxb : scope.names.lookup b = some .local) (hab : ¬ a = b)
    (h : wpAny (model prog w) A (eval iter env) (ZSrc prog w A h₀ L m env elt a b scope cl Q) E s)
    (hs : ∀ x, foldedSetIterable iter env x = pure x := by intro _; rfl) :
    wpAny (model prog w) A (eval (.ListComp elt [⟨.Tuple [.Name a pa, .Name b pb] kk tp, iter, [], 0⟩] scope pos) env) Q E s := by
  rw [eval_ListComp]
  refine wpAny_comprehension_free (use := none) rfl hs hclos hkind hnames (wpAny_mono h (fun xv s₁ h₁ => ?_) fun _ _ e => e)
  obtain ⟨z, TI, TO, i1, i2, l1, l2, xs, ys, V, news, rfl, hh, D, hst, F, N, hlt, hnew, hlen, hsz, turn, fin⟩ := h₁
  refine wpAny_pyIter_zip hst.1 ?_
  refine pair_block (V := V) (WalksT.zip2 hh z TI TO i1 i2 l1 l2 D xs.toArray ys.toArray).toU hh (fun i vals ⟨x, y, _, _, e⟩ => ⟨x, y, e⟩) (by rw [List.size_toArray, List.size_toArray, ← hlen, Nat.min_self]; exact hsz) hcell hkind hxa hxb hab hst (fun b hb => (hlt b hb).1) (fun b hb => (hnew b hb).1)
    (fun hm => (hlt L hm).2 rfl) F N (fun p hp hm => (hnew _ hm).2 p hp rfl) (fun i x y hP => ?_) ?_
  · obtain ⟨x', y', hx, hy, e⟩ := hP
    obtain ⟨e1, e2⟩ : x = x' ∧ y = y' := by simpa using congrArg Array.toList e
    subst e1 e2
    exact turn i x y (by simpa using hx) (by simpa using hy)
  · intro D' C h tk m' vs F' N' offD hn hC₀ hCL hCD offC hvl hV
    refine ⟨m', hn, fun h'' hs'' => fin D' vs h'' tk (F'.change hs'' hCL hC₀) (fun p hp => ⟨hs''.extBut _ _ ?_ (N' p hp).1, (N' p hp).2⟩) offD (by rw [hvl, List.size_toArray, List.size_toArray, ← hlen, Nat.min_self]) hV⟩
    rcases List.mem_cons.mp hp with rfl | hp
    · exact Ne.symm hCD
    · exact offC p hp
theorem zip_call {elt : PySem.Expr} {a b : Str} {scope : Scope} {cl : List (Str × Addr)} {Q : Value → Shared → Prop} {l1 l2 : Addr} {xs ys : List Value} {n1 n2 : Nat} (V : Nat → Value → Prop) (hh : A.handled = none) (F : Fr h₀ L s.heap m) (N : News h₀ L s.heap news)
    (hm1 : (l1, listOf xs.toArray n1) ∈ news) (hm2 : (l2, listOf ys.toArray n2) ∈ news) (hlen : xs.length = ys.length) (hsz : xs.length ≤ 1000)
    (turn : ∀ i x y, xs[i]? = some x → ys[i]? = some y → ∀ C oC m₂ h tk rest (E' : Value → Shared → Prop), NsObj oC m₂ → m₂ a = some x → m₂ b = some y → Fr h₀ L h m → News h₀ L h ((C, oC) :: rest) →
      wpAny (model prog w) A (eval elt (compEnvC scope cl C env)) (ZEnd h₀ L m { s with heap := h, toks := tk } ((C, oC) :: rest) (V i)) E' { s with heap := h, toks := tk })
    (fin : ∀ D vs h tk, Fr h₀ L h m → News h₀ L h ((D, lst vs) :: news) → (∀ p ∈ news, p.1 ≠ D) → vs.length = xs.length → (∀ i v, vs[i]? = some v → V i v) → Q (.ref D) { s with heap := h, toks := tk }) :
    wpAny (model prog w) A (call (.type "zip") [.ref l1, .ref l2]) (ZSrc prog w A h₀ L m env elt a b scope cl Q) E s := by
  have z1 := N _ hm1
  have z2 := N _ hm2
  have hl1 : s.heap.IsList l1 xs.toArray := ⟨_, z1.1, rfl, _, rfl⟩
  have hl2 : s.heap.IsList l2 ys.toArray := ⟨_, z2.1, rfl, _, rfl⟩
  have t1 : l1 < s.heap.objs.size := Heap.lt_size z1.1
  have t2 : l2 < s.heap.objs.size := Heap.lt_size z2.1
  have tL : L < s.heap.objs.size := F.ns.lt
  refine call_zip_2 hl1 hl2 fun h' hz hTI hTO hi1 hi2 hsize hk => ?_
  have up : ∀ k, L ≠ s.heap.objs.size + k := fun k e => Nat.ne_of_lt (Nat.lt_of_lt_of_le tL (Nat.le_add_right _ k)) e
  have nw : ∀ k, h₀.get? (s.heap.objs.size + k) = none := fun k => Heap.get?_none_of_le (Nat.le_trans F.above (Nat.le_trans (Nat.le_of_lt tL) (Nat.le_add_right _ k)))
  have dn : ∀ p ∈ news, ∀ k, p.1 ≠ s.heap.objs.size + k := fun p hp k e => Nat.ne_of_lt (Nat.lt_of_lt_of_le (Heap.lt_size (N p hp).1) (Nat.le_add_right _ k)) e
  refine ⟨_, _, _, _, _, l1, l2, xs, ys, V, news, rfl, hh, zipApart_new t1 t2, ⟨hz, hTI, ⟨_, _, hTO⟩, hi1, hi2, hl1.at fun o e => hk _ o e, hl2.at fun o e => hk _ o e⟩, F.keeps hk, N.grown hk, fun b hb => ?_, fun b hb => ?_, hlen, by rw [sizeLine_eq]; omega, turn, fin⟩
  · show b < h'.objs.size ∧ b ≠ L
    rw [hsize]
    simp only [List.mem_cons, List.not_mem_nil, or_false] at hb
    rcases hb with rfl | rfl | rfl | rfl | rfl | rfl | rfl
    · exact ⟨Nat.add_lt_add_left (by decide) _, Ne.symm (up 4)⟩
    · exact ⟨Nat.add_lt_add_left (by decide) _, Ne.symm (up 2)⟩
    · exact ⟨Nat.add_lt_add_left (by decide) _, Ne.symm (up 3)⟩
    · exact ⟨Nat.lt_add_of_pos_right (by decide), Ne.symm (up 0)⟩
    · exact ⟨Nat.add_lt_add_left (by decide) _, Ne.symm (up 1)⟩
    · exact ⟨Nat.lt_of_lt_of_le t1 (Nat.le_add_right _ 5), z1.2.1⟩
    · exact ⟨Nat.lt_of_lt_of_le t2 (Nat.le_add_right _ 5), z2.2.1⟩
  · simp only [List.mem_cons, List.not_mem_nil, or_false] at hb
    rcases hb with rfl | rfl | rfl | rfl
    · exact ⟨nw 4, fun p hp => dn p hp 4⟩
    · exact ⟨nw 3, fun p hp => dn p hp 3⟩
    · exact ⟨nw 0, fun p hp => dn p hp 0⟩
    · exact ⟨nw 1, fun p hp => dn p hp 1⟩
end

/-- a lead as its word and its marks show it -/
structure MarkZ where
  t : Nat
  b : Nat
  a : Nat
  m1 : Int
  m2 : Int
  m3 : Int
  q1 : Tok
  q2 : Tok
  q3 : Tok
  wt : Tok
abbrev MarkZ.ent (m : MarkZ) : Addr × Obj := (m.a, listOf #[.int m.m1 m.q1, .int m.m2 m.q2, .int m.m3 m.q3] 0)
structure MarkZ.Ok (m : MarkZ) : Prop where
  t3 : m.t ≤ 3
  b5 : m.b ≤ 5
  e1 : m.m1 = 2 * ((m.b : Int) + 1 * m.t)
  e2 : m.m2 = (m.b : Int) + 2 * m.t
  e3 : m.m3 = 3 * ((m.b : Int) + 1 * m.t) - ((m.b : Int) + 2 * m.t)
structure Row where
  a : Nat
  its : List Value
  en : Nat
abbrev Row.ent (r : Row) : Addr × Obj := (r.a, listOf r.its.toArray r.en)
theorem sub_pickG {prog : Program} {w : World} {A : Around} {E : Value → Shared → Prop} {s : Shared} {Q : Value → Shared → Prop} {value slice : PySem.Expr} {h₀ : Heap} {L D : Addr} {news : Led} {α : Type} {M0 M1 M2 M3 M4 X : α} {n : Nat} {k : Nat} {u : Tok} (f : α → Value)
    (N : News h₀ L s.heap news) (hm : (D, listOf #[f M0, f M1, f M2, f M3, f M4] n) ∈ news) (h5 : k < 5) (hX : pick M0 M1 M2 M3 M4 (k : Int) = X) (h : Q (f X) s)
    (hs : subscripted slice false (.ref D) (.int (k : Int) u) = operate [.ref D, .int (k : Int) u] (getItem (.ref D) (.int (k : Int) u)) := by with_unfolding_all rfl) :
    wpAny (model prog w) A (subscriptTail value slice (.ref D) (.int (k : Int) u)) Q E s := by
  refine sub_news N hm (Int.natCast_nonneg _) (by omega) ?_ h hs
  subst hX
  rcases (by omega : k = 0 ∨ k = 1 ∨ k = 2 ∨ k = 3 ∨ k = 4) with rfl | rfl | rfl | rfl | rfl <;> rfl
def dueM (x y : MarkZ) : Int := max (max ((x.m1 - y.m1).natAbs : Int) ((x.m2 - y.m2).natAbs : Int)) ((x.m3 - y.m3).natAbs : Int)
theorem of_allLt {d : Addr} : ∀ {l : Led}, AllLt d l → ∀ p ∈ l, p.1 < d
  | [], _, _, h => nomatch h
  | _ :: _, ⟨h1, h2⟩, p, h => by
    rcases List.mem_cons.mp h with rfl | h
    · exact h1
    · exact of_allLt h2 p h
theorem off_lt {rr : Led} {c d : Nat} (h : ∀ p ∈ rr, p.1 < c) (hd : c ≤ d) : ∀ p ∈ rr, p.1 ≠ d := fun p hp => Nat.ne_of_lt (Nat.lt_of_lt_of_le (h p hp) hd)
theorem push_row (l : List Value) (v : Value) : l.toArray.push v = (l ++ [v]).toArray := by simp
abbrev refsOf (rows : List Row) : List Value := rows.map fun r => Value.ref r.a
def mAt (x : MarkZ) : Nat → Int
  | 0 => x.m1
  | 1 => x.m2
  | _ => x.m3
theorem mAt_of {x : MarkZ} {i : Nat} {v : Value} (h : [Value.int x.m1 x.q1, .int x.m2 x.q2, .int x.m3 x.q3][i]? = some v) (ok : x.Ok) : ∃ t, v = .int (mAt x i) t ∧ -100 ≤ mAt x i ∧ mAt x i ≤ 100 := by
  obtain ⟨h1, h2, h3, h4, h5⟩ := ok
  match i, h with
  | 0, h => exact ⟨_, (Option.some.inj h).symm, by show -100 ≤ x.m1; omega, by show x.m1 ≤ 100; omega⟩
  | 1, h => exact ⟨_, (Option.some.inj h).symm, by show -100 ≤ x.m2; omega, by show x.m2 ≤ 100; omega⟩
  | 2, h => exact ⟨_, (Option.some.inj h).symm, by show -100 ≤ x.m3; omega, by show x.m3 ≤ 100; omega⟩
  | n + 3, h => cases h
theorem abs_if (z : Int) : (if z < 0 then -z else z) = (z.natAbs : Int) := by
  split <;> omega
theorem three_ints {X Y : MarkZ} {vs : List Value} (hl : vs.length = 3) (hV : ∀ (i : Nat) (v : Value), vs[i]? = some v → ∃ t, v = .int ((mAt X i - mAt Y i).natAbs : Int) t) :
    ∃ t0 t1 t2, vs = [Value.int ((X.m1 - Y.m1).natAbs : Int) t0, Value.int ((X.m2 - Y.m2).natAbs : Int) t1, Value.int ((X.m3 - Y.m3).natAbs : Int) t2] := by
  match vs, hl with
  | [a, b, c], _ =>
    obtain ⟨t0, rfl⟩ := hV 0 a rfl
    obtain ⟨t1, rfl⟩ := hV 1 b rfl
    obtain ⟨t2, rfl⟩ := hV 2 c rfl
    exact ⟨t0, t1, t2, rfl⟩
theorem max3 {M a b c : Int} (ha : M = a ∨ M = b ∨ M = c) (hb : a ≤ M ∧ b ≤ M ∧ c ≤ M) : M = max (max a b) c := by omega
theorem due_ok {X Y : MarkZ} {M : Int} (hx : X.Ok) (hy : Y.Ok) (ha : M = ((X.m1 - Y.m1).natAbs : Int) ∨ M = ((X.m2 - Y.m2).natAbs : Int) ∨ M = ((X.m3 - Y.m3).natAbs : Int)) (hb : ((X.m1 - Y.m1).natAbs : Int) ≤ M ∧ ((X.m2 - Y.m2).natAbs : Int) ≤ M ∧ ((X.m3 - Y.m3).natAbs : Int) ≤ M) :
    M = dueM X Y ∧ M = dueT X.t X.b Y.t Y.b := by
  have e := max3 ha hb
  refine ⟨e, ?_⟩
  rw [hx.e1, hx.e2, hx.e3, hy.e1, hy.e2, hy.e3] at e
  exact e
theorem five {α : Type} : ∀ (l : List α), l.length = 5 → ∃ a b c d e, l = [a, b, c, d, e]
  | [a, b, c, d, e], _ => ⟨a, b, c, d, e, rfl⟩
theorem snoc_get {α : Type} {l : List α} {x : α} {k n : Nat} (hl : l.length = n) {p : α → Prop} (h1 : k < n → ∀ y, l[k]? = some y → p y) (h2 : k = n → p x) : ∀ y, (l ++ [x])[k]? = some y → p y := fun y hy => by
  rcases Nat.lt_or_ge k l.length with h | h
  · rw [List.getElem?_append_left h] at hy
    exact h1 (hl ▸ h) y hy
  · rw [List.getElem?_append_right h] at hy
    rcases Nat.eq_zero_or_pos (k - l.length) with q | q
    · rw [q] at hy
      cases hy
      exact h2 (by omega)
    · rw [List.getElem?_eq_none (by show 1 ≤ k - l.length; omega)] at hy
      cases hy
/-- a row of the table of distances -/
def RowIs (p : Int → MarkZ) (k : Nat) (its : List Value) : Prop := ∀ l : Nat, l ≤ k → ∃ tk, its[l]? = some (.int (dueM (p k) (p l)) tk)
structure FarS where
  en : Nat
  rows : List Row
  rr : Led
structure FarI where
  its : List Value
  en : Nat
section
local macro_rules | `(tactic| k_ne) => `(tactic| (refine neN ?_; (try dsimp only); first | (refine Offs.at (by with_reducible assumption) ?_; (simp; done)) | (refine Ne.symm (Offs.at (by with_reducible assumption) ?_); (simp; done)) | exact Nat.ne_of_gt (by omega) | exact Nat.ne_of_lt (by omega)))
theorem far_spec {w : World} {mean : ExcName → Option Value} {mg mb : Str → Option Value} {M0 M1 M2 M3 M4 : MarkZ} {wd mk ew em : Nat} (hb : ∀ k : Int, (pick M0 M1 M2 M3 M4 k).Ok) :
  CodeSpec w mean mg mb 146 [.ref wd, .ref mk] [(wd, listOf #[.str (waStr M0.t M0.b) M0.wt, .str (waStr M1.t M1.b) M1.wt, .str (waStr M2.t M2.b) M2.wt, .str (waStr M3.t M3.b) M3.wt, .str (waStr M4.t M4.b) M4.wt] ew), (mk, listOf #[.ref M0.a, .ref M1.a, .ref M2.a, .ref M3.a, .ref M4.a] em), M0.ent, M1.ent, M2.ent, M3.ent, M4.ent] [] 20 200
   (fun r l => ∃ (fa en : Nat) (R0 R1 R2 R3 R4 : Row), r = .ref fa ∧ l = [(fa, listOf #[.ref R0.a, .ref R1.a, .ref R2.a, .ref R3.a, .ref R4.a] en), R0.ent, R1.ent, R2.ent, R3.ent, R4.ent] ∧
     RowIs (pick M0 M1 M2 M3 M4) 0 R0.its ∧ RowIs (pick M0 M1 M2 M3 M4) 1 R1.its ∧ RowIs (pick M0 M1 M2 M3 M4) 2 R2.its ∧ RowIs (pick M0 M1 M2 M3 M4) 3 R3.its ∧ RowIs (pick M0 M1 M2 M3 M4) 4 R4.its) := by
  k_with_none
  k_with "own" => ((with_reducible show wpAny _ _ (subscriptTail (Expr.Name _ _) (Expr.Name _ _) (Value.ref _) (Value.int _ _)) _ _ _); first | with_reducible ((k_here; k_dflt (first | (refine' sub_pickG (fun m : MarkZ => Value.ref m.a) ?N_w ?m_w ?h5_w ?x_w ?_ ?s_w; (case N_w => k_asm); (case m_w => k_mem); (case h5_w => with_reducible assumption); (case x_w => with_reducible assumption); (case s_w => with_unfolding_all rfl); k_whole; (try dsimp only)) | (refine' sub_pickG (fun m : MarkZ => Value.str (waStr m.t m.b) m.wt) ?N_w ?m_w ?h5_w ?x_w ?_ ?s_w; (case N_w => k_asm); (case m_w => k_mem); (case h5_w => with_reducible assumption); (case x_w => with_reducible assumption); (case s_w => with_unfolding_all rfl); k_whole; (try dsimp only)) | (refine' sub_at ?N_w ?m_w ?f_w ?x_w ?_ ?s_w; (case N_w => k_asm); (case m_w => k_mem); (case x_w => with_reducible assumption); (case f_w => omega); (case s_w => with_unfolding_all rfl); k_whole)))) | ((k_here; k_dflt (first | (refine' sub_pickG (fun m : MarkZ => Value.ref m.a) ?N_w ?m_w ?h5_w ?x_w ?_ ?s_w; (case N_w => k_asm); (case m_w => k_mem); (case h5_w => with_reducible assumption); (case x_w => with_reducible assumption); (case s_w => with_unfolding_all rfl); k_whole; (try dsimp only)) | (refine' sub_pickG (fun m : MarkZ => Value.str (waStr m.t m.b) m.wt) ?N_w ?m_w ?h5_w ?x_w ?_ ?s_w; (case N_w => k_asm); (case m_w => k_mem); (case h5_w => with_reducible assumption); (case x_w => with_reducible assumption); (case s_w => with_unfolding_all rfl); k_whole; (try dsimp only)) | (refine' sub_at ?N_w ?m_w ?f_w ?x_w ?_ ?s_w; (case N_w => k_asm); (case m_w => k_mem); (case x_w => with_reducible assumption); (case f_w => omega); (case s_w => with_unfolding_all rfl); k_whole)))); walk_say "OWN subscriptTail Name Name ref int")
  k_with "own" => ((with_reducible show wpAny _ _ (PySem.call (Value.ref _) _) _ _ _); first | with_reducible ((k_here; k_dflt (refine' pure_use (lev_spec (by with_reducible assumption) (by with_reducible assumption) (by with_reducible assumption) (by with_reducible assumption) (by with_reducible assumption)) ?uB_w ?uF_w ?uX_w ?uN_w ?uT_w ?uk_w ?uin_w ?ud_w ?uu_w ?_; (case uB_w => k_asm); (case uF_w => k_asm); (case uX_w => k_asm); (case uN_w => k_asm); (case uT_w => k_asm); (case uk_w => first | exact rfl | assumption); (case uin_w => exact (List.forall_mem_nil _)); (case ud_w => ktr_room); (case uu_w => ktr_units); k_whole); intro r9 h9 tk9 F9 N9 P9; obtain ⟨q9, e9⟩ := P9; subst e9; (try dsimp only); (try k_fold))) | ((k_here; k_dflt (refine' pure_use (lev_spec (by with_reducible assumption) (by with_reducible assumption) (by with_reducible assumption) (by with_reducible assumption) (by with_reducible assumption)) ?uB_w ?uF_w ?uX_w ?uN_w ?uT_w ?uk_w ?uin_w ?ud_w ?uu_w ?_; (case uB_w => k_asm); (case uF_w => k_asm); (case uX_w => k_asm); (case uN_w => k_asm); (case uT_w => k_asm); (case uk_w => first | exact rfl | assumption); (case uin_w => exact (List.forall_mem_nil _)); (case ud_w => ktr_room); (case uu_w => ktr_units); k_whole); intro r9 h9 tk9 F9 N9 P9; obtain ⟨q9, e9⟩ := P9; subst e9; (try dsimp only); (try k_fold))); walk_say "OWN call ref")
  k_with "own" => ((with_reducible show wpAny _ _ (PySem.eval (Expr.ListComp _ _ _ _) _) _ _ _); first | with_reducible ((k_here; k_dflt (refine ListComp_zip (by k_asm) (by with_unfolding_all rfl) (by decide) (by rfl) (by decide) (by rfl) (by rfl) (by decide) ?_))) | ((k_here; k_dflt (refine ListComp_zip (by k_asm) (by with_unfolding_all rfl) (by decide) (by rfl) (by decide) (by rfl) (by rfl) (by decide) ?_))); walk_say "OWN eval ListComp")
  k_with "own" => ((with_reducible show wpAny _ _ (PySem.call (Value.type "range") _) _ _ _); first | with_reducible (((rename Fr _ _ _ _ => F'); (rename News _ _ _ _ => N'); first | (with_unfolding_all refine range1_rows F' N' ?_; intro _ _ _ _ _ _ _ _ _) | (with_unfolding_all refine range2_rows F' N' ?_; intro _ _ _ _ _ _ _ _ _))) | (((rename Fr _ _ _ _ => F'); (rename News _ _ _ _ => N'); first | (with_unfolding_all refine range1_rows F' N' ?_; intro _ _ _ _ _ _ _ _ _) | (with_unfolding_all refine range2_rows F' N' ?_; intro _ _ _ _ _ _ _ _ _))); walk_say "OWN call type:range")
  unfold CodeSpec; k_fill; intro dp un gd cn cs a ccd cl outer A₀ base h₀ L m s R B F X N T hk hdp hu hret
  k_dflt (refine' spec_code ?k1 ?k2 ?k3 ?k4 ?k5 ?kA ?kF ?kK ?k6 ?k7 ?k8 ?k9 ?kB ?_ ?c2 ?c3 ?c4 ?c5; (case kA => exact rfl); (case kF => exact rfl); (case kK => assumption); (case k1 => k_asm); (case k2 => k_asm); (case k3 => k_asm); (case k4 => k_asm); (case k5 => k_asm); (case k6 => k_is); (case k7 => k_is); (case k8 => ktr_room); (case k9 => exact BindsTo.of_eq rfl); (case c5 => decide); (case kB => exact locs rfl); (case c2 => exact rfl); (case c3 => exact rfl); (case c4 => exact rfl); k_whole; intro g' L' h' FG' F' N' B' X' T' hkeep; (try dsimp only); (try k_lift B'); (try k_fold))
  repeat' ((fail_if_success (with_reducible show wpAny _ _ (pyIter _) _ _ _)); first | (k_unfold; (try dsimp only)) | (k_end; wrow_close) | k_extra "own" | walk1 | (dsimp only; first | k_extra "own" | walk1) | (leave1; walk_say "STEP leave1"; try dsimp only) | fail "no step")
  rename IsRange _ _ _ _ _ _ _ _ => hR
  refine' packP (σ := Nat) (fun z => [(Str.ofString "words", .ref wd), (Str.ofString "marks", .ref mk), (Str.ofString "far", .ref z)]) (fun z => (z, listOf #[] 0) :: [(wd, listOf #[.str (waStr M0.t M0.b) M0.wt, .str (waStr M1.t M1.b) M1.wt, .str (waStr M2.t M2.b) M2.wt, .str (waStr M3.t M3.b) M3.wt, .str (waStr M4.t M4.b) M4.wt] ew), (mk, listOf #[.ref M0.a, .ref M1.a, .ref M2.a, .ref M3.a, .ref M4.a] em), M0.ent, M1.ent, M2.ent, M3.ent, M4.ent]) (fun z => @LT.lt Nat _ wd z ∧ @LT.lt Nat _ mk z ∧ @LT.lt Nat _ M0.a z ∧ @LT.lt Nat _ M1.a z ∧ @LT.lt Nat _ M2.a z ∧ @LT.lt Nat _ M3.a z ∧ @LT.lt Nat _ M4.a z) ?pF ?pN _ ?pm ?pn ?pp ?_
  case pF => k_asm
  case pN => k_asm
  case pn => exact (List.forall_mem_cons.mpr ⟨by k_mem, (List.forall_mem_cons.mpr ⟨by k_mem, (List.forall_mem_cons.mpr ⟨by k_mem, (List.forall_mem_cons.mpr ⟨by k_mem, (List.forall_mem_cons.mpr ⟨by k_mem, (List.forall_mem_cons.mpr ⟨by k_mem, (List.forall_mem_cons.mpr ⟨by k_mem, (List.forall_mem_cons.mpr ⟨by k_mem, (List.forall_mem_nil _)⟩)⟩)⟩)⟩)⟩)⟩)⟩)⟩)
  case pm => kst_all
  case pp => exact ⟨by omega, by omega, by omega, by omega, by omega, by omega, by omega⟩
  rintro fa m9 hm9 hlt F10 N10
  refine iter_rangeUnr (n := 5) (by rfl) hR (range_small (by decide) (by decide) (by decide) (by decide)) (range_size (.inl ⟨by decide, by decide⟩)) F10 N10 (fun I hI => ?_)
  refine range_inv (σ := FarS) (fun i z => (fa, listOf (refsOf z.rows).toArray z.en) :: [(wd, listOf #[.str (waStr M0.t M0.b) M0.wt, .str (waStr M1.t M1.b) M1.wt, .str (waStr M2.t M2.b) M2.wt, .str (waStr M3.t M3.b) M3.wt, .str (waStr M4.t M4.b) M4.wt] ew), (mk, listOf #[.ref M0.a, .ref M1.a, .ref M2.a, .ref M3.a, .ref M4.a] em), M0.ent, M1.ent, M2.ent, M3.ent, M4.ent] ++ z.rr) (fun i z => [(Str.ofString "words", .ref wd), (Str.ofString "marks", .ref mk), (Str.ofString "far", .ref fa)])
    (fun i z => z.rows.length = i ∧ (∀ r ∈ z.rows, r.ent ∈ z.rr) ∧ (∀ p ∈ z.rr, fa < p.1) ∧ ∀ (k : Nat) (r : Row), z.rows[k]? = some r → RowIs (pick M0 M1 M2 M3 M4) k r.its) ?step ?done 5 0 _ _ rfl (fun p hp => Nat.ne_of_lt (hI p hp)) ⟨⟨0, [], []⟩, rfl, hm9, ⟨rfl, (fun r h => nomatch h), (fun p h => nomatch h), fun k r h => by simp at h⟩⟩
  case done =>
    intro z v h tk hP F11 N11
    obtain ⟨en, rows, rr⟩ := z
    dsimp only [kstB, List.cons_append, List.nil_append] at hP F11 N11
    obtain ⟨hlen, hrows, hgt, hrow⟩ := hP
    obtain ⟨R0, R1, R2, R3, R4, rfl⟩ := five rows hlen
    have l0 := hrow 0 R0 rfl; have l1 := hrow 1 R1 rfl; have l2 := hrow 2 R2 rfl; have l3 := hrow 3 R3 rfl; have l4 := hrow 4 R4 rfl
    have m0 := hrows R0 (by simp); have m1 := hrows R1 (by simp); have m2 := hrows R2 (by simp); have m3 := hrows R3 (by simp); have m4 := hrows R4 (by simp)
    simp only [refsOf, List.map_cons, List.map_nil] at N11
    clear hlen hrows hgt hrow
    dsimp only
    repeat' ( first | (k_unfold; (try dsimp only)) | (k_end; wrow_close) | k_extra "own" | walk1 | (dsimp only; first | k_extra "own" | walk1) | (leave1; walk_say "STEP leave1"; try dsimp only) | fail "no step")
    refine' ret_end (sub' := [(fa, listOf #[.ref R0.a, .ref R1.a, .ref R2.a, .ref R3.a, .ref R4.a] en), R0.ent, R1.ent, R2.ent, R3.ent, R4.ent]) (Q := fun r s' => R (.ok (.ret r)) s') hret N hkeep ?rF ?rN ?rG ?rM ?rin ?rsub ?rp
    case rF => k_asm
    case rN => k_asm
    case rG => k_asm
    case rM => k_asm
    case rin =>
      have q : ∀ p ∈ rr, p ∈ (fa, listOf #[.ref R0.a, .ref R1.a, .ref R2.a, .ref R3.a, .ref R4.a] en) :: [(wd, listOf #[.str (waStr M0.t M0.b) M0.wt, .str (waStr M1.t M1.b) M1.wt, .str (waStr M2.t M2.b) M2.wt, .str (waStr M3.t M3.b) M3.wt, .str (waStr M4.t M4.b) M4.wt] ew), (mk, listOf #[.ref M0.a, .ref M1.a, .ref M2.a, .ref M3.a, .ref M4.a] em), M0.ent, M1.ent, M2.ent, M3.ent, M4.ent] ++ rr := fun p hp => List.mem_append_right _ hp
      exact List.forall_mem_cons.mpr ⟨by k_mem, List.forall_mem_cons.mpr ⟨q _ m0, List.forall_mem_cons.mpr ⟨q _ m1, List.forall_mem_cons.mpr ⟨q _ m2, List.forall_mem_cons.mpr ⟨q _ m3, List.forall_mem_cons.mpr ⟨q _ m4, List.forall_mem_nil _⟩⟩⟩⟩⟩⟩
    case rsub => exact (List.forall_mem_cons.mpr ⟨.inr (by k_mem), (List.forall_mem_cons.mpr ⟨.inr (by k_mem), (List.forall_mem_cons.mpr ⟨.inr (by k_mem), (List.forall_mem_cons.mpr ⟨.inr (by k_mem), (List.forall_mem_cons.mpr ⟨.inr (by k_mem), (List.forall_mem_cons.mpr ⟨.inr (by k_mem), (List.forall_mem_cons.mpr ⟨.inr (by k_mem), (List.forall_mem_nil _)⟩)⟩)⟩)⟩)⟩)⟩)⟩)
    case rp => exact ⟨fa, en, R0, R1, R2, R3, R4, rfl, rfl, l0, l1, l2, l3, l4⟩
  case step =>
    intro i z v t h tk hi hP ho F11 N11
    obtain ⟨en, rows, rr⟩ := z
    dsimp only [kstB, List.cons_append, List.nil_append] at hP ho F11 N11 ⊢
    obtain ⟨hlen, hrows, hgt, hrow⟩ := hP
    simp only [Int.zero_add] at F11
    repeat' ((fail_if_success (with_reducible show wpAny _ _ (pyIter _) _ _ _)); (fail_if_success (with_reducible show UnrEnd _ _ _ _ _ _ _)); (fail_if_success (with_reducible show KswEnd _ _ _ _ _ _ _ _ _ _ _ _)); first | (k_unfold; (try dsimp only)) | (k_end; wrow_close) | k_extra "own" | walk1 | (dsimp only; first | k_extra "own" | walk1) | (leave1; walk_say "STEP leave1"; try dsimp only) | fail "no step")
    rename I < _ ∧ _ => l1
    rename_i cr h9 F12 N12
    have lI : @LT.lt Nat _ I cr := l1.1
    have lf : @LT.lt Nat _ fa cr := l1.2.1
    have lr : ∀ p ∈ rr, p.1 < cr := of_allLt l1.2.2.2.2.2.2.2.2.2
    clear l1
    have oI : fa ≠ I := ho (fa, _) (.head _)
    k_dflt (refine' append_K F12 N12 (Upd.tail (neN (Nat.ne_of_gt lf)) (Upd.tail (neN (Ne.symm oI)) (Upd.head ?uo))) ?_ ?uz)
    case uo => exact (List.forall_mem_cons.mpr ⟨by dsimp only; exact Nat.ne_of_lt (by omega), (List.forall_mem_cons.mpr ⟨by dsimp only; exact Nat.ne_of_lt (by omega), (List.forall_mem_cons.mpr ⟨by dsimp only; exact Nat.ne_of_lt (by omega), (List.forall_mem_cons.mpr ⟨by dsimp only; exact Nat.ne_of_lt (by omega), (List.forall_mem_cons.mpr ⟨by dsimp only; exact Nat.ne_of_lt (by omega), (List.forall_mem_cons.mpr ⟨by dsimp only; exact Nat.ne_of_lt (by omega), (List.forall_mem_cons.mpr ⟨by dsimp only; exact Nat.ne_of_lt (by omega), (off_gt hgt (Nat.le_refl _))⟩)⟩)⟩)⟩)⟩)⟩)⟩)
    case uz => (simp only [List.size_toArray, List.length_map]; rw [hlen, sizeLine_eq]; omega)
    intro h7 F7 N7
    rw [push_row] at N7
    (try dsimp only)
    repeat' ((fail_if_success (with_reducible show wpAny _ _ (pyIter _) _ _ _)); (fail_if_success (with_reducible show UnrEnd _ _ _ _ _ _ _)); (fail_if_success (with_reducible show KswEnd _ _ _ _ _ _ _ _ _ _ _ _)); first | (k_unfold; (try dsimp only)) | (k_end; wrow_close) | k_extra "own" | walk1 | (dsimp only; first | k_extra "own" | walk1) | (leave1; walk_say "STEP leave1"; try dsimp only) | fail "no step")
    rename IsRange _ _ _ _ _ _ _ _ => hR
    rename News _ _ _ _ => N7
    have hfi : (refsOf rows ++ [Value.ref cr])[i]? = some (.ref cr) := by rw [List.getElem?_append_right (by simp [hlen])]; simp [hlen]
    obtain ⟨X, hX⟩ : ∃ X, pick M0 M1 M2 M3 M4 (i : Int) = X := ⟨_, rfl⟩
    have hXb : X.Ok := hX ▸ hb i
    refine iter_rangeUnr (n := i + 1) (by rfl) hR (range_small (by decide) (by decide) (by omega) (by omega)) (range_size (.inl ⟨by omega, by omega⟩)) (by k_asm) N7 (fun I2 hI2 => ?_)
    refine range_inv (σ := FarI) (fun j z => (cr, listOf z.its.toArray z.en) :: (I, itR (0 + ((i + 1 : Nat) : Int)) (((5 : Nat) : Int) - ((i + 1 : Nat) : Int))) :: (fa, listOf (refsOf rows ++ [Value.ref cr]).toArray (en + 1)) :: [(wd, listOf #[.str (waStr M0.t M0.b) M0.wt, .str (waStr M1.t M1.b) M1.wt, .str (waStr M2.t M2.b) M2.wt, .str (waStr M3.t M3.b) M3.wt, .str (waStr M4.t M4.b) M4.wt] ew), (mk, listOf #[.ref M0.a, .ref M1.a, .ref M2.a, .ref M3.a, .ref M4.a] em), M0.ent, M1.ent, M2.ent, M3.ent, M4.ent] ++ rr) (fun j z => [(Str.ofString "words", .ref wd), (Str.ofString "marks", .ref mk), (Str.ofString "far", .ref fa), (Str.ofString "i", .int (i : Int) t)])
      (fun j z => z.its.length = j ∧ ∀ k : Nat, k < j → ∃ tk, z.its[k]? = some (.int (dueM X (pick M0 M1 M2 M3 M4 (k : Int))) tk)) ?step2 ?done2 (i + 1) 0 _ _ rfl (fun p hp => Nat.ne_of_lt (hI2 p hp)) ⟨⟨[], 0⟩, rfl, by kst_all, rfl, fun k hk => absurd hk (Nat.not_lt_zero k)⟩
    case done2 =>
      intro z v h tk hP F13 N13
      obtain ⟨its, ei⟩ := z
      dsimp only [kstB, List.cons_append, List.nil_append] at hP F13 N13
      obtain ⟨hil, hits⟩ := hP
      dsimp only
      repeat' ( (fail_if_success (with_reducible show UnrEnd _ _ _ _ _ _ _)); (fail_if_success (with_reducible show KswEnd _ _ _ _ _ _ _ _ _ _ _ _)); first | (k_unfold; (try dsimp only)) | (k_end; wrow_close) | k_extra "own" | walk1 | (dsimp only; first | k_extra "own" | walk1) | (leave1; walk_say "STEP leave1"; try dsimp only) | fail "no step")
      refine unr_end2 (⟨en + 1, rows ++ [⟨cr, its, ei⟩], (cr, listOf its.toArray ei) :: rr⟩ : FarS) F13 N13 (by k_mem) ?es ?eo (by kst_all) ?ep
      case es =>
        dsimp only
        rw [show refsOf (rows ++ [⟨cr, its, ei⟩]) = refsOf rows ++ [Value.ref cr] from by simp [refsOf]]
        exact (List.forall_mem_cons.mpr ⟨by k_mem, (List.forall_mem_cons.mpr ⟨by k_mem, (List.forall_mem_cons.mpr ⟨by k_mem, (List.forall_mem_cons.mpr ⟨by k_mem, (List.forall_mem_cons.mpr ⟨by k_mem, (List.forall_mem_cons.mpr ⟨by k_mem, (List.forall_mem_cons.mpr ⟨by k_mem, (List.forall_mem_cons.mpr ⟨by k_mem, (List.forall_mem_cons.mpr ⟨by k_mem, (by (repeat' (first | with_reducible assumption | exact in_self | refine in_tail ?_)))⟩)⟩)⟩)⟩)⟩)⟩)⟩)⟩)⟩)
      case eo =>
        dsimp only
        refine List.forall_mem_cons.mpr ⟨oI, fun p hp => ?_⟩
        rcases List.mem_append.mp (show p ∈ [(wd, listOf #[.str (waStr M0.t M0.b) M0.wt, .str (waStr M1.t M1.b) M1.wt, .str (waStr M2.t M2.b) M2.wt, .str (waStr M3.t M3.b) M3.wt, .str (waStr M4.t M4.b) M4.wt] ew), (mk, listOf #[.ref M0.a, .ref M1.a, .ref M2.a, .ref M3.a, .ref M4.a] em), M0.ent, M1.ent, M2.ent, M3.ent, M4.ent] ++ ((cr, listOf its.toArray ei) :: rr) from hp) with hp | hp
        · exact ho p (.tail _ (List.mem_append_left rr hp))
        · rcases List.mem_cons.mp hp with rfl | hp
          · exact Nat.ne_of_gt lI
          · exact ho p (.tail _ (List.mem_append_right [(wd, listOf #[.str (waStr M0.t M0.b) M0.wt, .str (waStr M1.t M1.b) M1.wt, .str (waStr M2.t M2.b) M2.wt, .str (waStr M3.t M3.b) M3.wt, .str (waStr M4.t M4.b) M4.wt] ew), (mk, listOf #[.ref M0.a, .ref M1.a, .ref M2.a, .ref M3.a, .ref M4.a] em), M0.ent, M1.ent, M2.ent, M3.ent, M4.ent] hp))
      case ep =>
        dsimp only
        refine ⟨by simp [hlen], ?_, List.forall_mem_cons.mpr ⟨lf, hgt⟩, fun k r => snoc_get hlen (fun _ y hy => hrow k y hy) (fun e => ?_) r⟩
        · intro r hr
          rcases List.mem_append.mp hr with hr | hr
          · exact .tail _ (hrows r hr)
          · rw [List.mem_singleton.mp hr]; exact .head _
        · intro l hl
          subst e
          obtain ⟨q, hq⟩ := hits l (by omega)
          exact ⟨q, by rw [hX]; exact hq⟩
    case step2 =>
      intro j z v t3 h tk hj hP ho2 F13 N13
      obtain ⟨its, ei⟩ := z
      dsimp only [kstB, List.cons_append, List.nil_append] at hP ho2 F13 N13 ⊢
      obtain ⟨hil, hits⟩ := hP
      simp only [Int.zero_add] at F13
      have hj5 : j < 5 := by omega
      obtain ⟨Y, hY⟩ : ∃ Y, pick M0 M1 M2 M3 M4 (j : Int) = Y := ⟨_, rfl⟩
      have hYb : Y.Ok := hY ▸ hb j
      have mX : X.ent ∈ [(wd, listOf #[.str (waStr M0.t M0.b) M0.wt, .str (waStr M1.t M1.b) M1.wt, .str (waStr M2.t M2.b) M2.wt, .str (waStr M3.t M3.b) M3.wt, .str (waStr M4.t M4.b) M4.wt] ew), (mk, listOf #[.ref M0.a, .ref M1.a, .ref M2.a, .ref M3.a, .ref M4.a] em), M0.ent, M1.ent, M2.ent, M3.ent, M4.ent] := hX ▸ pick_all (p := fun m : MarkZ => m.ent ∈ [(wd, listOf #[.str (waStr M0.t M0.b) M0.wt, .str (waStr M1.t M1.b) M1.wt, .str (waStr M2.t M2.b) M2.wt, .str (waStr M3.t M3.b) M3.wt, .str (waStr M4.t M4.b) M4.wt] ew), (mk, listOf #[.ref M0.a, .ref M1.a, .ref M2.a, .ref M3.a, .ref M4.a] em), M0.ent, M1.ent, M2.ent, M3.ent, M4.ent]) (by k_mem) (by k_mem) (by k_mem) (by k_mem) (by k_mem) (i : Int)
      have mY : Y.ent ∈ [(wd, listOf #[.str (waStr M0.t M0.b) M0.wt, .str (waStr M1.t M1.b) M1.wt, .str (waStr M2.t M2.b) M2.wt, .str (waStr M3.t M3.b) M3.wt, .str (waStr M4.t M4.b) M4.wt] ew), (mk, listOf #[.ref M0.a, .ref M1.a, .ref M2.a, .ref M3.a, .ref M4.a] em), M0.ent, M1.ent, M2.ent, M3.ent, M4.ent] := hY ▸ pick_all (p := fun m : MarkZ => m.ent ∈ [(wd, listOf #[.str (waStr M0.t M0.b) M0.wt, .str (waStr M1.t M1.b) M1.wt, .str (waStr M2.t M2.b) M2.wt, .str (waStr M3.t M3.b) M3.wt, .str (waStr M4.t M4.b) M4.wt] ew), (mk, listOf #[.ref M0.a, .ref M1.a, .ref M2.a, .ref M3.a, .ref M4.a] em), M0.ent, M1.ent, M2.ent, M3.ent, M4.ent]) (by k_mem) (by k_mem) (by k_mem) (by k_mem) (by k_mem) (j : Int)
      have N14 := news_sub N13 (l := X.ent :: Y.ent :: _) (List.forall_mem_cons.mpr ⟨.tail _ (.tail _ (.tail _ (.tail _ (List.mem_append_left rr mX)))), List.forall_mem_cons.mpr ⟨.tail _ (.tail _ (.tail _ (.tail _ (List.mem_append_left rr mY)))), fun p hp => hp⟩⟩)
      clear N13
      dsimp only [MarkZ.ent] at N14
      repeat' ((fail_if_success (with_reducible show wpAny _ _ (PySem.call (Value.type "zip") _) _ _ _)); (fail_if_success (with_reducible show UnrEnd _ _ _ _ _ _ _)); (fail_if_success (with_reducible show KswEnd _ _ _ _ _ _ _ _ _ _ _ _)); first | (k_unfold; (try dsimp only)) | (k_end; wrow_close) | k_extra "own" | walk1 | (dsimp only; first | k_extra "own" | walk1) | (leave1; walk_say "STEP leave1"; try dsimp only) | fail "no step")
      k_dflt (refine' zip_call (xs := [.int X.m1 X.q1, .int X.m2 X.q2, .int X.m3 X.q3]) (ys := [.int Y.m1 Y.q1, .int Y.m2 Y.q2, .int Y.m3 Y.q3]) (n1 := 0) (n2 := 0) (fun i v => ∃ t, v = .int ((mAt X i - mAt Y i).natAbs : Int) t) ?zh ?zF ?zN ?z1 ?z2 ?zl ?zs ?zt ?zf; (case zh => rfl); (case zF => k_asm); (case zN => k_asm); (case z1 => k_mem); (case z2 => k_mem); (case zl => rfl); (case zs => exact Nat.le_of_ble_eq_true rfl))
      case zt =>
        intro i x y hx hy C oC m₂ h tk rest E' hC ha hb F9 N9
        obtain ⟨tx, rfl, bx, bx'⟩ := mAt_of hx hXb
        obtain ⟨ty, rfl, bY, bY'⟩ := mAt_of hy hYb
        generalize mAt X i = kx at *
        generalize mAt Y i = ky at *
        clear hx hy
        repeat' ( (fail_if_success (with_reducible show UnrEnd _ _ _ _ _ _ _)); (fail_if_success (with_reducible show KswEnd _ _ _ _ _ _ _ _ _ _ _ _)); first | (k_unfold; (try dsimp only)) | (k_end; wrow_close) | k_extra "own" | walk1 | (dsimp only; first | k_extra "own" | walk1) | (leave1; walk_say "STEP leave1"; try dsimp only) | fail "no step")
        refine zend (by k_asm) (by k_asm) (fun p hp => hp) ⟨_, congrArg (fun z => Value.int z _) (abs_if _)⟩
      case zf =>
        intro D vs h tk F9 N9 offD hvl hV
        obtain ⟨t0, t1, t2, rfl⟩ := three_ints hvl hV
        clear hvl hV
        (try dsimp only)
        repeat' ((fail_if_success (with_reducible show wpAny _ _ (PySem.call (Value.ref _) _) _ _ _)); (fail_if_success (with_reducible show UnrEnd _ _ _ _ _ _ _)); (fail_if_success (with_reducible show KswEnd _ _ _ _ _ _ _ _ _ _ _ _)); first | (k_unfold; (try dsimp only)) | (k_end; wrow_close) | k_extra "own" | walk1 | (dsimp only; first | k_extra "own" | walk1) | (leave1; walk_say "STEP leave1"; try dsimp only) | fail "no step")
        rename_i hA Mv tv kA FA NA ha9 hb9 hB FB NB
        obtain ⟨hM, hLD⟩ := due_ok hXb hYb ha9 hb9
        have p1 := hXb.t3; have p2 := hXb.b5; have p3 := hYb.t3; have p4 := hYb.b5
        clear ha9 hb9
        repeat' ((fail_if_success (with_reducible show wpAny _ _ (PySem.call (Value.builtin "list.append") _) _ _ _)); (fail_if_success (with_reducible show UnrEnd _ _ _ _ _ _ _)); (fail_if_success (with_reducible show KswEnd _ _ _ _ _ _ _ _ _ _ _ _)); first | (k_unfold; (try dsimp only)) | (k_end; wrow_close) | k_extra "own" | walk1 | (dsimp only; first | k_extra "own" | walk1) | (leave1; walk_say "STEP leave1"; try dsimp only) | fail "no step")
        · exact absurd rfl (by assumption)
        rename News _ _ _ _ => N15
        have N16 := news_sub N15 (l := (I2, itR (0 + ((j + 1 : Nat) : Int)) (((i + 1 : Nat) : Int) - ((j + 1 : Nat) : Int))) :: (cr, listOf its.toArray ei) :: (I, itR (0 + ((i + 1 : Nat) : Int)) (((5 : Nat) : Int) - ((i + 1 : Nat) : Int))) :: (fa, listOf (refsOf rows ++ [Value.ref cr]).toArray (en + 1)) :: [(wd, listOf #[.str (waStr M0.t M0.b) M0.wt, .str (waStr M1.t M1.b) M1.wt, .str (waStr M2.t M2.b) M2.wt, .str (waStr M3.t M3.b) M3.wt, .str (waStr M4.t M4.b) M4.wt] ew), (mk, listOf #[.ref M0.a, .ref M1.a, .ref M2.a, .ref M3.a, .ref M4.a] em), M0.ent, M1.ent, M2.ent, M3.ent, M4.ent] ++ rr) (by dsimp only [List.cons_append, List.nil_append]; exact (List.forall_mem_cons.mpr ⟨by k_mem, (List.forall_mem_cons.mpr ⟨by k_mem, (List.forall_mem_cons.mpr ⟨by k_mem, (List.forall_mem_cons.mpr ⟨by k_mem, (List.forall_mem_cons.mpr ⟨by k_mem, (List.forall_mem_cons.mpr ⟨by k_mem, (List.forall_mem_cons.mpr ⟨by k_mem, (List.forall_mem_cons.mpr ⟨by k_mem, (List.forall_mem_cons.mpr ⟨by k_mem, (List.forall_mem_cons.mpr ⟨by k_mem, (List.forall_mem_cons.mpr ⟨by k_mem, (by (repeat' (first | with_reducible assumption | exact in_self | refine in_tail ?_)))⟩)⟩)⟩)⟩)⟩)⟩)⟩)⟩)⟩)⟩)⟩))
        dsimp only [List.cons_append, List.nil_append] at N16
        clear N15
        have oI2 : cr ≠ I2 := ho2 (cr, _) (.head _)
        k_dflt (refine' append_K (by k_asm) N16 (Upd.tail (neN (Ne.symm oI2)) (Upd.head ?uo)) ?_ ?uz)
        case uo => exact (List.forall_mem_cons.mpr ⟨by dsimp only; exact Nat.ne_of_lt (by omega), (List.forall_mem_cons.mpr ⟨by dsimp only; exact Nat.ne_of_lt (by omega), (List.forall_mem_cons.mpr ⟨by dsimp only; exact Nat.ne_of_lt (by omega), (List.forall_mem_cons.mpr ⟨by dsimp only; exact Nat.ne_of_lt (by omega), (List.forall_mem_cons.mpr ⟨by dsimp only; exact Nat.ne_of_lt (by omega), (List.forall_mem_cons.mpr ⟨by dsimp only; exact Nat.ne_of_lt (by omega), (List.forall_mem_cons.mpr ⟨by dsimp only; exact Nat.ne_of_lt (by omega), (List.forall_mem_cons.mpr ⟨by dsimp only; exact Nat.ne_of_lt (by omega), (List.forall_mem_cons.mpr ⟨by dsimp only; exact Nat.ne_of_lt (by omega), (off_lt lr (Nat.le_refl _))⟩)⟩)⟩)⟩)⟩)⟩)⟩)⟩)⟩)
        case uz => (simp only [List.size_toArray]; rw [hil, sizeLine_eq]; omega)
        intro h7 F7 N7
        rw [push_row] at N7
        (try dsimp only)
        repeat' ( (fail_if_success (with_reducible show UnrEnd _ _ _ _ _ _ _)); (fail_if_success (with_reducible show KswEnd _ _ _ _ _ _ _ _ _ _ _ _)); first | (k_unfold; (try dsimp only)) | (k_end; wrow_close) | k_extra "own" | walk1 | (dsimp only; first | k_extra "own" | walk1) | (leave1; walk_say "STEP leave1"; try dsimp only) | fail "no step")
        refine' unr_end2 (⟨its ++ [.int Mv tv], ei + 1⟩ : FarI) (by k_asm) N7 (.head _) (in_tail in_self) ?eo (by kst_all) ?ep
        case eo => exact List.forall_mem_cons.mpr ⟨oI2, fun p hp => ho2 p (.tail _ hp)⟩
        case ep =>
          dsimp only
          refine ⟨by simp [hil], fun k hk => ?_⟩
          rcases Nat.lt_or_ge k its.length with hl | hl
          · rw [List.getElem?_append_left hl]
            exact hits k (by omega)
          · rw [List.getElem?_append_right hl]
            have e0 : k - its.length = 0 := by omega
            have ek : k = j := by omega
            rw [e0, ek, hY, ← hM]
            exact ⟨_, rfl⟩
end
theorem sum_led {prog : Program} {w : World} {A : Around} {E : Value → Shared → Prop} {s : Shared} {h₀ : Heap} {L l : Addr} {m : Str → Option Value} {news : Led} {vs : List Value} {ns : List Int} {Q : Value → Shared → Prop} (hh : A.handled = none) (F : Fr h₀ L s.heap m) (N : News h₀ L s.heap news) (hl : s.heap.IsList l vs.toArray) (hi : IntsAre vs ns)
    (h : ∀ h' tk t', Fr h₀ L h' m → News h₀ L h' news → Q (.int ns.sum t') { s with heap := h', toks := tk }) : wpAny (model prog w) A (call (.builtin "sum") [.ref l]) Q E s := by
  obtain ⟨xs, hx⟩ := hi.allInts.items
  have hn : numsOf vs.toArray.toList = ns := by rw [show vs.toArray.toList = vs from rfl, hi.numsOf]
  rw [hx] at hl hn
  rw [nums_intItems] at hn
  refine sum_intListG hh hl fun h' tk t' hk => ?_
  have := h h' tk t' (F.keeps hk) (N.grown hk)
  rw [preSum_eq, List.take_of_length_le (by simp), hn]
  exact this
theorem sum_pick {prog : Program} {w : World} {A : Around} {E : Value → Shared → Prop} {s : Shared} {h₀ : Heap} {L l : Addr} {m : Str → Option Value} {news : Led} {vs : List Value} {ns : List Int} {lo up st : Option Int} {k : Nat} {Q : Value → Shared → Prop} (hh : A.handled = none) (F : Fr h₀ L s.heap m) (N : News h₀ L s.heap news) (hm : (l, ({ cls := .type "list", data := .seq (slicePick vs.toArray lo up st) k } : Obj)) ∈ news) (hi : IntsAre vs ns)
    (h : ∀ h' tk t', Fr h₀ L h' m → News h₀ L h' news → Q (.int (pickNums ns lo up st).sum t') { s with heap := h', toks := tk }) : wpAny (model prog w) A (call (.builtin "sum") [.ref l]) Q E s :=
  sum_led (vs := (slicePick vs.toArray lo up st).toList) hh F N ⟨_, (N _ hm).1, rfl, k, by simp⟩ (hi.pick lo up st) h
theorem sub_pick5 {prog : Program} {w : World} {A : Around} {E : Value → Shared → Prop} {s : Shared} {Q : Value → Shared → Prop} {value slice : PySem.Expr} {h₀ : Heap} {L D : Addr} {news : Led} {a0 a1 a2 a3 a4 : Int} {t0 t1 t2 t3 t4 : Tok} {n : Nat} {k : Nat} {u : Tok}
    (N : News h₀ L s.heap news) (hm : (D, listOf #[.int a0 t0, .int a1 t1, .int a2 t2, .int a3 t3, .int a4 t4] n) ∈ news) (h5 : k < 5) (h : Q (.int (pick a0 a1 a2 a3 a4 (k : Int)) (pick t0 t1 t2 t3 t4 (k : Int))) s)
    (hs : subscripted slice false (.ref D) (.int (k : Int) u) = operate [.ref D, .int (k : Int) u] (getItem (.ref D) (.int (k : Int) u)) := by with_unfolding_all rfl) :
    wpAny (model prog w) A (subscriptTail value slice (.ref D) (.int (k : Int) u)) Q E s := by
  refine sub_news N hm (Int.natCast_nonneg _) (by omega) ?_ h hs
  rcases (by omega : k = 0 ∨ k = 1 ∨ k = 2 ∨ k = 3 ∨ k = 4) with rfl | rfl | rfl | rfl | rfl <;> rfl
/-- a def that reads the script -/
def CodeSpecS (w : World) (mean : ExcName → Option Value) (mg mb : Str → Option Value) (f sl : Addr) (vs : List Value) (d u : Nat) (Post : Value → Led → Prop) : Prop :=
  ∀ (dp un : Nat) (gd : Option (List Code)) (cn : Str) (cs : Scope) (a : Addr) (ccd : Value) (cl : List (Str × Addr)) (outer : List Env) (A₀ : Around) (base h₀ : Heap) (L : Addr) (m : Str → Option Value) (s : Shared) (R : Result → Shared → Prop),
    h₀.IsList sl vs.toArray → Below A₀ base outer h₀ → Fr h₀ L s.heap m → (hd.heap_1 w.params).In h₀ → News h₀ L s.heap [] → Top vw (looseW vw [Str.ofString "Whitespace"]) mean mg mb h₀ → cs.kind = .function → dp + d < recursionLimit → un + u < cLine →
    Ret h₀ L m s [] [] Post (fun r s' => R (.ok (.ret r)) s') →
    codeAny (model PySem.Challenge.rw_qj0008_01.row.prog w) (ktrTop dp un gd cn cs L a ccd cl outer) (.call (.ref f) ⟨[.ref sl], []⟩) R s
theorem keeps_list {h g : Heap} {l : Addr} {its : Array Value} (hl : h.IsList l its) (hk : Keeps h g []) : g.IsList l its := by
  obtain ⟨o, ho, r⟩ := hl
  exact ⟨o, hk l o ho (fun q => nomatch q), r⟩
structure SpotS where
  vs : List Value
  ns : List Int
  en : Nat
structure WhlS where
  x : Int
  j : Nat
  k : Tok
theorem in_led {prog : Program} {w : World} {A : Around} {E : Value → Shared → Prop} {s : Shared} {Q : Value → Shared → Prop} {h₀ : Heap} {L D : Addr} {news : Led} {vs : List Value} {ns : List Int} {n : Nat} {k : Int} {t : Tok} (N : News h₀ L s.heap news) (hm : (D, listOf vs.toArray n) ∈ news) (hi : IntsAre vs ns)
    (h : Q (.bool (ns.any (· == k))) s) : wpAny (model prog w) A (compareOp .In (.int k t) (.ref D)) Q E s :=
  in_list_ints ⟨_, (N _ hm).1, rfl, n, rfl⟩ hi h
theorem fm24 (a : Int) : Int.fmod a 24 = a % 24 := Int.fmod_eq_emod_of_nonneg _ (by decide)
theorem filter_lt {α : Type} {p q : α → Bool} : ∀ {l : List α} {x : α}, (∀ y, q y = true → p y = true) → x ∈ l → p x = true → q x = false → (l.filter q).length < (l.filter p).length
  | a :: l, x, h, hx, hp, hq => by
    have le : ∀ l : List α, (l.filter q).length ≤ (l.filter p).length := fun l => by
      induction l with
      | nil => exact Nat.le_refl _
      | cons b l ih =>
        cases hb : q b with
        | true => rw [List.filter_cons_of_pos hb, List.filter_cons_of_pos (h b hb)]; exact Nat.succ_le_succ ih
        | false =>
          rw [List.filter_cons_of_neg (by simp [hb])]
          cases hc : p b with
          | true => rw [List.filter_cons_of_pos hc]; exact Nat.le_succ_of_le ih
          | false => rw [List.filter_cons_of_neg (by simp [hc])]; exact ih
    rcases List.mem_cons.mp hx with rfl | hx
    · rw [List.filter_cons_of_neg (by simp [hq]), List.filter_cons_of_pos hp]
      exact Nat.lt_succ_of_le (le l)
    · have ih := filter_lt h hx hp hq
      cases hb : q a with
      | true => rw [List.filter_cons_of_pos hb, List.filter_cons_of_pos (h a hb)]; exact Nat.succ_lt_succ ih
      | false =>
        rw [List.filter_cons_of_neg (by simp [hb])]
        cases hc : p a with
        | true => rw [List.filter_cons_of_pos hc]; exact Nat.lt_succ_of_lt ih
        | false => rw [List.filter_cons_of_neg (by simp [hc])]; exact ih
/-- what is left to try -/
def leftOf (s0 : Int) (ms : List Int) (j : Nat) : Nat := (ms.filter fun y => decide (∀ i : Nat, i < j → y ≠ (s0 + 5 * (i : Int)) % 24)).length
theorem left_lt {s0 x : Int} {ms : List Int} {j : Nat} (hx : x ∈ ms) (hxj : x = (s0 + 5 * (j : Int)) % 24) (hj : j < 24) : leftOf s0 ms (j + 1) < leftOf s0 ms j := by
  refine filter_lt (fun y hy => ?_) hx ?_ ?_
  · simp only [decide_eq_true_eq] at hy ⊢
    exact fun i hi => hy i (by omega)
  · simp only [decide_eq_true_eq]
    intro i hi
    omega
  · simp only [decide_eq_false_iff_not]
    exact fun h => h j (Nat.lt_succ_self j) hxj

theorem five_ints {us : List Value} {n0 n1 n2 n3 n4 : Int} (h : IntsAre us [n0, n1, n2, n3, n4]) : ∃ g0 g1 g2 g3 g4, us = [Value.int n0 g0, Value.int n1 g1, Value.int n2 g2, Value.int n3 g3, Value.int n4 g4] := by
  cases h with | cons _ g0 h => cases h with | cons _ g1 h => cases h with | cons _ g2 h => cases h with | cons _ g3 h => cases h with | cons _ g4 h => cases h with | nil => exact ⟨g0, g1, g2, g3, g4, rfl⟩
def OkPair (T B : Int) : Prop := ∃ t b : Nat, T = t ∧ B = b ∧ t ≤ 3 ∧ b ≤ 5
theorem okPair {n : Int} (h0 : 0 ≤ n) (h : n < 24) : OkPair (n.fmod 4) (n.fdiv 4) := by
  refine ⟨(n % 4).toNat, (n / 4).toNat, ?_, ?_, by omega, by omega⟩
  · rw [Int.fmod_eq_emod_of_nonneg _ (by decide)]; omega
  · rw [Int.fdiv_eq_ediv_of_nonneg _ (by decide)]; omega
def Apart (T B T' B' : Int) : Prop := T ≠ T' ∨ B ≠ B'
theorem apart {n n' : Int} (h : n ≠ n') : Apart (n.fmod 4) (n.fdiv 4) (n'.fmod 4) (n'.fdiv 4) := by
  unfold Apart
  rw [Int.fmod_eq_emod_of_nonneg _ (by decide), Int.fmod_eq_emod_of_nonneg _ (by decide), Int.fdiv_eq_ediv_of_nonneg _ (by decide), Int.fdiv_eq_ediv_of_nonneg _ (by decide)]
  omega
structure SpotsOk (T0 B0 T1 B1 T2 B2 T3 B3 T4 B4 : Int) : Prop where
  o0 : OkPair T0 B0
  o1 : OkPair T1 B1
  o2 : OkPair T2 B2
  o3 : OkPair T3 B3
  o4 : OkPair T4 B4
  a01 : Apart T0 B0 T1 B1
  a02 : Apart T0 B0 T2 B2
  a03 : Apart T0 B0 T3 B3
  a04 : Apart T0 B0 T4 B4
  a12 : Apart T1 B1 T2 B2
  a13 : Apart T1 B1 T3 B3
  a14 : Apart T1 B1 T4 B4
  a23 : Apart T2 B2 T3 B3
  a24 : Apart T2 B2 T4 B4
  a34 : Apart T3 B3 T4 B4
section
theorem spots_spec {w : World} {mean : ExcName → Option Value} {mg mb : Str → Option Value} {sl : Nat} {vs : List Value} {ns : List Int} (hi : IntsAre vs ns) (hlen : ns.length ≤ 63) :
  CodeSpecS w mean mg mb 134 sl vs 10 120
   (fun r l => ∃ (sp en p0 p1 p2 p3 p4 : Nat) (T0 B0 T1 B1 T2 B2 T3 B3 T4 B4 : Int) (u0 v0 u1 v1 u2 v2 u3 v3 u4 v4 : Tok), r = .ref sp ∧ l = [(sp, listOf #[.ref p0, .ref p1, .ref p2, .ref p3, .ref p4] en), (p0, tup2 T0 u0 B0 v0), (p1, tup2 T1 u1 B1 v1), (p2, tup2 T2 u2 B2 v2), (p3, tup2 T3 u3 B3 v3), (p4, tup2 T4 u4 B4 v4)] ∧ SpotsOk T0 B0 T1 B1 T2 B2 T3 B3 T4 B4) := by
  k_with_none
  k_with "own" => ((with_reducible show wpAny _ _ (compareOp CmpOp.In (Value.int _ _) (Value.ref _)) _ _ _); first | with_reducible ((k_here; k_dflt (refine' in_led ?N_w ?m_w ?i_w ?_; (case N_w => k_asm); (case m_w => k_mem); (case i_w => with_reducible assumption); k_whole))) | ((k_here; k_dflt (refine' in_led ?N_w ?m_w ?i_w ?_; (case N_w => k_asm); (case m_w => k_mem); (case i_w => with_reducible assumption); k_whole))); walk_say "OWN compareOp In int ref")
  k_with "own" => ((with_reducible show wpAny _ _ (PySem.call (Value.type "range") _) _ _ _); first | with_reducible (((rename Fr _ _ _ _ => F'); (rename News _ _ _ _ => N'); first | (with_unfolding_all refine range1_rows F' N' ?_; intro _ _ _ _ _ _ _ _ _) | (with_unfolding_all refine range2_rows F' N' ?_; intro _ _ _ _ _ _ _ _ _))) | (((rename Fr _ _ _ _ => F'); (rename News _ _ _ _ => N'); first | (with_unfolding_all refine range1_rows F' N' ?_; intro _ _ _ _ _ _ _ _ _) | (with_unfolding_all refine range2_rows F' N' ?_; intro _ _ _ _ _ _ _ _ _))); walk_say "OWN call type:range")
  k_with "own" => ((with_reducible show wpAny _ _ (subscriptTail _ _ _ _) _ _ _); first | with_reducible ((k_here; k_dflt (refine' sub_pick5 ?N_w ?m_w ?h5_w ?_ ?s_w; (case N_w => k_asm); (case m_w => k_mem); (case h5_w => with_reducible assumption); (case s_w => with_unfolding_all rfl); k_whole))) | ((k_here; k_dflt (refine' sub_pick5 ?N_w ?m_w ?h5_w ?_ ?s_w; (case N_w => k_asm); (case m_w => k_mem); (case h5_w => with_reducible assumption); (case s_w => with_unfolding_all rfl); k_whole))); walk_say "OWN subscriptTail")
  k_with "own" => ((with_reducible show wpAny _ _ (PySem.call (Value.builtin "sum") _) _ _ _); first | with_reducible ((k_here; (with_reducible show wpAny _ _ (PySem.call (Value.builtin "sum") [Value.ref _]) _ _ _); k_dflt (refine' sum_pick ?h_w ?F_w ?N_w ?l_w ?i_w ?_; (case h_w => rfl); (case F_w => k_asm); (case N_w => k_asm); (case l_w => k_mem); (case i_w => with_reducible assumption); k_whole); intro h' tk' t' F' N')) | ((k_here; (with_reducible show wpAny _ _ (PySem.call (Value.builtin "sum") [Value.ref _]) _ _ _); k_dflt (refine' sum_pick ?h_w ?F_w ?N_w ?l_w ?i_w ?_; (case h_w => rfl); (case F_w => k_asm); (case N_w => k_asm); (case l_w => k_mem); (case i_w => with_reducible assumption); k_whole); intro h' tk' t' F' N')); walk_say "OWN call builtin:sum")
  k_with "own" => ((with_reducible show LCg.CompRest _ _ _ _ _ _ _ _ _ _ _ _ _ _ _ _ _ _ _); first | with_reducible ((with_unfolding_all first | (refine LCg.CompRest.succ ?_; intro v' I' oI' C' oC' D' m' h' tk' E' hv' hC' hx' F' N' off' ne'; lcg_open hv') | refine LCg.CompRest.zero ?_)) | ((with_unfolding_all first | (refine LCg.CompRest.succ ?_; intro v' I' oI' C' oC' D' m' h' tk' E' hv' hC' hx' F' N' off' ne'; lcg_open hv') | refine LCg.CompRest.zero ?_)); walk_say "OWN CompRest")
  k_with "own" => ((with_reducible show LCg.CompEnd _ _ _ _ _ _ _ _ _ _ _ _ _ _); first | with_reducible ((rename @LT.lt Nat _ _ _ ∧ _ => hh9; k_dflt (refine comp_end1 (by k_asm) (by k_asm) ⟨Nat.ne_of_gt hh9.1, Nat.ne_of_gt hh9.2.1, Nat.ne_of_gt hh9.2.2.1⟩ (by with_reducible assumption) (by lcg_src) ?_))) | ((rename @LT.lt Nat _ _ _ ∧ _ => hh9; k_dflt (refine comp_end1 (by k_asm) (by k_asm) ⟨Nat.ne_of_gt hh9.1, Nat.ne_of_gt hh9.2.1, Nat.ne_of_gt hh9.2.2.1⟩ (by with_reducible assumption) (by lcg_src) ?_))); walk_say "OWN CompEnd")
  k_with "own" => ((with_reducible show LCg.FinE _ _ _ _ _ _ _); first | with_reducible (((unfold LCg.FinE); intro D' h' tk' F' N' o1'; (try simp only [List.nil_append, List.cons_append] at N'); (try dsimp only))) | (((unfold LCg.FinE); intro D' h' tk' F' N' o1'; (try simp only [List.nil_append, List.cons_append] at N'); (try dsimp only))); walk_say "OWN FinE")
  unfold CodeSpecS; k_fill; intro dp un gd cn cs a ccd cl outer A₀ base h₀ L m s R hsl B F X N T hk hdp hu hret
  k_dflt (refine' spec_code ?k1 ?k2 ?k3 ?k4 ?k5 ?kA ?kF ?kK ?k6 ?k7 ?k8 ?k9 ?kB ?_ ?c2 ?c3 ?c4 ?c5; (case kA => exact rfl); (case kF => exact rfl); (case kK => assumption); (case k1 => k_asm); (case k2 => k_asm); (case k3 => k_asm); (case k4 => k_asm); (case k5 => k_asm); (case k6 => k_is); (case k7 => k_is); (case k8 => ktr_room); (case k9 => exact BindsTo.of_eq rfl); (case c5 => decide); (case kB => exact locs rfl); (case c2 => exact rfl); (case c3 => exact rfl); (case c4 => exact rfl); k_whole; intro g' L' h' FG' F' N' B' X' T' hkeep; (try dsimp only); (try k_lift B'); (try k_fold))
  have hsl' : g'.IsList sl vs.toArray := keeps_list (hsl.at fun o e => F.keep _ o e) hkeep
  repeat' ((fail_if_success (with_reducible show wpAny _ _ (pyIter _) _ _ _)); first | (k_unfold; (try dsimp only)) | (k_end; wrow_close) | k_extra "own" | walk1 | (dsimp only; first | k_extra "own" | walk1) | (leave1; walk_say "STEP leave1"; try dsimp only) | fail "no step")
  rename IsRange _ _ _ _ _ _ _ _ => hR
  refine' packP (σ := Nat) (fun z => [(Str.ofString "script", .ref sl), (Str.ofString "spots", .ref z)]) (fun z => [(z, listOf #[] 0)]) (fun z => True) ?pF ?pN _ ?pm ?pn ?pp ?_
  case pF => k_asm
  case pN => k_asm
  case pn => exact (List.forall_mem_cons.mpr ⟨by k_mem, (List.forall_mem_nil _)⟩)
  case pm => kst_all
  case pp => trivial
  rintro sp m9 hm9 _ F10 N10
  refine iter_rangeUnr (n := 5) (by rfl) hR (range_small (by decide) (by decide) (by decide) (by decide)) (range_size (.inl ⟨by decide, by decide⟩)) F10 N10 (fun I hI => ?_)
  refine range_inv (σ := SpotS) (fun i z => [(sp, listOf z.vs.toArray z.en)]) (fun i z => [(Str.ofString "script", .ref sl), (Str.ofString "spots", .ref sp)])
    (fun i z => z.ns.length = i ∧ IntsAre z.vs z.ns ∧ (∀ x ∈ z.ns, 0 ≤ x ∧ x < 24) ∧ z.ns.Nodup) ?step ?done 5 0 _ _ rfl (fun p hp => Nat.ne_of_lt (hI p hp)) ⟨⟨[], [], 0⟩, rfl, hm9, rfl, .nil, (fun x h => nomatch h), List.nodup_nil⟩
  case done =>
    intro z v h tk hP F11 N11
    obtain ⟨us, ms, en⟩ := z
    dsimp only [kstB] at hP F11 N11
    obtain ⟨hml, hus, hms, hnd⟩ := hP
    obtain ⟨n0, n1, n2, n3, n4, rfl⟩ := five ms hml
    obtain ⟨g0, g1, g2, g3, g4, rfl⟩ := five_ints hus
    dsimp only
    repeat' ((fail_if_success (with_reducible show wpAny _ _ (pyIter _) _ _ _)); first | (k_unfold; (try dsimp only)) | (k_end; wrow_close) | k_extra "own" | walk1 | (dsimp only; first | k_extra "own" | walk1) | (leave1; walk_say "STEP leave1"; try dsimp only) | fail "no step")
    have hd5 := hnd
    simp only [List.nodup_cons, List.mem_cons, List.not_mem_nil, or_false, not_or] at hd5
    obtain ⟨⟨d01, d02, d03, d04⟩, ⟨d12, d13, d14⟩, ⟨d23, d24⟩, d34, _⟩ := hd5
    have q0 := hms n0 (by simp); have q1 := hms n1 (by simp); have q2 := hms n2 (by simp); have q3 := hms n3 (by simp); have q4 := hms n4 (by simp)
    refine' ret_end (sub' := [(_, listOf #[.ref _, .ref _, .ref _, .ref _, .ref _] 5), (_, tup2 (n0.fmod 4) _ (n0.fdiv 4) _), (_, tup2 (n1.fmod 4) _ (n1.fdiv 4) _), (_, tup2 (n2.fmod 4) _ (n2.fdiv 4) _), (_, tup2 (n3.fmod 4) _ (n3.fdiv 4) _), (_, tup2 (n4.fmod 4) _ (n4.fdiv 4) _)]) (Q := fun r s' => R (.ok (.ret r)) s') hret N hkeep ?rF ?rN ?rG ?rM ?rin ?rsub ?rp
    case rF => k_asm
    case rN => k_asm
    case rG => k_asm
    case rM => k_asm
    case rin => exact (List.forall_mem_cons.mpr ⟨by k_mem, (List.forall_mem_cons.mpr ⟨by k_mem, (List.forall_mem_cons.mpr ⟨by k_mem, (List.forall_mem_cons.mpr ⟨by k_mem, (List.forall_mem_cons.mpr ⟨by k_mem, (List.forall_mem_cons.mpr ⟨by k_mem, (List.forall_mem_nil _)⟩)⟩)⟩)⟩)⟩)⟩)
    case rsub => exact (List.forall_mem_nil _)
    case rp => exact ⟨_, _, _, _, _, _, _, _, _, _, _, _, _, _, _, _, _, _, _, _, _, _, _, _, _, _, _, rfl, rfl, ⟨okPair q0.1 q0.2, okPair q1.1 q1.2, okPair q2.1 q2.2, okPair q3.1 q3.2, okPair q4.1 q4.2, apart d01, apart d02, apart d03, apart d04, apart d12, apart d13, apart d14, apart d23, apart d24, apart d34⟩⟩
  case step =>
    intro i z v t h tk hi5 hP ho F11 N11
    obtain ⟨us, ms, en⟩ := z
    dsimp only [kstB] at hP ho F11 N11 ⊢
    obtain ⟨hml, hus, hms, hnd⟩ := hP
    simp only [Int.zero_add] at F11
    have oS : sp ≠ I := ho (sp, _) (.head _)
    repeat' ((fail_if_success (with_reducible show wpAny _ _ (exec (Stmt.While _ _ _ _) _) _ _ _)); (fail_if_success (with_reducible show UnrEnd _ _ _ _ _ _ _)); (fail_if_success (with_reducible show KswEnd _ _ _ _ _ _ _ _ _ _ _ _)); first | (k_unfold; (try dsimp only)) | (k_end; wrow_close) | k_extra "own" | walk1 | (dsimp only; first | k_extra "own" | walk1) | (leave1; walk_say "STEP leave1"; try dsimp only) | fail "no step")
    refine' packP (σ := Int × Tok) (fun z => [(Str.ofString "script", .ref sl), (Str.ofString "spots", .ref sp), (Str.ofString "spot", .int z.1 z.2)]) (fun z => [(I, itR (0 + ((i + 1 : Nat) : Int)) (((5 : Nat) : Int) - ((i + 1 : Nat) : Int))), (sp, listOf us.toArray en)]) (fun z => 0 ≤ z.1 ∧ z.1 < 24) ?pF ?pN ⟨_, _⟩ ?pm ?pn ?pp ?_
    case pF => k_asm
    case pN => k_asm
    case pn => exact (List.forall_mem_cons.mpr ⟨by k_mem, (List.forall_mem_cons.mpr ⟨by k_mem, (List.forall_mem_nil _)⟩)⟩)
    case pm => kst_all
    case pp => (dsimp only; rw [fm24]; omega)
    rintro ⟨s0, k0⟩ m8 hm8 ⟨h0, h24⟩ F12 N12
    dsimp only at hm8 h0 h24
    refine ksw_while (σ := WhlS) (fun c => [(I, itR (0 + ((i + 1 : Nat) : Int)) (((5 : Nat) : Int) - ((i + 1 : Nat) : Int))), (sp, listOf us.toArray en)]) (fun c => [(Str.ofString "script", .ref sl), (Str.ofString "spots", .ref sp), (Str.ofString "spot", .int c.x c.k)])
      (fun _ => True) [] (fun c => 0 ≤ c.x ∧ c.x < 24 ∧ c.x = (s0 + 5 * (c.j : Int)) % 24 ∧ c.j + leftOf s0 ms c.j ≤ ms.length) (fun c => leftOf s0 ms c.j) ⟨s0, 0, k0⟩ F12 N12 trivial hm8 ⟨h0, h24, by dsimp only; omega, by rw [Nat.zero_add]; exact List.length_filter_le _ _⟩ ?turn
    case turn =>
      intro c u h9 tk9 _ hP9 F4 N4
      obtain ⟨x, j, kx⟩ := c
      dsimp only [kstB] at hP9 F4 N4 ⊢
      obtain ⟨x0, x24, hxj, hjl⟩ := hP9
      repeat' ((fail_if_success (with_reducible show wpAny _ _ (PySem.call (Value.builtin "list.append") _) _ _ _)); (fail_if_success (with_reducible show UnrEnd _ _ _ _ _ _ _)); (fail_if_success (with_reducible show KswEnd _ _ _ _ _ _ _ _ _ _ _ _)); first | (k_unfold; (try dsimp only)) | (k_end; wrow_close) | k_extra "own" | walk1 | (dsimp only; first | k_extra "own" | walk1) | (leave1; walk_say "STEP leave1"; try dsimp only) | fail "no step")
      · rename List.any ms _ = true => hx
        have hxm : x ∈ ms := by
          obtain ⟨y, hy, e⟩ := List.any_eq_true.mp hx
          exact (beq_iff_eq.mp e) ▸ hy
        have hlt := left_lt hxm hxj (by omega)
        refine ksw_end (⟨_, j + 1, _⟩ : WhlS) (by k_asm) (by k_asm) (List.forall_mem_cons.mpr ⟨by k_mem, (List.forall_mem_cons.mpr ⟨by k_mem, (List.forall_mem_nil _)⟩)⟩) trivial (by kst_all) (by ksw_same) ⟨?_, ?_, ?_, ?_⟩ hlt
        · dsimp only; rw [fm24]; omega
        · dsimp only; rw [fm24]; omega
        · dsimp only; rw [fm24]; omega
        · dsimp only; omega
      · rename List.any ms _ = false => hx
        have hxm : x ∉ ms := fun hm => by
          have := List.any_eq_false.mp hx x hm
          simp at this
        rename News _ _ _ _ => N15
        k_dflt (refine' append_K (by k_asm) N15 (Upd.tail (neN (Ne.symm oS)) (Upd.head (List.forall_mem_nil _))) ?_ ?uz)
        case uz => (simp only [List.size_toArray]; rw [hus.length, hml, sizeLine_eq]; omega)
        intro h7 F7 N7
        rw [push_row] at N7
        (try dsimp only)
        repeat' ( (fail_if_success (with_reducible show UnrEnd _ _ _ _ _ _ _)); (fail_if_success (with_reducible show KswEnd _ _ _ _ _ _ _ _ _ _ _ _)); first | (k_unfold; (try dsimp only)) | (k_end; wrow_close) | k_extra "own" | walk1 | (dsimp only; first | k_extra "own" | walk1) | (leave1; walk_say "STEP leave1"; try dsimp only) | fail "no step")
        refine' unr_end2 (⟨us ++ [.int x kx], ms ++ [x], en + 1⟩ : SpotS) (by k_asm) N7 (.head _) (List.forall_mem_cons.mpr ⟨by k_mem, (List.forall_mem_nil _)⟩) (List.forall_mem_cons.mpr ⟨oS, List.forall_mem_nil _⟩) (by kst_all) ⟨by simp [hml], hus.append (.cons x kx .nil), ?e1, ?e2⟩
        case e1 =>
          intro y hy
          rcases List.mem_append.mp hy with hy | hy
          · exact hms y hy
          · rw [List.mem_singleton.mp hy]; exact ⟨x0, x24⟩
        case e2 =>
          refine List.nodup_append.mpr ⟨hnd, List.nodup_cons.mpr ⟨by simp, List.nodup_nil⟩, fun y hy z hz e => ?_⟩
          rw [List.mem_singleton.mp hz] at e
          exact hxm (e ▸ hy)
end
theorem turn_spec {w : World} {mean : ExcName → Option Value} {mg mb : Str → Option Value} {p q way signs : Int} {k1 k2 k3 k4 : Tok} (hp : 0 ≤ p ∧ p < 5) (hq : 0 ≤ q ∧ q < 5) (hw : 0 ≤ way ∧ way ≤ 100) (hs : 0 ≤ signs ∧ signs ≤ 100) (ht : 0 < way - 2 * signs) :
  CodeSpec w mean mg mb 165 [.int p k1, .int q k2, .int way k3, .int signs k4] [] [] 4 60
   (fun r l => (∃ k, r = .int (Int.fdiv (way - signs - (if q < p then 1 else 0)) (way - 2 * signs) + 1) k) ∧ l = []) := by
  k_with_none
  unfold CodeSpec; k_fill; intro dp un gd cn cs a ccd cl outer A₀ base h₀ L m s R B F X N T hk hdp hu hret
  k_dflt (refine' spec_code ?k1 ?k2 ?k3 ?k4 ?k5 ?kA ?kF ?kK ?k6 ?k7 ?k8 ?k9 ?kB ?_ ?c2 ?c3 ?c4 ?c5; (case kA => exact rfl); (case kF => exact rfl); (case kK => assumption); (case k1 => k_asm); (case k2 => k_asm); (case k3 => k_asm); (case k4 => k_asm); (case k5 => k_asm); (case k6 => k_is); (case k7 => k_is); (case k8 => ktr_room); (case k9 => exact BindsTo.of_eq rfl); (case c5 => decide); (case kB => exact locs rfl); (case c2 => exact rfl); (case c3 => exact rfl); (case c4 => exact rfl); k_whole; intro g' L' h' FG' F' N' B' X' T' hkeep; (try dsimp only); (try k_lift B'); (try k_fold))
  k_steps
  · rename q < p => hqp
    refine' ret_end (sub' := []) (Q := fun r s' => R (.ok (.ret r)) s') hret N hkeep ?rF156 ?rN156 ?rG156 ?rM156 ?rin156 ?rsub156 ?rp156; (case rF156 => k_asm); (case rN156 => k_asm); (case rG156 => k_asm); (case rM156 => k_asm); (case rin156 => exact (List.forall_mem_nil _)); (case rsub156 => simp)
    exact ⟨⟨_, by rw [if_pos hqp]⟩, rfl⟩
  · rename ¬ q < p => hqp
    refine' ret_end (sub' := []) (Q := fun r s' => R (.ok (.ret r)) s') hret N hkeep ?rF157 ?rN157 ?rG157 ?rM157 ?rin157 ?rsub157 ?rp157; (case rF157 => k_asm); (case rN157 => k_asm); (case rG157 => k_asm); (case rM157 => k_asm); (case rin157 => exact (List.forall_mem_nil _)); (case rsub157 => simp)
    exact ⟨⟨_, by rw [if_neg hqp]⟩, rfl⟩
def GEnd (h₀ : Heap) (L : Addr) (m : Str → Option Value) (s₁ : Shared) (led : Led) (V : Value → Led → Prop) (y : Value) (s₂ : Shared) : Prop :=
  ∃ h' tk own, s₂ = { s₁ with heap := h', toks := tk } ∧ Fr h₀ L h' m ∧ News h₀ L h' (own ++ led) ∧ (∀ p ∈ own, ∀ q ∈ led, p.1 ≠ q.1) ∧ V y own
theorem gend {h₀ : Heap} {L : Addr} {m : Str → Option Value} {s₁ : Shared} {led all : Led} {V : Value → Led → Prop} {y : Value} {h' : Heap} {tk : Nat} (own : Led) (F : Fr h₀ L h' m) (N : News h₀ L h' all) (hs : ∀ p ∈ own ++ led, p ∈ all) (hn : ∀ p ∈ own, ∀ q ∈ led, p.1 ≠ q.1) (v : V y own) : GEnd h₀ L m s₁ led V y { s₁ with heap := h', toks := tk } :=
  ⟨h', tk, own, rfl, F, fun p hp => N p (hs p hp), hn, v⟩
section
open LCg
variable {prog : Program} {w : World} {A : Around} {E : Value → Shared → Prop} {s : Shared} {h₀ : Heap} {L : Addr} {m : Str → Option Value} {env : Env} {news : Led}
/-- a comprehension over a list of the ledger; its turns may make things -/
theorem comp_block {elt target iter : Expr} {scope : Scope} {cl : List (Str × Addr)} {pos : Pos} {s₂ : Shared} {I ax : Addr} {items : List Value} {V : Nat → Value → Led → Prop} {B : Nat → (Str → Option Value) → Prop} {RR : Value → Addr → Result → Shared → Prop} {na : Nat}
    (hh : A.handled = none) (hsz : items.length ≤ sizeLine) (hne : ax ≠ I) (hcell : ∀ y ∈ scope.names, y.2 ≠ .cell) (hkind : scope.kind = .function)
    (hit : s₂.heap.IsListIter I ax 0) (hax : (ax, listOf items.toArray na) ∈ news) (hI₀ : h₀.get? I = none) (hIL : L ≠ I)
    (F : Fr h₀ L s₂.heap m) (N : News h₀ L s₂.heap news) (hnI : ∀ p ∈ news, p.1 ≠ I)
    (hgo : ∀ i v (s : Shared) (Q : Unit → Shared → Prop) (E : Value → Shared → Prop), items[i]? = some v → s.heap.IsListIter I ax (i + 1) → Q () s → wpAny (model prog w) A (letOwnedTupleGo target (.ref I) v) Q E s)
    (hassign : ∀ i v C h tk m' (Q : Unit → Shared → Prop) (E : Value → Shared → Prop), items[i]? = some v → News h₀ L h news → h.Ns C m' →
      (∀ h' tk' m'', h'.Ns C m'' → B i m'' → (∀ c o, c ≠ C → h.get? c = some o → h'.get? c = some o) → Q () { s₂ with heap := h', toks := tk' }) → wpAny (model prog w) A (assign target (compEnvC scope cl C env) v) Q E { s₂ with heap := h, toks := tk })
    (turn : ∀ i, i < items.length → ∀ C oC m₂ h tk rest (E' : Value → Shared → Prop), NsObj oC m₂ → B i m₂ → Fr h₀ L h m → News h₀ L h ((C, oC) :: (news ++ rest)) →
      wpAny (model prog w) A (eval elt (compEnvC scope cl C env)) (GEnd h₀ L m { s₂ with heap := h, toks := tk } ((C, oC) :: (news ++ rest)) (V i)) E' { s₂ with heap := h, toks := tk })
    (hRR : ∀ D C h tk m' ys (owns : List Led), Fr h₀ L h m → News h₀ L h ((D, lst ys) :: (owns.flatten ++ news)) → (∀ p ∈ owns.flatten ++ news, p.1 ≠ D) → h.Ns C m' → h₀.get? C = none → C ≠ L → C ≠ D → (∀ p ∈ owns.flatten ++ news, p.1 ≠ C) → ys.length = items.length → owns.length = items.length → (∀ i v o, ys[i]? = some v → owns[i]? = some o → V i v o) →
      RR (.ref D) C (.ok .next) { s₂ with heap := h, toks := tk }) :
    wpAny (model prog w) A (newList []) (fun acc s₃ => wpAny (model prog w) A (newFunctionEnv scope env.globals cl [] env.qual none .none (some env)) (fun cenv s₄ =>
      codeAny (model prog w) A (.compStart (.ListComp elt [⟨target, iter, [], 0⟩] scope pos) 0 (.ref I) acc { cenv with scope := relabel scope env }) (RR acc cenv.locals) s₄) E s₃) E s₂ := by
  refine wpAny_newObj_type (wpAny_newFunctionEnv hcell (by intro y hy; simp at hy) (fun h₁ hns₁ hsb₁ => ?_) hkind)
  dsimp only at hns₁ hsb₁ ⊢
  generalize hH2 : s₂.heap.push { cls := .type "list", dict := none, data := .seq ([] : List Value).toArray } = H2 at hns₁ hsb₁ ⊢
  have hC : H2.objs.size = s₂.heap.objs.size + 1 := by rw [← hH2, Heap.size_push]
  have below : ∀ b, b < s₂.heap.objs.size → b ≠ H2.objs.size ∧ b ≠ s₂.heap.objs.size := fun b hb => ⟨by rw [hC]; exact Nat.ne_of_lt (Nat.lt_succ_of_lt hb), Nat.ne_of_lt hb⟩
  have hDC : s₂.heap.objs.size ≠ H2.objs.size := by rw [hC]; exact Nat.ne_of_lt (Nat.lt_succ_self _)
  have old : ∀ b o, s₂.heap.get? b = some o → h₁.get? b = some o := fun b o e => hsb₁.extBut b o (below b (Heap.lt_size e)).1 (Heap.get?_push_of_some _ (hH2 ▸ Heap.get?_push_of_some _ e))
  have hacc : h₁.get? s₂.heap.objs.size = some (lst []) := hsb₁.extBut _ _ hDC (Heap.get?_push_of_some _ (hH2 ▸ Heap.get?_push_size _ rfl))
  have fresh₀ : ∀ a, s₂.heap.objs.size ≤ a → h₀.get? a = none := fun a ha => by
    cases e : h₀.get? a with
    | none => rfl
    | some o' => exact absurd (Heap.lt_size (F.keep a o' e)) (Nat.not_lt.mpr ha)
  have hIlt : I < s₂.heap.objs.size := by obtain ⟨_, e, _⟩ := hit; exact Heap.lt_size e
  have hD₀ : h₀.get? s₂.heap.objs.size = none := fresh₀ _ (Nat.le_refl _)
  have hC₀ : h₀.get? H2.objs.size = none := fresh₀ _ (by rw [hC]; exact Nat.le_succ _)
  have hLlt : L < s₂.heap.objs.size := F.ns.lt
  have hDL : s₂.heap.objs.size ≠ L := Ne.symm (below L hLlt).2
  have hCL : H2.objs.size ≠ L := Ne.symm (below L hLlt).1
  have hCI : H2.objs.size ≠ I := Ne.symm (below I hIlt).1
  have hDI : s₂.heap.objs.size ≠ I := Ne.symm (below I hIlt).2
  have offN : ∀ p ∈ news, p.1 ≠ H2.objs.size ∧ p.1 ≠ s₂.heap.objs.size := fun p hp => below _ (Heap.lt_size (N p hp).1)
  have oldI : ∀ b o, h₀.get? b = some o → b ≠ I := fun b o e q => by rw [q, hI₀] at e; cases e
  have isl : ∀ h, News h₀ L h news → h.IsList ax items.toArray := fun h n => ⟨_, (n _ hax).1, rfl, _, rfl⟩
  have W := Walks.list (prog := prog) (w := w) hh I ax hne items.toArray
  have loop : ∀ s₃ : Shared, s₃ = { s₂ with heap := h₁, toks := s₂.toks + ([] : List (Str × Value)).length } →
      codeAny (model prog w) A (.compLoop (.ListComp elt [⟨target, iter, [], 0⟩] scope pos) 0 (.ref I) (.ref s₂.heap.objs.size) (compEnvC scope cl H2.objs.size env))
        (RR (.ref s₂.heap.objs.size) H2.objs.size) s₃ := by
    rintro s₃ rfl
    refine kcp_loop
      (fun k s' => ∃ h' tk i ys m' owns, s' = { s₂ with heap := h', toks := tk } ∧ i ≤ items.length ∧ k = items.length + 1 - i ∧ ys.length = i ∧ owns.length = i ∧ h'.IsListIter I ax i ∧ Fr h₀ L h' m ∧ h'.Ns H2.objs.size m' ∧
        News h₀ L h' ((s₂.heap.objs.size, lst ys) :: (owns.flatten ++ news)) ∧ (∀ p ∈ owns.flatten ++ news, p.1 ≠ H2.objs.size ∧ p.1 ≠ s₂.heap.objs.size ∧ p.1 ≠ I) ∧ (∀ j v o, ys[j]? = some v → owns[j]? = some o → V j v o)) ?_ (items.length + 1)
      ⟨h₁, _, 0, [], _, [], rfl, Nat.zero_le _, rfl, rfl, rfl, hit.at fun o e => old _ o e, F.keeps old, hns₁, fun p hp => ?_, fun p hp => ⟨(offN p hp).1, (offN p hp).2, hnI p hp⟩, fun j v o e => by simp at e⟩
    · rintro k s' ⟨h', tk, i, ys, m', owns, rfl, hi, rfl, hyl, hol, hit', F', hn', N', off', hV⟩
      have Nn : News h₀ L h' news := fun p hp => N' p (.tail _ (List.mem_append_right _ hp))
      by_cases hlt : i < items.length
      · refine W.item i _ _ _ (by simpa using hlt) ⟨hit', isl _ Nn⟩ fun v h₂ tk₂ hP hst₂ hk₂ => ?_
        have hv : items[i]? = some v := by simpa using hP
        refine hgo i v _ _ _ hv hst₂.1 ?_
        have up₂ : ∀ c o, c ≠ I → h'.get? c = some o → h₂.get? c = some o := fun c o hc e => hk₂ c o (by simpa using hc) e
        have Nn₂ : News h₀ L h₂ news := fun p hp => ⟨up₂ _ _ (hnI p hp) (Nn p hp).1, (Nn p hp).2⟩
        refine hassign i v H2.objs.size h₂ tk₂ m' _ _ hv Nn₂ (hn'.at' fun o e => up₂ _ o hCI e) fun h₄ tk₄ m₄ hn₄ hB hs₄ => ?_
        have up : ∀ c o, c ≠ I → c ≠ H2.objs.size → h'.get? c = some o → h₄.get? c = some o := fun c o h1 h2 e => hs₄ c o h2 (up₂ c o h1 e)
        obtain ⟨oI, heI, hoI⟩ := (hst₂.1.at fun o e => hs₄ I o (Ne.symm hCI) e : h₄.IsListIter I ax (i + 1))
        obtain ⟨oC, heC, hoC⟩ := ns_obj hn₄
        have F₄ : Fr h₀ L h₄ m := ⟨F'.ns.at' fun o e => up _ o hIL (Ne.symm hCL) e, fun c o e => up c o (oldI c o e) (fun q => by rw [q, hC₀] at e; cases e) (F'.keep c o e), F'.above⟩
        have N₄ : News h₀ L h₄ ((H2.objs.size, oC) :: (news ++ (I, oI) :: (s₂.heap.objs.size, lst ys) :: owns.flatten)) := fun q hq => by
          rcases List.mem_cons.mp hq with rfl | hq
          · exact ⟨heC, hCL, hC₀⟩
          · rcases List.mem_append.mp hq with hq | hq
            · have o := off' q (List.mem_append_right _ hq)
              exact ⟨up _ _ o.2.2 o.1 (Nn q hq).1, (Nn q hq).2⟩
            · rcases List.mem_cons.mp hq with rfl | hq
              · exact ⟨heI, Ne.symm hIL, hI₀⟩
              · rcases List.mem_cons.mp hq with rfl | hq
                · have z := N' _ List.mem_cons_self
                  exact ⟨up _ _ hDI hDC z.1, z.2⟩
                · have o := off' q (List.mem_append_left _ hq)
                  have z := N' q (.tail _ (List.mem_append_left _ hq))
                  exact ⟨up _ _ o.2.2 o.1 z.1, z.2⟩
        refine wpAny_mono (turn i hlt H2.objs.size oC m₄ h₄ tk₄ _ _ hoC hB F₄ N₄) (fun v s₅ h₅ => ?_) fun _ _ e => e
        obtain ⟨h₅, tk₅, own, rfl, F₅, N₅, hfr, hv⟩ := h₅
        have N₅' : ∀ p ∈ (H2.objs.size, oC) :: (news ++ (I, oI) :: (s₂.heap.objs.size, lst ys) :: owns.flatten), h₅.get? p.1 = some p.2 ∧ p.1 ≠ L ∧ h₀.get? p.1 = none := fun p hp => N₅ p (List.mem_append_right _ hp)
        have zC := (N₅' _ List.mem_cons_self).1
        have zI := (N₅' (I, oI) (.tail _ (List.mem_append_right _ (.head _)))).1
        have zD := (N₅' (s₂.heap.objs.size, lst ys) (.tail _ (List.mem_append_right _ (.tail _ (.head _))))).1
        have frC : ∀ p ∈ own, p.1 ≠ H2.objs.size ∧ p.1 ≠ s₂.heap.objs.size ∧ p.1 ≠ I := fun p hp => by
          exact ⟨hfr p hp (H2.objs.size, oC) (.head _), hfr p hp (s₂.heap.objs.size, lst ys) (.tail _ (List.mem_append_right _ (.tail _ (.head _)))), hfr p hp (I, oI) (.tail _ (List.mem_append_right _ (.head _)))⟩
        refine append_at (hsz := by show ys.toArray.size ≤ sizeLine; rw [List.size_toArray, hyl]; exact Nat.le_trans hi hsz) zD fun h₆ hs₆ hD₆ => ?_
        have offn : ∀ p ∈ (owns ++ [own]).flatten ++ news, p.1 ≠ H2.objs.size ∧ p.1 ≠ s₂.heap.objs.size ∧ p.1 ≠ I := fun p hp => by
          rcases List.mem_append.mp hp with hp | hp
          · rw [List.flatten_append] at hp
            rcases List.mem_append.mp hp with hp | hp
            · exact off' p (List.mem_append_left _ hp)
            · exact frC p (by simpa using hp)
          · exact off' p (List.mem_append_right _ hp)
        refine ⟨items.length + 1 - (i + 1), by omega, h₆, tk₅, i + 1, ys ++ [v], _, owns ++ [own], rfl, hlt, rfl, by rw [List.length_append, List.length_singleton, hyl], by rw [List.length_append, List.length_singleton, hol], ⟨oI, hs₆.extBut _ _ (Ne.symm hDI) zI, hoI⟩, F₅.change hs₆ hDL hD₀,
          (hoC.ns zC).sameBut hs₆ (Ne.symm hDC), fun q hq => ?_, offn, fun j v' o' e e' => ?_⟩
        · rcases List.mem_cons.mp hq with rfl | hq
          · exact ⟨hD₆.trans (congrArg some (lst_snoc ys v)), hDL, hD₀⟩
          · have z : h₅.get? q.1 = some q.2 ∧ q.1 ≠ L ∧ h₀.get? q.1 = none := by
              rcases List.mem_append.mp hq with hq | hq
              · rw [List.flatten_append] at hq
                rcases List.mem_append.mp hq with hq | hq
                · exact N₅' q (.tail _ (List.mem_append_right _ (.tail _ (.tail _ hq))))
                · exact N₅ q (List.mem_append_left _ (by simpa using hq))
              · exact N₅' q (.tail _ (List.mem_append_left _ hq))
            exact ⟨hs₆.extBut _ _ (offn q hq).2.1 z.1, z.2⟩
        · rcases Nat.lt_or_ge j ys.length with hl | hl
          · rw [List.getElem?_append_left hl] at e
            rw [List.getElem?_append_left (by omega)] at e'
            exact hV j v' o' e e'
          · rw [List.getElem?_append_right hl] at e
            rw [List.getElem?_append_right (by omega)] at e'
            rcases Nat.eq_zero_or_pos (j - ys.length) with h | h
            · rw [h] at e
              rw [show j - owns.length = 0 from by omega] at e'
              cases e
              cases e'
              have : j = i := by omega
              exact this ▸ hv
            · rw [List.getElem?_eq_none (by show 1 ≤ j - ys.length; omega)] at e
              cases e
      · obtain rfl : i = items.length := Nat.le_antisymm hi (Nat.not_lt.mp hlt)
        refine W.done _ _ _ ⟨by simpa using hit', isl _ Nn⟩ fun h₂ tk₂ hk₂ => ?_
        have up₂ : ∀ c o, c ≠ I → h'.get? c = some o → h₂.get? c = some o := fun c o hc e => hk₂ c o (by simpa using hc) e
        refine hRR _ _ h₂ tk₂ _ ys owns ⟨F'.ns.at' fun o e => up₂ _ o hIL e, fun c o e => up₂ c o (oldI c o e) (F'.keep c o e), F'.above⟩ (fun p hp => ⟨up₂ _ _ ?_ (N' p hp).1, (N' p hp).2⟩) (fun p hp => (off' p hp).2.1) (hn'.at' fun o e => up₂ _ o hCI e) hC₀ hCL (Ne.symm hDC) (fun p hp => (off' p hp).1) hyl hol hV
        rcases List.mem_cons.mp hp with rfl | hp
        · exact hDI
        · exact (off' p hp).2.2
    · rcases List.mem_cons.mp hp with rfl | hp
      · exact ⟨hacc, hDL, hD₀⟩
      · have hp : p ∈ news := by simpa using hp
        exact ⟨old _ _ (N p hp).1, (N p hp).2⟩
  have Nn₁ : News h₀ L h₁ news := fun p hp => ⟨old _ _ (N p hp).1, (N p hp).2⟩
  exact codeAny_compStart_list (loop _ rfl) (W.self 0 _ _ _ ⟨hit.at fun o e => old _ o e, isl _ Nn₁⟩ (loop _ rfl))
end
section
open LCg
variable {prog : Program} {w : World} {A : Around} {E : Value → Shared → Prop} {s : Shared} {h₀ : Heap} {L : Addr} {m : Str → Option Value} {env : Env}
def GSrc (prog : Program) (w : World) (A : Around) (h₀ : Heap) (L : Addr) (m : Str → Option Value) (env : Env) (elt target : Expr) (scope : Scope) (cl : List (Str × Addr)) (y : Str) (Q : Flow → Shared → Prop) (xv : Value) (s₁ : Shared) : Prop :=
  ∃ (ax : Addr) (items : List Value) (na : Nat) (news : Led) (V : Nat → Value → Led → Prop) (B : Nat → (Str → Option Value) → Prop), xv = .ref ax ∧ A.handled = none ∧ Fr h₀ L s₁.heap m ∧ News h₀ L s₁.heap news ∧ (ax, listOf items.toArray na) ∈ news ∧ items.length ≤ sizeLine ∧
    (∀ i v I (s : Shared) (Q : Unit → Shared → Prop) (E : Value → Shared → Prop), items[i]? = some v → s.heap.IsListIter I ax (i + 1) → Q () s → wpAny (model prog w) A (letOwnedTupleGo target (.ref I) v) Q E s) ∧
    (∀ i v C h tk m' (Q : Unit → Shared → Prop) (E : Value → Shared → Prop), items[i]? = some v → News h₀ L h news → h.Ns C m' →
      (∀ h' tk' m'', h'.Ns C m'' → B i m'' → (∀ c o, c ≠ C → h.get? c = some o → h'.get? c = some o) → Q () { s₁ with heap := h', toks := tk' }) → wpAny (model prog w) A (assign target (compEnvC scope cl C env) v) Q E { s₁ with heap := h, toks := tk }) ∧
    (∀ i, i < items.length → ∀ C oC m₂ h tk rest (E' : Value → Shared → Prop), NsObj oC m₂ → B i m₂ → Fr h₀ L h m → News h₀ L h ((C, oC) :: (news ++ rest)) →
      wpAny (model prog w) A (eval elt (compEnvC scope cl C env)) (GEnd h₀ L m { s₁ with heap := h, toks := tk } ((C, oC) :: (news ++ rest)) (V i)) E' { s₁ with heap := h, toks := tk }) ∧
    ∀ D ys (owns : List Led) h tk, Fr h₀ L h (fun z => if z = y then some (.ref D) else m z) → News h₀ L h ((D, lst ys) :: (owns.flatten ++ news)) → ys.length = items.length → owns.length = items.length → (∀ i v o, ys[i]? = some v → owns[i]? = some o → V i v o) → Q .next { s₁ with heap := h, toks := tk }
theorem comp_assign {elt target iter : Expr} {y : Str} {py : Pos} {scope : Scope} {cl : List (Str × Addr)} {pos spos : Pos} {Q : Flow → Shared → Prop} (_F₀ : Fr h₀ L s.heap m) (hLe : env.locals = L)
    (hsw : swapsWith (.ListComp elt [⟨target, iter, [], 0⟩] scope pos) (some (.Name y py)) spos.line env = pure true)
    (hclos : closureFor scope env = pure cl) (hcell : ∀ z ∈ scope.names, z.2 ≠ .cell) (hkind : scope.kind = .function)
    (hnames : ∀ z ∈ scope.names, z.2 = .local → scope.names.lookup z.1 = some .local)
    (hy : env.kindOf y = some .local) (hp : (env.scope.kind == .class || (env.scope.kind == .module && env.locals != env.globals)) = false)
    (h : wpAny (model prog w) A (eval iter env) (GSrc prog w A h₀ L m env elt target scope cl y Q) E s)
    (hs : ∀ x, foldedSetIterable iter env x = pure x := by intro _; rfl) :
    wpAny (model prog w) A (exec (.Assign [.Name y py] (.ListComp elt [⟨target, iter, [], 0⟩] scope pos) spos) env) Q E s := by
  subst hLe
  rw [exec_Assign_Name_used _ _ _ _ hsw]
  refine wpAny_bind (wpAny_standAt (wpAny_bind ?_))
  show wpAny _ A (do let _ ← comprehension (.ListComp elt [⟨target, iter, [], 0⟩] scope pos) scope env _ (newList []) false (eval iter env) (some (assign (.Name y py) env))) _ _ s
  refine wpAny_bind (wpAny_mono (wpAny_comprehension_free (use := some (assign (.Name y py) env)) (Q := fun _ s' => Q .next s') rfl hs hclos hkind hnames
    (wpAny_mono h (fun xv s₁ h₁ => ?_) fun _ _ e => e)) (fun _ s' hq => wpAny_pure (wpAny_pure hq)) fun _ _ e => e)
  obtain ⟨ax, items, na, news, V, B, rfl, hh, F, N, hax, hsz, hgo, hassign, turn, fin⟩ := h₁
  have hl : s₁.heap.IsList ax items.toArray := ⟨_, (N _ hax).1, rfl, _, rfl⟩
  have hlt : ax < s₁.heap.objs.size := Heap.lt_size (N _ hax).1
  refine wpAny_pyIter_list hl ?_
  have up : ∀ b o, s₁.heap.get? b = some o → (s₁.heap.push { cls := .type "list_iterator", data := .fields #[.ref ax, .int 0 0] }).get? b = some o := fun b o e => Heap.get?_push_of_some _ e
  refine comp_block (V := V) (B := B) hh hsz (Nat.ne_of_lt hlt) hcell hkind ⟨_, Heap.get?_push_size _ rfl, rfl, rfl⟩ hax (next_is_new F) (Nat.ne_of_lt F.ns.lt) (F.keeps up) (N.grown up) (fun p hp => Nat.ne_of_lt (Heap.lt_size (N p hp).1))
    (fun i v s Q E => hgo i v _ s Q E) hassign turn ?_
  intro D C h' tk m' ys owns F' N' offD hn hC₀ hCL hCD offC hyl hol hV
  show wpAny _ A (assign (.Name y py) env (.ref D)) _ _ _
  refine wpAny_assign_Name (wpAny_storeName_local hy F'.ns (fun h₂ hn₂ hs₂ => ?_) hp)
  have hL₀ : h₀.get? env.locals = none := Heap.get?_none_of_le F'.above
  have F₂ : Fr h₀ env.locals h₂ (fun z => if z = y then some (.ref D) else m z) := ⟨hn₂, fun b o e => hs₂.extBut b o (fun q => by rw [q, hL₀] at e; cases e) (F'.keep b o e), F'.above⟩
  refine ⟨m', hn.sameBut hs₂ hCL, fun h'' hs'' => fin D ys owns h'' _ (F₂.change hs'' hCL hC₀) (fun p hp => ?_) hyl hol hV⟩
  have z : h₂.get? p.1 = some p.2 := hs₂.extBut _ _ (N' p hp).2.1 (N' p hp).1
  refine ⟨hs''.extBut _ _ ?_ z, (N' p hp).2⟩
  rcases List.mem_cons.mp hp with rfl | hp
  · exact Ne.symm hCD
  · exact offC p hp
structure PairZ where
  p : Nat
  t : Nat
  b : Nat
  u : Tok
  v : Tok
abbrev PairZ.ent (z : PairZ) : Addr × Obj := (z.p, tup2 z.t z.u z.b z.v)
/-- over a list of pairs -/
theorem src_pairs {elt : Expr} {a b y : Str} {pa pb tp : Pos} {kk : Nat} {scope : Scope} {cl : List (Str × Addr)} {Q : Flow → Shared → Prop} {ax na : Nat} {news : Led} {zs : List PairZ} {s₁ : Shared} (V : Nat → Value → Led → Prop)
    (hh : A.handled = none) (F : Fr h₀ L s₁.heap m) (N : News h₀ L s₁.heap news) (hax : (ax, listOf (zs.map fun z => Value.ref z.p).toArray na) ∈ news) (hz : ∀ z ∈ zs, z.ent ∈ news) (hsz : zs.length ≤ 1000)
    (hxa : scope.names.lookup a = some .local) (hxb : scope.names.lookup b = some .local) (hab : ¬ a = b) (hkind : scope.kind = .function)
    (turn : ∀ i z, zs[i]? = some z → ∀ C oC m₂ h tk rest (E' : Value → Shared → Prop), NsObj oC m₂ → m₂ a = some (.int z.t z.u) → m₂ b = some (.int z.b z.v) → Fr h₀ L h m → News h₀ L h ((C, oC) :: (news ++ rest)) →
      wpAny (model prog w) A (eval elt (compEnvC scope cl C env)) (GEnd h₀ L m { s₁ with heap := h, toks := tk } ((C, oC) :: (news ++ rest)) (V i)) E' { s₁ with heap := h, toks := tk })
    (fin : ∀ D ys (owns : List Led) h tk, Fr h₀ L h (fun z => if z = y then some (.ref D) else m z) → News h₀ L h ((D, lst ys) :: (owns.flatten ++ news)) → ys.length = zs.length → owns.length = zs.length → (∀ i v o, ys[i]? = some v → owns[i]? = some o → V i v o) → Q .next { s₁ with heap := h, toks := tk }) :
    GSrc prog w A h₀ L m env elt (.Tuple [.Name a pa, .Name b pb] kk tp) scope cl y Q (.ref ax) s₁ := by
  have hat : ∀ (i : Nat) (v : Value), (zs.map fun z => Value.ref z.p)[i]? = some v → ∃ z : PairZ, zs[i]? = some z ∧ v = Value.ref z.p := fun i v e => by
    rw [List.getElem?_map, Option.map_eq_some_iff] at e
    obtain ⟨z, e1, e2⟩ := e
    exact ⟨z, e1, e2.symm⟩
  refine ⟨ax, _, na, news, V, fun i m => ∃ z, zs[i]? = some z ∧ m a = some (.int z.t z.u) ∧ m b = some (.int z.b z.v), rfl, hh, F, N, hax, by rw [List.length_map, sizeLine_eq]; omega, ?_, ?_, ?_, fun D ys owns h tk F' N' h1 h2 => fin D ys owns h tk F' N' (by rw [h1, List.length_map]) (by rw [h2, List.length_map])⟩
  · intro i v I s Q' E' e hit hq
    obtain ⟨z, _, rfl⟩ := hat i v e
    exact wpAny_letOwnedTupleGo_listiter hit hq
  · intro i v C h tk m' Q' E' e n hn k
    obtain ⟨z, ez, rfl⟩ := hat i v e
    have zz := n _ (hz z (List.mem_of_getElem? ez))
    refine kcp_assign (env := compEnvC scope cl C env) hh ⟨_, zz.1, rfl, 0, rfl⟩ (lookup_relabel_local hxa) (lookup_relabel_local hxb) (by simp [compEnvC, relabel, hkind]) hn fun h' tk' hn' hs' => ?_
    exact k h' tk' _ hn' ⟨z, ez, by simp [hab], by simp⟩ fun c o hc e => hs' c o hc e
  · intro i hi C oC m₂ h tk rest E' hC ⟨z, ez, ea, eb⟩ F' N'
    exact turn i z ez C oC m₂ h tk rest E' hC ea eb F' N'
/-- over a list, one name -/
theorem src_names {elt : Expr} {x y : Str} {px : Pos} {scope : Scope} {cl : List (Str × Addr)} {Q : Flow → Shared → Prop} {ax na : Nat} {news : Led} {items : List Value} {s₁ : Shared} (V : Nat → Value → Led → Prop)
    (hh : A.handled = none) (F : Fr h₀ L s₁.heap m) (N : News h₀ L s₁.heap news) (hax : (ax, listOf items.toArray na) ∈ news) (hsz : items.length ≤ 1000)
    (hx : scope.names.lookup x = some .local) (hkind : scope.kind = .function)
    (turn : ∀ i v, items[i]? = some v → ∀ C oC m₂ h tk rest (E' : Value → Shared → Prop), NsObj oC m₂ → m₂ x = some v → Fr h₀ L h m → News h₀ L h ((C, oC) :: (news ++ rest)) →
      wpAny (model prog w) A (eval elt (compEnvC scope cl C env)) (GEnd h₀ L m { s₁ with heap := h, toks := tk } ((C, oC) :: (news ++ rest)) (V i)) E' { s₁ with heap := h, toks := tk })
    (fin : ∀ D ys (owns : List Led) h tk, Fr h₀ L h (fun z => if z = y then some (.ref D) else m z) → News h₀ L h ((D, lst ys) :: (owns.flatten ++ news)) → ys.length = items.length → owns.length = items.length → (∀ i v o, ys[i]? = some v → owns[i]? = some o → V i v o) → Q .next { s₁ with heap := h, toks := tk }) :
    GSrc prog w A h₀ L m env elt (.Name x px) scope cl y Q (.ref ax) s₁ := by
  refine ⟨ax, items, na, news, V, fun i m => ∃ v, items[i]? = some v ∧ m x = some v, rfl, hh, F, N, hax, by rw [sizeLine_eq]; omega, ?_, ?_, ?_, fin⟩
  · intro i v I s Q' E' e hit hq
    show wpAny _ _ (pure ()) _ _ _
    exact wpAny_pure hq
  · intro i v C h tk m' Q' E' e n hn k
    refine wpAny_assign_Name (wpAny_storeName_local (lookup_relabel_local hx) hn (fun h' hn' hs' => ?_) (by simp [compEnvC, relabel, hkind]))
    exact k h' _ _ hn' ⟨v, e, by simp⟩ fun c o hc e => hs'.extBut c o hc e
  · intro i hi C oC m₂ h tk rest E' hC ⟨v, ev, ex⟩ F' N'
    exact turn i v ev C oC m₂ h tk rest E' hC ex F' N'
end
theorem make_lead {w : World} {mean : ExcName → Option Value} {mg mb : Str → Option Value} {t b : Nat} {tk0 : Tok} {news : Led} (ht : t ≤ 3) (hb : b ≤ 5)
  : ∀ {dp un : Nat} {gd : Option (List Code)} {cn : Str} {cs : Scope} {a : Addr} {ccd : Value} {cl : List (Str × Addr)} {outer : List Env} {A₀ : Around} {base h₀ : Heap} {L : Addr} {m : Str → Option Value} {s : Shared} {Q E : Value → Shared → Prop},
    Below A₀ base outer h₀ → Fr h₀ L s.heap m → (hd.heap_1 w.params).In h₀ → News h₀ L s.heap news → Top vw (looseW vw [Str.ofString "Whitespace"]) mean mg mb h₀ → cs.kind = .function → dp + 20 < recursionLimit → un + 200 < cLine →
    (∀ (z : Lead) h' tk', z.t = t → z.b = b → Fr h₀ L h' m → News h₀ L h' (z.led w ++ news) → (∀ p ∈ z.led w, ∀ q ∈ news, p.1 ≠ q.1) → Q (.ref z.x) { s with heap := h', toks := tk' }) →
    wpAny (model PySem.Challenge.rw_qj0008_01.row.prog w) (ktrTop dp un gd cn cs L a ccd cl outer) (call (.ref 111) [.str (tbStr t b) tk0]) Q E s := by
  k_fill
  intro dp un gd cn cs a ccd cl outer A₀ base h₀ L m s Q E B F X N T hk hdp hu ret
  refine call_cls F X N (by k_dflt k_is) (fI := 66) (by k_dflt k_is) (by k_dflt k_is) (fun x dx h' F' N' l1 l2 => ?_)
  have lx : ∀ q ∈ news, q.1 ≠ x ∧ q.1 ≠ dx := fun q hq => ⟨Nat.ne_of_lt (Nat.lt_trans (l1 q hq) l2), Nat.ne_of_lt (l1 q hq)⟩
  k_dflt (refine' CodeSpec.code (init_spec ht hb) ?uB ?uF ?uX ?uN ?uT ?uk ?uin ?ud ?uu ?_)
  case uB => k_asm
  case uF => k_asm
  case uX => k_asm
  case uN => exact N'
  case uT => k_asm
  case uk => exact hk
  case uin => exact (List.forall_mem_cons.mpr ⟨by k_mem, (List.forall_mem_cons.mpr ⟨by k_mem, (List.forall_mem_nil _)⟩)⟩)
  case ud => (show dp + 1 + 4 < recursionLimit; omega)
  case uu => (show un + 1 + 60 < cLine; omega)
  intro r9 sub9 h9 tk9 F9 N9 K9 f9 P9
  obtain ⟨e9, z, ex, edx, et, eb, e8⟩ := P9
  subst e9 e8 ex edx
  have nn : News h₀ L h9 (z.led w ++ news) := news_on N' N9 K9 (fun p hp => .tail _ (.tail _ hp)) (fun p hp => by simpa using (lx p hp).2)
  refine ⟨rfl, ?_⟩
  refine ret z h9 tk9 et eb F9 nn fun p hp q hq => ?_
  have hq2 := (N' q (.tail _ (.tail _ hq))).1
  have nx : z.nx ≠ z.dx := news_ne N9 (List.Mem.tail _ (List.Mem.tail _ (List.Mem.head _))) (List.Mem.tail _ (List.Mem.head _)) (by simp)
  have cx : z.cx ≠ z.dx := news_ne N9 (List.Mem.tail _ (List.Mem.tail _ (List.Mem.tail _ (List.Mem.head _)))) (List.Mem.tail _ (List.Mem.head _)) (by simp)
  have fr : ∀ (y : Addr) (o : Obj), (y, o) ∈ z.led w → o.cls = .type "tuple" → y ≠ z.dx → y ≠ q.1 := fun y o hy ho hd e => by
    rcases f9 (y, o) hy with h | h | h
    · exact hd (by simpa using h)
    · simp only [List.mem_cons, List.not_mem_nil, or_false, Prod.mk.injEq] at h
      rcases h with ⟨_, h⟩ | ⟨_, h⟩ <;> (rw [h] at ho; simp at ho)
    · have h' : h'.get? y = none := h
      rw [e, hq2] at h'
      cases h'
  simp only [Lead.led, List.mem_cons, List.not_mem_nil, or_false] at hp
  rcases hp with rfl | rfl | rfl | rfl
  · exact Ne.symm (lx q hq).1
  · exact Ne.symm (lx q hq).2
  · exact fr z.nx _ (List.Mem.tail _ (List.Mem.tail _ (List.Mem.head _))) rfl nx
  · exact fr z.cx _ (List.Mem.tail _ (List.Mem.tail _ (List.Mem.tail _ (List.Mem.head _)))) rfl cx
theorem mul_tabs : ∀ n < 9, Txt.mul (Str.ofString "\t") ((n : Nat) : Int) = oneS 9 n := by decide +kernel
theorem mul_blanks : ∀ n < 9, Txt.mul (Str.ofString " ") ((n : Nat) : Int) = oneS 32 n := by decide +kernel
theorem mul_caps : ∀ n < 9, Txt.mul (Str.ofString "A") ((n : Nat) : Int) = oneS 65 n := by decide +kernel
theorem mul_smalls : ∀ n < 9, Txt.mul (Str.ofString "a") ((n : Nat) : Int) = oneS 97 n := by decide +kernel
theorem one_letter : (Str.ofString "\t").length = 1 ∧ (Str.ofString " ").length = 1 ∧ (Str.ofString "A").length = 1 ∧ (Str.ofString "a").length = 1 := by decide +kernel
section
variable {prog : Program} {w : World} {A : Around} {E : Value → Shared → Prop} {s : Shared} {t u : Tok} {Q : Value → Shared → Prop} {x y : Str} {n : Nat}
theorem mul_letter (e : Txt.mul x ((n : Nat) : Int) = y) (hx : x.length = 1) (hn : n < 9) (h : ∀ t' k, Q (.str y t') { s with toks := k }) : wpAny (model prog w) A (binaryOp .Mult (.str x t) (.int (n : Int) u)) Q E s :=
  SB.mul (mulOk_of 16 1048576 (by omega) (by omega) (by omega) (by decide) (by decide)) (fun t' k => e ▸ h t' k)
theorem add_tb {a b : Nat} (ha : a < 9) (hb : b < 9) (h : ∀ t' k, Q (.str (tbStr a b) t') { s with toks := k }) : wpAny (model prog w) A (binaryOp .Add (.str (oneS 9 a) t) (.str (oneS 32 b) u)) Q E s := by
  have e : oneS 9 a ++ oneS 32 b = tbStr a b := by
    apply Str.ext'
    simp [oneS, tbStr, Str.cps_append]
  exact add_str (fun t' k => e ▸ h t' k) (by rw [one_len, one_len, sizeLine_eq]; omega)
theorem add_wa {a b : Nat} (ha : a < 9) (hb : b < 9) (h : ∀ t' k, Q (.str (waStr a b) t') { s with toks := k }) : wpAny (model prog w) A (binaryOp .Add (.str (oneS 65 a) t) (.str (oneS 97 b) u)) Q E s := by
  have e : oneS 65 a ++ oneS 97 b = waStr a b := by
    apply Str.ext'
    simp [oneS, waStr, Str.cps_append]
  exact add_str (fun t' k => e ▸ h t' k) (by rw [one_len, one_len, sizeLine_eq]; omega)
end
theorem CodeSpecS.use {w : World} {mean : ExcName → Option Value} {mg mb : Str → Option Value} {f sl : Nat} {vs : List Value} {news : Led} {d u : Nat} {Post : Value → Led → Prop}
  {dp un : Nat} {gd : Option (List Code)} {cn : Str} {cs : Scope} {a : Addr} {ccd : Value} {cl : List (Str × Addr)} {outer : List Env} {A₀ : Around} {base h₀ : Heap} {L : Addr} {m : Str → Option Value} {s : Shared} {Q E : Value → Shared → Prop} (C : CodeSpecS w mean mg mb f sl vs d u Post) (hsl : h₀.IsList sl vs.toArray)
    (B : Below A₀ base outer h₀) (F : Fr h₀ L s.heap m) (X : (hd.heap_1 w.params).In h₀) (_N : News h₀ L s.heap news) (T : Top vw (looseW vw [Str.ofString "Whitespace"]) mean mg mb h₀) (hk : cs.kind = .function) (hd : dp + d < recursionLimit) (hu : un + u < cLine)
    (ret : Ret h₀ L m s [] [] Post Q) : wpAny (model PySem.Challenge.rw_qj0008_01.row.prog w) (ktrTop dp un gd cn cs L a ccd cl outer) (call (.ref f) [.ref sl]) Q E s :=
  wpAny_call (C dp un gd cn cs a ccd cl outer A₀ base h₀ L m s _ hsl B F X (fun _ h => nomatch h) T hk hd hu ret)
section
variable {w : World} {mean : ExcName → Option Value} {mg mb : Str → Option Value} {f : Addr} {vs : List Value} {sub news : Led} {d u : Nat} {Post : Value → Led → Prop}
  {dp un : Nat} {gd : Option (List Code)} {cn : Str} {cs : Scope} {a : Addr} {ccd : Value} {cl : List (Str × Addr)} {outer : List Env} {A₀ : Around} {base h₀ : Heap} {L : Addr} {m : Str → Option Value} {s : Shared}
/-- a call that changes nothing that stood, and hands back new things -/
theorem CodeSpec.use0 {Q E : Value → Shared → Prop} (C : CodeSpec w mean mg mb f vs sub [] d u Post)
    (B : Below A₀ base outer h₀) (F : Fr h₀ L s.heap m) (X : (hd.heap_1 w.params).In h₀) (N : News h₀ L s.heap news) (T : Top vw (looseW vw [Str.ofString "Whitespace"]) mean mg mb h₀) (hk : cs.kind = .function) (hin : ∀ p ∈ sub, p ∈ news) (hd : dp + d < recursionLimit) (hu : un + u < cLine)
    (ret : ∀ (r : Value) (l : Led) (h' : Heap) (tk' : Nat), Fr h₀ L h' m → News h₀ L h' (l ++ news) → (∀ p ∈ l, p ∈ sub ∨ ∀ q ∈ news, p.1 ≠ q.1) → Post r l → Q r { s with heap := h', toks := tk' }) : wpAny (model PySem.Challenge.rw_qj0008_01.row.prog w) (ktrTop dp un gd cn cs L a ccd cl outer) (call (.ref f) vs) Q E s :=
  C.use B F X N T hk hin hd hu (fun r sub' h' tk' F' N' K' f' P' => ret r sub' h' tk' F' (news_on N N' K' (fun _ h => h) (fun p _ q => nomatch q)) (fun p hp => by
    rcases f' p hp with h | h | h
    · exact nomatch h
    · exact .inl h
    · refine .inr fun q hq e => ?_
      rw [e, (N q hq).1] at h
      cases h) P')
end
theorem list5 {α : Type} {a b c d e a' b' c' d' e' : α} (h0 : a = a') (h1 : b = b') (h2 : c = c') (h3 : d = d') (h4 : e = e') : [a, b, c, d, e] = [a', b', c', d', e'] := by rw [h0, h1, h2, h3, h4]
def LeadFin (w : World) (a b c d e : PairZ) (ys : List Value) (owns : List Led) : Prop :=
    ∃ z0 z1 z2 z3 z4 : Lead, ys = [Value.ref z0.x, Value.ref z1.x, Value.ref z2.x, Value.ref z3.x, Value.ref z4.x] ∧ owns = [z0.led w, z1.led w, z2.led w, z3.led w, z4.led w] ∧ (z0.t = a.t ∧ z0.b = a.b) ∧ (z1.t = b.t ∧ z1.b = b.b) ∧ (z2.t = c.t ∧ z2.b = c.b) ∧ (z3.t = d.t ∧ z3.b = d.b) ∧ (z4.t = e.t ∧ z4.b = e.b)
theorem lead_fin {w : World} {a b c d e : PairZ} {ys : List Value} {owns : List Led} (h1 : ys.length = 5) (h2 : owns.length = 5)
    (hV : ∀ (i : Nat) (v : Value) (o : Led), ys[i]? = some v → owns[i]? = some o → ∃ (z9 : Lead) (z : PairZ), [a, b, c, d, e][i]? = some z ∧ v = .ref z9.x ∧ o = z9.led w ∧ z9.t = z.t ∧ z9.b = z.b) : LeadFin w a b c d e ys owns := by
  obtain ⟨y0, y1, y2, y3, y4, rfl⟩ := five ys h1
  obtain ⟨o0, o1, o2, o3, o4, rfl⟩ := five owns h2
  have at' : ∀ (i : Nat) (v : Value) (o : Led) (z : PairZ), [y0, y1, y2, y3, y4][i]? = some v → [o0, o1, o2, o3, o4][i]? = some o → [a, b, c, d, e][i]? = some z → ∃ z9 : Lead, v = .ref z9.x ∧ o = z9.led w ∧ (z9.t = z.t ∧ z9.b = z.b) := fun i v o z hv ho hz => by
    obtain ⟨z9, z', q, r⟩ := hV i v o hv ho
    obtain rfl : z = z' := Option.some.inj (hz.symm.trans q)
    exact ⟨z9, r⟩
  clear hV
  obtain ⟨z0, e0, f0, r0⟩ := at' 0 _ _ _ rfl rfl rfl
  obtain ⟨z1, e1, f1, r1⟩ := at' 1 _ _ _ rfl rfl rfl
  obtain ⟨z2, e2, f2, r2⟩ := at' 2 _ _ _ rfl rfl rfl
  obtain ⟨z3, e3, f3, r3⟩ := at' 3 _ _ _ rfl rfl rfl
  obtain ⟨z4, e4, f4, r4⟩ := at' 4 _ _ _ rfl rfl rfl
  exact ⟨z0, z1, z2, z3, z4, list5 e0 e1 e2 e3 e4, list5 f0 f1 f2 f3 f4, r0, r1, r2, r3, r4⟩
def WordFin (a b c d e : PairZ) (ys : List Value) (owns : List Led) : Prop :=
    ∃ k0 k1 k2 k3 k4 : Tok, ys = [Value.str (waStr a.t a.b) k0, Value.str (waStr b.t b.b) k1, Value.str (waStr c.t c.b) k2, Value.str (waStr d.t d.b) k3, Value.str (waStr e.t e.b) k4] ∧ owns = [[], [], [], [], []]
theorem word_fin {a b c d e : PairZ} {ys : List Value} {owns : List Led} (h1 : ys.length = 5) (h2 : owns.length = 5)
    (hV : ∀ (i : Nat) (v : Value) (o : Led), ys[i]? = some v → owns[i]? = some o → ∃ (z : PairZ) (k : Tok), [a, b, c, d, e][i]? = some z ∧ v = .str (waStr z.t z.b) k ∧ o = []) : WordFin a b c d e ys owns := by
  obtain ⟨y0, y1, y2, y3, y4, rfl⟩ := five ys h1
  obtain ⟨o0, o1, o2, o3, o4, rfl⟩ := five owns h2
  have at' : ∀ (i : Nat) (v : Value) (o : Led) (z : PairZ), [y0, y1, y2, y3, y4][i]? = some v → [o0, o1, o2, o3, o4][i]? = some o → [a, b, c, d, e][i]? = some z → ∃ k : Tok, v = .str (waStr z.t z.b) k ∧ o = [] := fun i v o z hv ho hz => by
    obtain ⟨z', k, q, r⟩ := hV i v o hv ho
    obtain rfl : z = z' := Option.some.inj (hz.symm.trans q)
    exact ⟨k, r⟩
  clear hV
  obtain ⟨k0, e0, f0⟩ := at' 0 _ _ _ rfl rfl rfl
  obtain ⟨k1, e1, f1⟩ := at' 1 _ _ _ rfl rfl rfl
  obtain ⟨k2, e2, f2⟩ := at' 2 _ _ _ rfl rfl rfl
  obtain ⟨k3, e3, f3⟩ := at' 3 _ _ _ rfl rfl rfl
  obtain ⟨k4, e4, f4⟩ := at' 4 _ _ _ rfl rfl rfl
  exact ⟨k0, k1, k2, k3, k4, list5 e0 e1 e2 e3 e4, list5 f0 f1 f2 f3 f4⟩
abbrev markOf (z : Lead) (q1 q2 q3 : Tok) : Obj := listOf #[.int (2 * (z.b + 1 * z.t)) q1, .int (z.b + 2 * z.t) q2, .int (3 * (z.b + 1 * z.t) - (z.b + 2 * z.t)) q3] 0
def MarkFin (z0 z1 z2 z3 z4 : Lead) (ys : List Value) (owns : List Led) : Prop :=
    ∃ (a0 a1 a2 a3 a4 : Nat) (q0 q1 q2 r0 r1 r2 s0 s1 s2 t0 t1 t2 u0 u1 u2 : Tok), ys = [Value.ref a0, Value.ref a1, Value.ref a2, Value.ref a3, Value.ref a4] ∧ owns = [[(a0, markOf z0 q0 q1 q2)], [(a1, markOf z1 r0 r1 r2)], [(a2, markOf z2 s0 s1 s2)], [(a3, markOf z3 t0 t1 t2)], [(a4, markOf z4 u0 u1 u2)]]
theorem mark_fin {z0 z1 z2 z3 z4 : Lead} {ys : List Value} {owns : List Led} (h1 : ys.length = 5) (h2 : owns.length = 5)
    (hV : ∀ (i : Nat) (v : Value) (o : Led), ys[i]? = some v → owns[i]? = some o → ∃ (z : Lead) (a : Nat) (q1 q2 q3 : Tok), [z0, z1, z2, z3, z4][i]? = some z ∧ v = .ref a ∧ o = [(a, markOf z q1 q2 q3)]) : MarkFin z0 z1 z2 z3 z4 ys owns := by
  obtain ⟨y0, y1, y2, y3, y4, rfl⟩ := five ys h1
  obtain ⟨o0, o1, o2, o3, o4, rfl⟩ := five owns h2
  have at' : ∀ (i : Nat) (v : Value) (o : Led) (z : Lead), [y0, y1, y2, y3, y4][i]? = some v → [o0, o1, o2, o3, o4][i]? = some o → [z0, z1, z2, z3, z4][i]? = some z → ∃ (a : Nat) (q1 q2 q3 : Tok), v = .ref a ∧ o = [(a, markOf z q1 q2 q3)] := fun i v o z hv ho hz => by
    obtain ⟨z', a, q1, q2, q3, q, r⟩ := hV i v o hv ho
    obtain rfl : z = z' := Option.some.inj (hz.symm.trans q)
    exact ⟨a, q1, q2, q3, r⟩
  clear hV
  obtain ⟨a0, q0, q1, q2, e0, f0⟩ := at' 0 _ _ _ rfl rfl rfl
  obtain ⟨a1, r0, r1, r2, e1, f1⟩ := at' 1 _ _ _ rfl rfl rfl
  obtain ⟨a2, s0, s1, s2, e2, f2⟩ := at' 2 _ _ _ rfl rfl rfl
  obtain ⟨a3, t0, t1, t2, e3, f3⟩ := at' 3 _ _ _ rfl rfl rfl
  obtain ⟨a4, u0, u1, u2, e4, f4⟩ := at' 4 _ _ _ rfl rfl rfl
  exact ⟨a0, a1, a2, a3, a4, q0, q1, q2, r0, r1, r2, s0, s1, s2, t0, t1, t2, u0, u1, u2, list5 e0 e1 e2 e3 e4, list5 f0 f1 f2 f3 f4⟩
theorem of_get {α : Type} {l : List α} {i : Nat} {x : α} {p : α → Prop} (h : l[i]? = some x) (hp : ∀ y ∈ l, p y) : p x := hp x (List.mem_of_getElem? h)
theorem led_cls {w : World} {z : Lead} {c : Value} (h1 : c ≠ .ref 111) (h2 : c ≠ .type "dict") (h3 : c ≠ .type "tuple") : ∀ p ∈ z.led w, p.2.cls ≠ c := by
  intro p hp
  simp only [Lead.led, List.mem_cons, List.not_mem_nil, or_false] at hp
  rcases hp with rfl | rfl | rfl | rfl
  · exact Ne.symm h1
  · exact Ne.symm h2
  · exact Ne.symm h3
  · exact Ne.symm h3
abbrev markZ (z : Lead) (a : Nat) (q1 q2 q3 k : Tok) : MarkZ := ⟨z.t, z.b, a, 2 * (z.b + 1 * z.t), z.b + 2 * z.t, 3 * (z.b + 1 * z.t) - (z.b + 2 * z.t), q1, q2, q3, k⟩
theorem markZ_ok {z : Lead} {a : Nat} {q1 q2 q3 k : Tok} (ht : z.t ≤ 3) (hb : z.b ≤ 5) : (markZ z a q1 q2 q3 k).Ok := ⟨ht, hb, rfl, rfl, rfl⟩
theorem least_unique {col : Int → Int} {c k c' k' : Int} (h : IsLeast col c k) (h' : IsLeast col c' k') : c = c' ∧ k = k' := by
  obtain ⟨a0, a5, ac, al⟩ := h
  obtain ⟨b0, b5, bc, bl⟩ := h'
  have x := al k' b0 b5
  have y := bl k a0 a5
  rw [← bc] at x
  rw [← ac] at y
  unfold lexLe at x y
  omega
abbrev TurnOk (t b t' b' i : Nat) : Prop := ∀ lt : Bool, i < 5 → ((t : Int) ≠ t' ∨ (b : Int) ≠ b') → ((b : Int) + (1 + (i : Int)) * t < b' + (1 + (i : Int)) * t' ∨ ((b : Int) + (1 + (i : Int)) * t = b' + (1 + (i : Int)) * t' ∧ lt = false)) →
    ((b' : Int) + (1 + (i : Int) + 1) * t' < b + (1 + (i : Int) + 1) * t ∨ ((b' : Int) + (1 + (i : Int) + 1) * t' = b + (1 + (i : Int) + 1) * t ∧ lt = true)) →
    (t' : Int) ≤ t ∧ 0 < (t : Int) - t' ∧ (t : Int) - t' ≤ (b' : Int) - b ∧ Int.fdiv ((b' : Int) - b - (if lt = true then 1 else 0)) ((t : Int) - t') = 1 + (i : Int)
theorem turn_ok {t b t' b' i : Nat} (ht : t < 4) (hb : b < 6) (ht' : t' < 4) (hb' : b' < 6) (hi : i < 9) : TurnOk t b t' b' i :=
  of_decide_eq_true (chk_at (P := fun t b t' b' i => decide (TurnOk t b t' b' i)) (by decide +kernel) ht hb ht' hb' hi)
theorem road_turn {t b t' b' i : Nat} {p q : Int} (ht : t ≤ 3) (hb : b ≤ 5) (ht' : t' ≤ 3) (hb' : b' ≤ 5) (hi : i < 5) (hpq : p ≠ q) (hd : (t : Int) ≠ t' ∨ (b : Int) ≠ b')
    (h1 : lexLe ((b : Int) + (1 + (i : Int)) * t) p (b' + (1 + (i : Int)) * t') q) (h2 : lexLe ((b' : Int) + (1 + (i : Int) + 1) * t') q (b + (1 + (i : Int) + 1) * t) p) :
    (t' : Int) ≤ t ∧ 0 < (t : Int) - t' ∧ (t : Int) - t' ≤ (b' : Int) - b ∧ Int.fdiv ((b' : Int) - b - (if q < p then 1 else 0)) ((t : Int) - t') = 1 + (i : Int) := by
  have H := (turn_ok (Nat.lt_succ_of_le ht) (Nat.lt_succ_of_le hb) (Nat.lt_succ_of_le ht') (Nat.lt_succ_of_le hb') (Nat.lt_trans hi (by decide)) : TurnOk t b t' b' i) (decide (q < p)) hi hd
    (h1.imp id fun g => ⟨g.1, decide_eq_false (Int.not_lt.mpr g.2)⟩) (h2.imp id fun g => ⟨g.1, decide_eq_true (Int.lt_iff_le_and_ne.mpr ⟨g.2, Ne.symm hpq⟩)⟩)
  simp only [decide_eq_true_eq] at H
  exact H
theorem dueM_eq {X Y : MarkZ} (hx : X.Ok) (hy : Y.Ok) : dueM X Y = dueT X.t X.b Y.t Y.b := by
  unfold dueM
  rw [hx.e1, hx.e2, hx.e3, hy.e1, hy.e2, hy.e3]
  rfl
abbrev DownOk (t b t' b' : Nat) : Prop := (t' : Int) ≤ t → (t : Int) - t' ≤ (b' : Int) - b → dueT t b t' b' = 2 * ((b' : Int) - b) - ((t : Int) - t') ∧ dueT t' b' t b = 2 * ((b' : Int) - b) - ((t : Int) - t') ∧ Int.fdiv (2 * ((b' : Int) + 1 * t') - 2 * ((b : Int) + 1 * t)) 2 = ((b' : Int) - b) - ((t : Int) - t')
theorem down_ok {t b t' b' : Nat} (ht : t < 4) (hb : b < 6) (ht' : t' < 4) (hb' : b' < 6) : DownOk t b t' b' :=
  of_decide_eq_true (chk4_at (P := fun t b t' b' => decide (DownOk t b t' b')) (by decide +kernel) ht hb ht' hb')
theorem due_down {X Y : MarkZ} (hx : X.Ok) (hy : Y.Ok) (h1 : (Y.t : Int) ≤ X.t) (h2 : (X.t : Int) - Y.t ≤ (Y.b : Int) - X.b) : dueM X Y = 2 * ((Y.b : Int) - X.b) - ((X.t : Int) - Y.t) ∧ dueM Y X = 2 * ((Y.b : Int) - X.b) - ((X.t : Int) - Y.t) ∧ Int.fdiv (Y.m1 - X.m1) 2 = ((Y.b : Int) - X.b) - ((X.t : Int) - Y.t) := by
  rw [dueM_eq hx hy, dueM_eq hy hx, hx.e1, hy.e1]
  exact (down_ok (Nat.lt_succ_of_le hx.t3) (Nat.lt_succ_of_le hx.b5) (Nat.lt_succ_of_le hy.t3) (Nat.lt_succ_of_le hy.b5) : DownOk X.t X.b Y.t Y.b) h1 h2
section
variable {prog : Program} {w : World} {A : Around} {E : Value → Shared → Prop} {s : Shared} {Q : Value → Shared → Prop} {h₀ : Heap} {L D : Addr} {m : Str → Option Value} {news : Led}
theorem max2 {a b : Int} {t u : Tok} (hh : A.handled = none) (F : Fr h₀ L s.heap m) (N : News h₀ L s.heap news) (h : ∀ h' k tk, Fr h₀ L h' m → News h₀ L h' news → Q (.int (max a b) k) { s with heap := h', toks := tk }) :
    wpAny (model prog w) A (call (.builtin "max") [.int a t, .int b u]) Q E s :=
  max_two_N hh F N fun h' tk F' N' => by
    rw [show (if b > a then b else a) = max a b from by omega]
    exact h h' _ tk F' N'
theorem min2 {a b : Int} {t u : Tok} (hh : A.handled = none) (F : Fr h₀ L s.heap m) (N : News h₀ L s.heap news) (h : ∀ h' k tk, Fr h₀ L h' m → News h₀ L h' news → Q (.int (min a b) k) { s with heap := h', toks := tk }) :
    wpAny (model prog w) A (call (.builtin "min") [.int a t, .int b u]) Q E s :=
  min_two_N hh F N fun h' tk F' N' => by
    rw [show (if b < a then b else a) = min a b from by omega]
    exact h h' _ tk F' N'
theorem sub_pickI {value slice : PySem.Expr} {α : Type} {M0 M1 M2 M3 M4 X : α} {n : Nat} {k : Int} {u : Tok} (f : α → Value)
    (N : News h₀ L s.heap news) (hm : (D, listOf #[f M0, f M1, f M2, f M3, f M4] n) ∈ news) (h0 : 0 ≤ k) (h5 : k < 5) (hX : pick M0 M1 M2 M3 M4 k = X) (h : Q (f X) s)
    (hs : subscripted slice false (.ref D) (.int k u) = operate [.ref D, .int k u] (getItem (.ref D) (.int k u)) := by with_unfolding_all rfl) :
    wpAny (model prog w) A (subscriptTail value slice (.ref D) (.int k u)) Q E s := by
  refine sub_news N hm h0 (by omega) ?_ h hs
  subst hX
  rcases (by omega : k = 0 ∨ k = 1 ∨ k = 2 ∨ k = 3 ∨ k = 4) with rfl | rfl | rfl | rfl | rfl <;> rfl
theorem sub_atI {value slice : PySem.Expr} {row : List Value} {n : Nat} {k : Int} {u : Tok} {v : Value} (N : News h₀ L s.heap news) (hm : (D, listOf row.toArray n) ∈ news) (h0 : 0 ≤ k) (h5 : k < 5) (hx : row[k.toNat]? = some v) (h : Q v s)
    (hs : subscripted slice false (.ref D) (.int k u) = operate [.ref D, .int k u] (getItem (.ref D) (.int k u)) := by with_unfolding_all rfl) :
    wpAny (model prog w) A (subscriptTail value slice (.ref D) (.int k u)) Q E s :=
  sub_news N hm h0 (by omega) (by rw [nthV_eq]; exact hx) h hs
end
theorem apart_all {z0 z1 z2 z3 z4 : Lead} (ok : SpotsOk z0.t z0.b z1.t z1.b z2.t z2.b z3.t z3.b z4.t z4.b) {p q : Int} (hp : 0 ≤ p ∧ p < 5) (hq : 0 ≤ q ∧ q < 5) (h : p ≠ q) :
    ((pick z0 z1 z2 z3 z4 p).t : Int) ≠ (pick z0 z1 z2 z3 z4 q).t ∨ ((pick z0 z1 z2 z3 z4 p).b : Int) ≠ (pick z0 z1 z2 z3 z4 q).b := by
  have sw : ∀ {a b c d : Int}, Apart a b c d → a ≠ c ∨ b ≠ d := fun h => h
  have sy : ∀ {a b c d : Int}, Apart a b c d → c ≠ a ∨ d ≠ b := fun h => h.imp Ne.symm Ne.symm
  rcases (by omega : p = 0 ∨ p = 1 ∨ p = 2 ∨ p = 3 ∨ p = 4) with rfl | rfl | rfl | rfl | rfl <;>
    rcases (by omega : q = 0 ∨ q = 1 ∨ q = 2 ∨ q = 3 ∨ q = 4) with rfl | rfl | rfl | rfl | rfl <;>
    first
    | exact absurd rfl h
    | exact sw ok.a01 | exact sw ok.a02 | exact sw ok.a03 | exact sw ok.a04 | exact sw ok.a12 | exact sw ok.a13 | exact sw ok.a14 | exact sw ok.a23 | exact sw ok.a24 | exact sw ok.a34
    | exact sy ok.a01 | exact sy ok.a02 | exact sy ok.a03 | exact sy ok.a04 | exact sy ok.a12 | exact sy ok.a13 | exact sy ok.a14 | exact sy ok.a23 | exact sy ok.a24 | exact sy ok.a34
theorem far_at {p : Int → MarkZ} {R0 R1 R2 R3 R4 : Row} (f0 : RowIs p 0 R0.its) (f1 : RowIs p 1 R1.its) (f2 : RowIs p 2 R2.its) (f3 : RowIs p 3 R3.its) (f4 : RowIs p 4 R4.its) {m n : Int} (hn : 0 ≤ n) (hnm : n ≤ m) (hm : m < 5) :
    ∃ tk, (pick R0 R1 R2 R3 R4 m).its[n.toNat]? = some (.int (dueM (p m) (p n)) tk) := by
  have en : ((n.toNat : Nat) : Int) = n := Int.toNat_of_nonneg hn
  rcases (by omega : m = 0 ∨ m = 1 ∨ m = 2 ∨ m = 3 ∨ m = 4) with rfl | rfl | rfl | rfl | rfl
  · obtain ⟨k, e⟩ := f0 n.toNat (by omega); rw [en] at e; exact ⟨k, e⟩
  · obtain ⟨k, e⟩ := f1 n.toNat (by omega); rw [en] at e; exact ⟨k, e⟩
  · obtain ⟨k, e⟩ := f2 n.toNat (by omega); rw [en] at e; exact ⟨k, e⟩
  · obtain ⟨k, e⟩ := f3 n.toNat (by omega); rw [en] at e; exact ⟨k, e⟩
  · obtain ⟨k, e⟩ := f4 n.toNat (by omega); rw [en] at e; exact ⟨k, e⟩
/-- what stands for the last loop -/
structure Road (z0 z1 z2 z3 z4 : Lead) (M0 M1 M2 M3 M4 : MarkZ) (R0 R1 R2 R3 R4 : Row) (r0 r1 r2 r3 r4 r5 : It) (Qd : Led) : Prop where
  ok : SpotsOk z0.t z0.b z1.t z1.b z2.t z2.b z3.t z3.b z4.t z4.b
  mok : ∀ k : Int, (pick M0 M1 M2 M3 M4 k).Ok
  mt : ∀ k : Int, (pick M0 M1 M2 M3 M4 k).t = (pick z0 z1 z2 z3 z4 k).t ∧ (pick M0 M1 M2 M3 M4 k).b = (pick z0 z1 z2 z3 z4 k).b
  f0 : RowIs (pick M0 M1 M2 M3 M4) 0 R0.its
  f1 : RowIs (pick M0 M1 M2 M3 M4) 1 R1.its
  f2 : RowIs (pick M0 M1 M2 M3 M4) 2 R2.its
  f3 : RowIs (pick M0 M1 M2 M3 M4) 3 R3.its
  f4 : RowIs (pick M0 M1 M2 M3 M4) 4 R4.its
  q0 : IsLeast (colZ z0 z1 z2 z3 z4 1) r0.c r0.k
  q1 : IsLeast (colZ z0 z1 z2 z3 z4 2) r1.c r1.k
  q2 : IsLeast (colZ z0 z1 z2 z3 z4 3) r2.c r2.k
  q3 : IsLeast (colZ z0 z1 z2 z3 z4 4) r3.c r3.k
  q4 : IsLeast (colZ z0 z1 z2 z3 z4 5) r4.c r4.k
  q5 : IsLeast (colZ z0 z1 z2 z3 z4 6) r5.c r5.k
  mm : ∀ k : Int, (pick M0 M1 M2 M3 M4 k).ent ∈ Qd
  rm : ∀ k : Int, (pick R0 R1 R2 R3 R4 k).ent ∈ Qd
  im : r0.ent ∈ Qd ∧ r1.ent ∈ Qd ∧ r2.ent ∈ Qd ∧ r3.ent ∈ Qd ∧ r4.ent ∈ Qd ∧ r5.ent ∈ Qd
def rsAt (r0 r1 r2 r3 r4 r5 : It) : Nat → It
  | 0 => r0 | 1 => r1 | 2 => r2 | 3 => r3 | 4 => r4 | _ => r5
section
variable {z0 z1 z2 z3 z4 : Lead} {M0 M1 M2 M3 M4 : MarkZ} {R0 R1 R2 R3 R4 : Row} {r0 r1 r2 r3 r4 r5 : It} {Qd : Led}
theorem Road.at (H : Road z0 z1 z2 z3 z4 M0 M1 M2 M3 M4 R0 R1 R2 R3 R4 r0 r1 r2 r3 r4 r5 Qd) (i : Nat) (hi : i < 6) : [Value.ref r0.a, .ref r1.a, .ref r2.a, .ref r3.a, .ref r4.a, .ref r5.a][i]? = some (.ref (rsAt r0 r1 r2 r3 r4 r5 i).a) ∧ (rsAt r0 r1 r2 r3 r4 r5 i).ent ∈ Qd ∧ IsLeast (colZ z0 z1 z2 z3 z4 (1 + (i : Int))) (rsAt r0 r1 r2 r3 r4 r5 i).c (rsAt r0 r1 r2 r3 r4 r5 i).k := by
  match i, hi with
  | 0, _ => exact ⟨rfl, H.im.1, H.q0⟩
  | 1, _ => exact ⟨rfl, H.im.2.1, H.q1⟩
  | 2, _ => exact ⟨rfl, H.im.2.2.1, H.q2⟩
  | 3, _ => exact ⟨rfl, H.im.2.2.2.1, H.q3⟩
  | 4, _ => exact ⟨rfl, H.im.2.2.2.2.1, H.q4⟩
  | 5, _ => exact ⟨rfl, H.im.2.2.2.2.2, H.q5⟩
/-- one turn of the road -/
theorem Road.turn (H : Road z0 z1 z2 z3 z4 M0 M1 M2 M3 M4 R0 R1 R2 R3 R4 r0 r1 r2 r3 r4 r5 Qd) {i : Nat} (hi : i < 5) {p q : Int} (ep : (rsAt r0 r1 r2 r3 r4 r5 i).k = p) (eq : (rsAt r0 r1 r2 r3 r4 r5 (i + 1)).k = q) (h : q ≠ p) :
    ∃ t b t' b' : Int, ((pick M0 M1 M2 M3 M4 p).t : Int) = t ∧ ((pick M0 M1 M2 M3 M4 p).b : Int) = b ∧ ((pick M0 M1 M2 M3 M4 q).t : Int) = t' ∧ ((pick M0 M1 M2 M3 M4 q).b : Int) = b' ∧ 0 ≤ t' ∧ t ≤ 3 ∧ 0 ≤ b ∧ b' ≤ 5 ∧
      0 < t - t' ∧ t - t' ≤ b' - b ∧ dueM (pick M0 M1 M2 M3 M4 (max p q)) (pick M0 M1 M2 M3 M4 (min p q)) = 2 * (b' - b) - (t - t') ∧
      Int.fdiv ((pick M0 M1 M2 M3 M4 q).m1 - (pick M0 M1 M2 M3 M4 p).m1) 2 = (b' - b) - (t - t') ∧
      Int.fdiv ((2 * (b' - b) - (t - t')) - ((b' - b) - (t - t')) - (if q < p then 1 else 0)) ((2 * (b' - b) - (t - t')) - 2 * ((b' - b) - (t - t'))) + 1 = ((i + 1 : Nat) : Int) + 1 := by
  obtain ⟨_, _, hl⟩ := H.at i (by omega)
  obtain ⟨_, _, hl'⟩ := H.at (i + 1) (by omega)
  rw [ep] at hl
  rw [eq] at hl'
  obtain ⟨p0, p5, pc, pl⟩ := hl
  obtain ⟨w0, w5, wc, wl⟩ := hl'
  have op := H.mok p
  have oq := H.mok q
  have mp := H.mt p
  have mq := H.mt q
  have hd := apart_all H.ok ⟨p0, p5⟩ ⟨w0, w5⟩ (Ne.symm h)
  have x := pl q w0 w5
  have y := wl p p0 p5
  rw [pc] at x
  rw [wc] at y
  unfold colZ at x y
  rw [← mp.1, ← mp.2, ← mq.1, ← mq.2] at x y hd
  have b1 := op.t3; have b2 := op.b5; have b3 := oq.t3; have b4 := oq.b5
  have es : (1 : Int) + ((i + 1 : Nat) : Int) = (1 + (i : Int)) + 1 := by omega
  rw [es] at y
  obtain ⟨h0, h1, h2, h3⟩ := road_turn b1 b2 b3 b4 hi (Ne.symm h) hd x y
  obtain ⟨d1, d2, d3⟩ := due_down op oq h0 h2
  clear x y hd wl pl wc pc es mp mq op oq
  refine ⟨_, _, _, _, rfl, rfl, rfl, rfl, Int.natCast_nonneg _, Int.ofNat_le.mpr b1, Int.natCast_nonneg _, Int.ofNat_le.mpr b4, h1, h2, ?_, d3, ?_⟩
  · rcases Int.lt_or_gt_of_ne h with g | g
    · rw [Int.max_eq_left (Int.le_of_lt g), Int.min_eq_right (Int.le_of_lt g)]; exact d1
    · rw [Int.max_eq_right (Int.le_of_lt g), Int.min_eq_left (Int.le_of_lt g)]; exact d2
  · rw [show ∀ x y e : Int, (2 * x - y) - (x - y) - e = x - e from fun x y e => by omega, show ∀ x y : Int, (2 * x - y) - 2 * (x - y) = y from fun x y => by omega, h3]
    omega
/-- the way from the first to where the road stands -/
def Total (M0 M1 M2 M3 M4 : MarkZ) (f s tot : Int) : Prop :=
  ((pick M0 M1 M2 M3 M4 s).t : Int) ≤ (pick M0 M1 M2 M3 M4 f).t ∧ ((pick M0 M1 M2 M3 M4 f).t : Int) - (pick M0 M1 M2 M3 M4 s).t ≤ ((pick M0 M1 M2 M3 M4 s).b : Int) - (pick M0 M1 M2 M3 M4 f).b ∧
  tot = 2 * (((pick M0 M1 M2 M3 M4 s).b : Int) - (pick M0 M1 M2 M3 M4 f).b) - (((pick M0 M1 M2 M3 M4 f).t : Int) - (pick M0 M1 M2 M3 M4 s).t)
theorem Road.total (H : Road z0 z1 z2 z3 z4 M0 M1 M2 M3 M4 R0 R1 R2 R3 R4 r0 r1 r2 r3 r4 r5 Qd) {f s tot : Int} (h : Total M0 M1 M2 M3 M4 f s tot) : 0 ≤ tot ∧ tot ≤ 30 ∧ dueM (pick M0 M1 M2 M3 M4 (max f s)) (pick M0 M1 M2 M3 M4 (min f s)) = tot := by
  obtain ⟨h1, h2, h3⟩ := h
  have of := H.mok f
  have os := H.mok s
  obtain ⟨d1, d2, _⟩ := due_down of os h1 h2
  have b1 := of.t3; have b2 := of.b5; have b3 := os.t3; have b4 := os.b5
  refine ⟨by omega, by omega, ?_⟩
  rw [h3]
  rcases Int.le_total f s with g | g
  · rw [Int.max_eq_right g, Int.min_eq_left g]; exact d2
  · rw [Int.max_eq_left g, Int.min_eq_right g]; exact d1
theorem Road.total_next (H : Road z0 z1 z2 z3 z4 M0 M1 M2 M3 M4 R0 R1 R2 R3 R4 r0 r1 r2 r3 r4 r5 Qd) {f p q tot : Int} (h : Total M0 M1 M2 M3 M4 f p tot) {i : Nat} (hi : i < 5) (ep : (rsAt r0 r1 r2 r3 r4 r5 i).k = p) (eq : (rsAt r0 r1 r2 r3 r4 r5 (i + 1)).k = q) (hn : q ≠ p) :
    Total M0 M1 M2 M3 M4 f q (tot + dueM (pick M0 M1 M2 M3 M4 (max p q)) (pick M0 M1 M2 M3 M4 (min p q))) := by
  obtain ⟨t, b, t', b', e1, e2, e3, e4, _, _, _, _, g1, g2, g3, _⟩ := H.turn hi ep eq hn
  obtain ⟨h1, h2, h3⟩ := h
  unfold Total
  rw [g3, h3]
  omega
end
/-- one step from what a call hands back to its letters: the goal is printed once -/
theorem spots_elim {r : Value} {l : Led} {C : Value → Led → Prop} (h : ∃ (sp en p0 p1 p2 p3 p4 : Nat) (T0 B0 T1 B1 T2 B2 T3 B3 T4 B4 : Int) (u0 v0 u1 v1 u2 v2 u3 v3 u4 v4 : Tok), r = .ref sp ∧ l = [(sp, listOf #[.ref p0, .ref p1, .ref p2, .ref p3, .ref p4] en), (p0, tup2 T0 u0 B0 v0), (p1, tup2 T1 u1 B1 v1), (p2, tup2 T2 u2 B2 v2), (p3, tup2 T3 u3 B3 v3), (p4, tup2 T4 u4 B4 v4)] ∧ SpotsOk T0 B0 T1 B1 T2 B2 T3 B3 T4 B4)
    (k : ∀ (sp en p0 p1 p2 p3 p4 t0 b0 t1 b1 t2 b2 t3 b3 t4 b4 : Nat) (u0 v0 u1 v1 u2 v2 u3 v3 u4 v4 : Tok), t0 ≤ 3 ∧ b0 ≤ 5 → t1 ≤ 3 ∧ b1 ≤ 5 → t2 ≤ 3 ∧ b2 ≤ 5 → t3 ≤ 3 ∧ b3 ≤ 5 → t4 ≤ 3 ∧ b4 ≤ 5 → SpotsOk t0 b0 t1 b1 t2 b2 t3 b3 t4 b4 → C (.ref sp) [(sp, listOf #[.ref p0, .ref p1, .ref p2, .ref p3, .ref p4] en), (p0, tup2 t0 u0 b0 v0), (p1, tup2 t1 u1 b1 v1), (p2, tup2 t2 u2 b2 v2), (p3, tup2 t3 u3 b3 v3), (p4, tup2 t4 u4 b4 v4)]) : C r l := by
  obtain ⟨sp, en, p0, p1, p2, p3, p4, T0, B0, T1, B1, T2, B2, T3, B3, T4, B4, u0, v0, u1, v1, u2, v2, u3, v3, u4, v4, rfl, rfl, ok⟩ := h
  obtain ⟨t0, b0, rfl, rfl, h0⟩ := ok.o0
  obtain ⟨t1, b1, rfl, rfl, h1⟩ := ok.o1
  obtain ⟨t2, b2, rfl, rfl, h2⟩ := ok.o2
  obtain ⟨t3, b3, rfl, rfl, h3⟩ := ok.o3
  obtain ⟨t4, b4, rfl, rfl, h4⟩ := ok.o4
  exact k sp en p0 p1 p2 p3 p4 t0 b0 t1 b1 t2 b2 t3 b3 t4 b4 u0 v0 u1 v1 u2 v2 u3 v3 u4 v4 h0 h1 h2 h3 h4 ok
theorem lead_elim {w : World} {p0 p1 p2 p3 p4 t0 b0 t1 b1 t2 b2 t3 b3 t4 b4 : Nat} {u0 v0 u1 v1 u2 v2 u3 v3 u4 v4 : Tok} {ys : List Value} {owns : List Led} {C : List Value → List Led → Nat → Nat → Nat → Nat → Nat → Nat → Nat → Nat → Nat → Nat → Prop} (h : LeadFin w ⟨p0, t0, b0, u0, v0⟩ ⟨p1, t1, b1, u1, v1⟩ ⟨p2, t2, b2, u2, v2⟩ ⟨p3, t3, b3, u3, v3⟩ ⟨p4, t4, b4, u4, v4⟩ ys owns)
    (k : ∀ z0 z1 z2 z3 z4 : Lead, C [Value.ref z0.x, Value.ref z1.x, Value.ref z2.x, Value.ref z3.x, Value.ref z4.x] [z0.led w, z1.led w, z2.led w, z3.led w, z4.led w] z0.t z0.b z1.t z1.b z2.t z2.b z3.t z3.b z4.t z4.b) : C ys owns t0 b0 t1 b1 t2 b2 t3 b3 t4 b4 := by
  obtain ⟨z0, z1, z2, z3, z4, rfl, rfl, ⟨e0, f0⟩, ⟨e1, f1⟩, ⟨e2, f2⟩, ⟨e3, f3⟩, ⟨e4, f4⟩⟩ := h
  dsimp only at e0 f0 e1 f1 e2 f2 e3 f3 e4 f4
  subst e0 f0 e1 f1 e2 f2 e3 f3 e4 f4
  exact k z0 z1 z2 z3 z4
theorem word_elim {a b c d e : PairZ} {ys : List Value} {owns : List Led} {C : List Value → List Led → Prop} (h : WordFin a b c d e ys owns)
    (k : ∀ k0 k1 k2 k3 k4 : Tok, C [Value.str (waStr a.t a.b) k0, Value.str (waStr b.t b.b) k1, Value.str (waStr c.t c.b) k2, Value.str (waStr d.t d.b) k3, Value.str (waStr e.t e.b) k4] [[], [], [], [], []]) : C ys owns := by
  obtain ⟨k0, k1, k2, k3, k4, rfl, rfl⟩ := h
  exact k k0 k1 k2 k3 k4
theorem mark_elim {z0 z1 z2 z3 z4 : Lead} {ys : List Value} {owns : List Led} {C : List Value → List Led → Prop} (h : MarkFin z0 z1 z2 z3 z4 ys owns)
    (k : ∀ (a0 a1 a2 a3 a4 : Nat) (q0 q1 q2 r0 r1 r2 s0 s1 s2 t0 t1 t2 u0 u1 u2 : Tok), C [Value.ref a0, Value.ref a1, Value.ref a2, Value.ref a3, Value.ref a4] [[(a0, markOf z0 q0 q1 q2)], [(a1, markOf z1 r0 r1 r2)], [(a2, markOf z2 s0 s1 s2)], [(a3, markOf z3 t0 t1 t2)], [(a4, markOf z4 u0 u1 u2)]]) : C ys owns := by
  obtain ⟨a0, a1, a2, a3, a4, q0, q1, q2, r0, r1, r2, s0, s1, s2, t0, t1, t2, u0, u1, u2, rfl, rfl⟩ := h
  exact k a0 a1 a2 a3 a4 q0 q1 q2 r0 r1 r2 s0 s1 s2 t0 t1 t2 u0 u1 u2
theorem far_elim {p : Int → MarkZ} {r : Value} {l : Led} {C : Value → Led → Prop} (h : ∃ (fa en : Nat) (R0 R1 R2 R3 R4 : Row), r = .ref fa ∧ l = [(fa, listOf #[.ref R0.a, .ref R1.a, .ref R2.a, .ref R3.a, .ref R4.a] en), R0.ent, R1.ent, R2.ent, R3.ent, R4.ent] ∧ RowIs p 0 R0.its ∧ RowIs p 1 R1.its ∧ RowIs p 2 R2.its ∧ RowIs p 3 R3.its ∧ RowIs p 4 R4.its)
    (k : ∀ (fa en : Nat) (R0 R1 R2 R3 R4 : Row), RowIs p 0 R0.its → RowIs p 1 R1.its → RowIs p 2 R2.its → RowIs p 3 R3.its → RowIs p 4 R4.its → C (.ref fa) [(fa, listOf #[.ref R0.a, .ref R1.a, .ref R2.a, .ref R3.a, .ref R4.a] en), R0.ent, R1.ent, R2.ent, R3.ent, R4.ent]) : C r l := by
  obtain ⟨fa, en, R0, R1, R2, R3, R4, rfl, rfl, f0, f1, f2, f3, f4⟩ := h
  exact k fa en R0 R1 R2 R3 R4 f0 f1 f2 f3 f4
theorem road_elim {col : Int → Int → Int} {r : Value} {l : Led} {C : Value → Led → Prop} (h : ∃ (ra en : Nat) (r0 r1 r2 r3 r4 r5 : It), r = .ref ra ∧ l = [(ra, listOf #[.ref r0.a, .ref r1.a, .ref r2.a, .ref r3.a, .ref r4.a, .ref r5.a] en), r0.ent, r1.ent, r2.ent, r3.ent, r4.ent, r5.ent] ∧ IsLeast (col 1) r0.c r0.k ∧ IsLeast (col 2) r1.c r1.k ∧ IsLeast (col 3) r2.c r2.k ∧ IsLeast (col 4) r3.c r3.k ∧ IsLeast (col 5) r4.c r4.k ∧ IsLeast (col 6) r5.c r5.k)
    (k : ∀ (ra en : Nat) (r0 r1 r2 r3 r4 r5 : It), IsLeast (col 1) r0.c r0.k → IsLeast (col 2) r1.c r1.k → IsLeast (col 3) r2.c r2.k → IsLeast (col 4) r3.c r3.k → IsLeast (col 5) r4.c r4.k → IsLeast (col 6) r5.c r5.k → C (.ref ra) [(ra, listOf #[.ref r0.a, .ref r1.a, .ref r2.a, .ref r3.a, .ref r4.a, .ref r5.a] en), r0.ent, r1.ent, r2.ent, r3.ent, r4.ent, r5.ent]) : C r l := by
  obtain ⟨ra, en, r0, r1, r2, r3, r4, r5, rfl, rfl, q0, q1, q2, q3, q4, q5⟩ := h
  exact k ra en r0 r1 r2 r3 r4 r5 q0 q1 q2 q3 q4 q5
theorem least_elim {col : Int → Int → Int} {r0 r1 r2 r3 r4 r5 : It} {r : Value} {l : Led} {C : Value → Led → Prop} (h : ∃ (ra en : Nat) (r0 r1 r2 r3 r4 r5 : It), r = .ref ra ∧ l = [(ra, listOf #[.ref r0.a, .ref r1.a, .ref r2.a, .ref r3.a, .ref r4.a, .ref r5.a] en), r0.ent, r1.ent, r2.ent, r3.ent, r4.ent, r5.ent] ∧ IsLeast (col 1) r0.c r0.k ∧ IsLeast (col 2) r1.c r1.k ∧ IsLeast (col 3) r2.c r2.k ∧ IsLeast (col 4) r3.c r3.k ∧ IsLeast (col 5) r4.c r4.k ∧ IsLeast (col 6) r5.c r5.k)
    (q0 : IsLeast (col 1) r0.c r0.k) (q1 : IsLeast (col 2) r1.c r1.k) (q2 : IsLeast (col 3) r2.c r2.k) (q3 : IsLeast (col 4) r3.c r3.k) (q4 : IsLeast (col 5) r4.c r4.k) (q5 : IsLeast (col 6) r5.c r5.k)
    (k : ∀ (la en s0 s1 s2 s3 s4 s5 : Nat) (t0 u0 t1 u1 t2 u2 t3 u3 t4 u4 t5 u5 : Tok), C (.ref la) [(la, listOf #[.ref s0, .ref s1, .ref s2, .ref s3, .ref s4, .ref s5] en), (s0, tup2 r0.c t0 r0.k u0), (s1, tup2 r1.c t1 r1.k u1), (s2, tup2 r2.c t2 r2.k u2), (s3, tup2 r3.c t3 r3.k u3), (s4, tup2 r4.c t4 r4.k u4), (s5, tup2 r5.c t5 r5.k u5)]) : C r l := by
  obtain ⟨la, en, ⟨s0, c0, t0, k0, u0⟩, ⟨s1, c1, t1, k1, u1⟩, ⟨s2, c2, t2, k2, u2⟩, ⟨s3, c3, t3, k3, u3⟩, ⟨s4, c4, t4, k4, u4⟩, ⟨s5, c5, t5, k5, u5⟩, rfl, rfl, g0, g1, g2, g3, g4, g5⟩ := h
  dsimp only at g0 g1 g2 g3 g4 g5
  obtain ⟨x0, y0⟩ := least_unique q0 g0
  obtain ⟨x1, y1⟩ := least_unique q1 g1
  obtain ⟨x2, y2⟩ := least_unique q2 g2
  obtain ⟨x3, y3⟩ := least_unique q3 g3
  obtain ⟨x4, y4⟩ := least_unique q4 g4
  obtain ⟨x5, y5⟩ := least_unique q5 g5
  subst x0 y0 x1 y1 x2 y2 x3 y3 x4 y4 x5 y5
  exact k la en s0 s1 s2 s3 s4 s5 t0 u0 t1 u1 t2 u2 t3 u3 t4 u4 t5 u5

section
variable {prog : Program} {w : World} {A : Around} {E : Value → Shared → Prop} {s : Shared} {Q : Value → Shared → Prop} {h₀ : Heap} {L : Addr} {m : Str → Option Value} {news : Led}
theorem max2v {a b c : Int} {t u : Tok} (e : max a b = c) (hh : A.handled = none) (F : Fr h₀ L s.heap m) (N : News h₀ L s.heap news) (h : ∀ h' k tk, Fr h₀ L h' m → News h₀ L h' news → Q (.int c k) { s with heap := h', toks := tk }) :
    wpAny (model prog w) A (call (.builtin "max") [.int a t, .int b u]) Q E s := max2 hh F N fun h' k tk F' N' => e ▸ h h' k tk F' N'
theorem min2v {a b c : Int} {t u : Tok} (e : min a b = c) (hh : A.handled = none) (F : Fr h₀ L s.heap m) (N : News h₀ L s.heap news) (h : ∀ h' k tk, Fr h₀ L h' m → News h₀ L h' news → Q (.int c k) { s with heap := h', toks := tk }) :
    wpAny (model prog w) A (call (.builtin "min") [.int a t, .int b u]) Q E s := min2 hh F N fun h' k tk F' N' => e ▸ h h' k tk F' N'
end
section
variable {prog : Program} {w : World} {A : Around} {E : Value → Shared → Prop} {s : Shared} {Q : Value → Shared → Prop}
theorem ne_same {a : Int} {t u : Tok} (h : Q (.bool false) s) : wpAny (model prog w) A (compareOp .NotEq (.int a t) (.int a u)) Q E s := ne_int (by simpa using h)
theorem eq_same {a : Int} {t u : Tok} (h : Q (.bool true) s) : wpAny (model prog w) A (compareOp .Eq (.int a t) (.int a u)) Q E s := eq_int (by simpa using h)
end
structure LoopL where
  s : Int
  ks : Tok
  tot : Int
  kt : Tok
abbrev BoundOk (t b t' b' : Nat) : Prop := 0 ≤ dueT t b t' b' ∧ dueT t b t' b' ≤ 100
theorem due_bound {X Y : MarkZ} (hx : X.Ok) (hy : Y.Ok) : 0 ≤ dueM X Y ∧ dueM X Y ≤ 100 := by
  rw [dueM_eq hx hy]
  exact (of_decide_eq_true (chk4_at (P := fun t b t' b' => decide (BoundOk t b t' b')) (by decide +kernel) (Nat.lt_succ_of_le hx.t3) (Nat.lt_succ_of_le hx.b5) (Nat.lt_succ_of_le hy.t3) (Nat.lt_succ_of_le hy.b5)) : BoundOk X.t X.b Y.t Y.b)
section
local macro_rules | `(tactic| k_ne) => `(tactic| (refine neN ?_; (try dsimp only); first | (refine Offs.at (by with_reducible assumption) ?_; (simp; done)) | (refine Ne.symm (Offs.at (by with_reducible assumption) ?_); (simp; done)) | exact Nat.ne_of_gt (by omega) | exact Nat.ne_of_lt (by omega)))
-- no twin of the view and of the program for two small decisions (2 MB of the compiled file)
local macro_rules | `(tactic| k_qdec) => `(tactic| decide +kernel)
theorem law_holds : PySem.Challenge.rw_qj0008_01.Holds := hd (by
  k_with_none
  k_with "own" => ((with_reducible show wpAny _ _ (binaryOp Operator.Mult (Value.str _ _) (Value.int _ _)) _ _ _); first | with_reducible ((k_here; k_dflt (first | (refine mul_letter (mul_tabs _ (by omega)) one_letter.1 (by omega) ?_; intro _ _) | (refine mul_letter (mul_blanks _ (by omega)) one_letter.2.1 (by omega) ?_; intro _ _) | (refine mul_letter (mul_caps _ (by omega)) one_letter.2.2.1 (by omega) ?_; intro _ _) | (refine mul_letter (mul_smalls _ (by omega)) one_letter.2.2.2 (by omega) ?_; intro _ _)))) | ((k_here; k_dflt (first | (refine mul_letter (mul_tabs _ (by omega)) one_letter.1 (by omega) ?_; intro _ _) | (refine mul_letter (mul_blanks _ (by omega)) one_letter.2.1 (by omega) ?_; intro _ _) | (refine mul_letter (mul_caps _ (by omega)) one_letter.2.2.1 (by omega) ?_; intro _ _) | (refine mul_letter (mul_smalls _ (by omega)) one_letter.2.2.2 (by omega) ?_; intro _ _)))); walk_say "OWN binaryOp Mult str int")
  k_with "own" => ((with_reducible show wpAny _ _ (binaryOp Operator.Add (Value.str _ _) (Value.str _ _)) _ _ _); first | with_reducible ((k_here; first | ((with_reducible show wpAny _ _ (binaryOp _ (Value.str (oneS 9 _) _) (Value.str (oneS 32 _) _)) _ _ _); refine add_tb (by omega) (by omega) ?_; intro _ _) | ((with_reducible show wpAny _ _ (binaryOp _ (Value.str (oneS 65 _) _) (Value.str (oneS 97 _) _)) _ _ _); refine add_wa (by omega) (by omega) ?_; intro _ _))) | ((k_here; first | ((with_reducible show wpAny _ _ (binaryOp _ (Value.str (oneS 9 _) _) (Value.str (oneS 32 _) _)) _ _ _); refine add_tb (by omega) (by omega) ?_; intro _ _) | ((with_reducible show wpAny _ _ (binaryOp _ (Value.str (oneS 65 _) _) (Value.str (oneS 97 _) _)) _ _ _); refine add_wa (by omega) (by omega) ?_; intro _ _))); walk_say "OWN binaryOp Add str str")
  k_with "own" => ((with_reducible show wpAny _ _ (subscriptTail (Expr.Name _ _) (Expr.Name _ _) (Value.ref _) (Value.int _ _)) _ _ _); first | with_reducible ((k_here; k_dflt (first | (refine' sub_at ?N_w ?m_w ?f_w ?x_w ?_ ?s_w; (case N_w => k_asm); (case m_w => k_mem); (case x_w => with_reducible assumption); (case f_w => omega); (case s_w => with_unfolding_all rfl); k_whole) | (refine' sub_pickI (fun r : Row => Value.ref r.a) ?N_w ?m_w ?h0_w ?h5_w ?x_w ?_ ?s_w; (case N_w => k_asm); (case m_w => k_mem); (case h0_w => with_reducible assumption); (case h5_w => with_reducible assumption); (case x_w => with_reducible assumption); (case s_w => with_unfolding_all rfl); k_whole; (try dsimp only)) | (refine' sub_pickI (fun m : MarkZ => Value.ref m.a) ?N_w ?m_w ?h0_w ?h5_w ?x_w ?_ ?s_w; (case N_w => k_asm); (case m_w => k_mem); (case h0_w => with_reducible assumption); (case h5_w => with_reducible assumption); (case x_w => with_reducible assumption); (case s_w => with_unfolding_all rfl); k_whole; (try dsimp only)) | (refine' sub_atI ?N_w ?m_w ?h0_w ?h5_w ?x_w ?_ ?s_w; (case N_w => k_asm); (case m_w => k_mem); (case h0_w => with_reducible assumption); (case h5_w => with_reducible assumption); (case x_w => with_reducible assumption); (case s_w => with_unfolding_all rfl); k_whole) | (refine' sub_newsT ?N_w ?m_w ?a_w ?b_w ?x_w ?_ ?s_w; (case N_w => k_asm); (case m_w => k_mem); (case a_w => decide); (case b_w => decide); (case x_w => rfl); (case s_w => with_unfolding_all rfl); k_whole) | (refine' sub_news ?N_w ?m_w ?a_w ?b_w ?x_w ?_ ?s_w; (case N_w => k_asm); (case m_w => k_mem); (case a_w => decide); (case b_w => decide); (case x_w => rfl); (case s_w => with_unfolding_all rfl); k_whole)))) | ((k_here; k_dflt (first | (refine' sub_at ?N_w ?m_w ?f_w ?x_w ?_ ?s_w; (case N_w => k_asm); (case m_w => k_mem); (case x_w => with_reducible assumption); (case f_w => omega); (case s_w => with_unfolding_all rfl); k_whole) | (refine' sub_pickI (fun r : Row => Value.ref r.a) ?N_w ?m_w ?h0_w ?h5_w ?x_w ?_ ?s_w; (case N_w => k_asm); (case m_w => k_mem); (case h0_w => with_reducible assumption); (case h5_w => with_reducible assumption); (case x_w => with_reducible assumption); (case s_w => with_unfolding_all rfl); k_whole; (try dsimp only)) | (refine' sub_pickI (fun m : MarkZ => Value.ref m.a) ?N_w ?m_w ?h0_w ?h5_w ?x_w ?_ ?s_w; (case N_w => k_asm); (case m_w => k_mem); (case h0_w => with_reducible assumption); (case h5_w => with_reducible assumption); (case x_w => with_reducible assumption); (case s_w => with_unfolding_all rfl); k_whole; (try dsimp only)) | (refine' sub_atI ?N_w ?m_w ?h0_w ?h5_w ?x_w ?_ ?s_w; (case N_w => k_asm); (case m_w => k_mem); (case h0_w => with_reducible assumption); (case h5_w => with_reducible assumption); (case x_w => with_reducible assumption); (case s_w => with_unfolding_all rfl); k_whole) | (refine' sub_newsT ?N_w ?m_w ?a_w ?b_w ?x_w ?_ ?s_w; (case N_w => k_asm); (case m_w => k_mem); (case a_w => decide); (case b_w => decide); (case x_w => rfl); (case s_w => with_unfolding_all rfl); k_whole) | (refine' sub_news ?N_w ?m_w ?a_w ?b_w ?x_w ?_ ?s_w; (case N_w => k_asm); (case m_w => k_mem); (case a_w => decide); (case b_w => decide); (case x_w => rfl); (case s_w => with_unfolding_all rfl); k_whole)))); walk_say "OWN subscriptTail Name Name ref int")
  k_with "own" => ((with_reducible show wpAny _ _ (subscriptTail (Expr.Subscript _ _ _) _ _ _) _ _ _); first | with_reducible ((k_here; k_dflt (first | (refine' sub_at ?N_w ?m_w ?f_w ?x_w ?_ ?s_w; (case N_w => k_asm); (case m_w => k_mem); (case x_w => with_reducible assumption); (case f_w => omega); (case s_w => with_unfolding_all rfl); k_whole) | (refine' sub_pickI (fun r : Row => Value.ref r.a) ?N_w ?m_w ?h0_w ?h5_w ?x_w ?_ ?s_w; (case N_w => k_asm); (case m_w => k_mem); (case h0_w => with_reducible assumption); (case h5_w => with_reducible assumption); (case x_w => with_reducible assumption); (case s_w => with_unfolding_all rfl); k_whole; (try dsimp only)) | (refine' sub_pickI (fun m : MarkZ => Value.ref m.a) ?N_w ?m_w ?h0_w ?h5_w ?x_w ?_ ?s_w; (case N_w => k_asm); (case m_w => k_mem); (case h0_w => with_reducible assumption); (case h5_w => with_reducible assumption); (case x_w => with_reducible assumption); (case s_w => with_unfolding_all rfl); k_whole; (try dsimp only)) | (refine' sub_atI ?N_w ?m_w ?h0_w ?h5_w ?x_w ?_ ?s_w; (case N_w => k_asm); (case m_w => k_mem); (case h0_w => with_reducible assumption); (case h5_w => with_reducible assumption); (case x_w => with_reducible assumption); (case s_w => with_unfolding_all rfl); k_whole) | (refine' sub_newsT ?N_w ?m_w ?a_w ?b_w ?x_w ?_ ?s_w; (case N_w => k_asm); (case m_w => k_mem); (case a_w => decide); (case b_w => decide); (case x_w => rfl); (case s_w => with_unfolding_all rfl); k_whole) | (refine' sub_news ?N_w ?m_w ?a_w ?b_w ?x_w ?_ ?s_w; (case N_w => k_asm); (case m_w => k_mem); (case a_w => decide); (case b_w => decide); (case x_w => rfl); (case s_w => with_unfolding_all rfl); k_whole)))) | ((k_here; k_dflt (first | (refine' sub_at ?N_w ?m_w ?f_w ?x_w ?_ ?s_w; (case N_w => k_asm); (case m_w => k_mem); (case x_w => with_reducible assumption); (case f_w => omega); (case s_w => with_unfolding_all rfl); k_whole) | (refine' sub_pickI (fun r : Row => Value.ref r.a) ?N_w ?m_w ?h0_w ?h5_w ?x_w ?_ ?s_w; (case N_w => k_asm); (case m_w => k_mem); (case h0_w => with_reducible assumption); (case h5_w => with_reducible assumption); (case x_w => with_reducible assumption); (case s_w => with_unfolding_all rfl); k_whole; (try dsimp only)) | (refine' sub_pickI (fun m : MarkZ => Value.ref m.a) ?N_w ?m_w ?h0_w ?h5_w ?x_w ?_ ?s_w; (case N_w => k_asm); (case m_w => k_mem); (case h0_w => with_reducible assumption); (case h5_w => with_reducible assumption); (case x_w => with_reducible assumption); (case s_w => with_unfolding_all rfl); k_whole; (try dsimp only)) | (refine' sub_atI ?N_w ?m_w ?h0_w ?h5_w ?x_w ?_ ?s_w; (case N_w => k_asm); (case m_w => k_mem); (case h0_w => with_reducible assumption); (case h5_w => with_reducible assumption); (case x_w => with_reducible assumption); (case s_w => with_unfolding_all rfl); k_whole) | (refine' sub_newsT ?N_w ?m_w ?a_w ?b_w ?x_w ?_ ?s_w; (case N_w => k_asm); (case m_w => k_mem); (case a_w => decide); (case b_w => decide); (case x_w => rfl); (case s_w => with_unfolding_all rfl); k_whole) | (refine' sub_news ?N_w ?m_w ?a_w ?b_w ?x_w ?_ ?s_w; (case N_w => k_asm); (case m_w => k_mem); (case a_w => decide); (case b_w => decide); (case x_w => rfl); (case s_w => with_unfolding_all rfl); k_whole)))); walk_say "OWN subscriptTail Subscript")
  k_with "own" => ((with_reducible show wpAny _ _ (subscriptTail (Expr.Name _ _) (Expr.Call _ _ _ _) _ _) _ _ _); first | with_reducible ((k_here; k_dflt (first | (refine' sub_at ?N_w ?m_w ?f_w ?x_w ?_ ?s_w; (case N_w => k_asm); (case m_w => k_mem); (case x_w => with_reducible assumption); (case f_w => omega); (case s_w => with_unfolding_all rfl); k_whole) | (refine' sub_pickI (fun r : Row => Value.ref r.a) ?N_w ?m_w ?h0_w ?h5_w ?x_w ?_ ?s_w; (case N_w => k_asm); (case m_w => k_mem); (case h0_w => with_reducible assumption); (case h5_w => with_reducible assumption); (case x_w => with_reducible assumption); (case s_w => with_unfolding_all rfl); k_whole; (try dsimp only)) | (refine' sub_pickI (fun m : MarkZ => Value.ref m.a) ?N_w ?m_w ?h0_w ?h5_w ?x_w ?_ ?s_w; (case N_w => k_asm); (case m_w => k_mem); (case h0_w => with_reducible assumption); (case h5_w => with_reducible assumption); (case x_w => with_reducible assumption); (case s_w => with_unfolding_all rfl); k_whole; (try dsimp only)) | (refine' sub_atI ?N_w ?m_w ?h0_w ?h5_w ?x_w ?_ ?s_w; (case N_w => k_asm); (case m_w => k_mem); (case h0_w => with_reducible assumption); (case h5_w => with_reducible assumption); (case x_w => with_reducible assumption); (case s_w => with_unfolding_all rfl); k_whole) | (refine' sub_newsT ?N_w ?m_w ?a_w ?b_w ?x_w ?_ ?s_w; (case N_w => k_asm); (case m_w => k_mem); (case a_w => decide); (case b_w => decide); (case x_w => rfl); (case s_w => with_unfolding_all rfl); k_whole) | (refine' sub_news ?N_w ?m_w ?a_w ?b_w ?x_w ?_ ?s_w; (case N_w => k_asm); (case m_w => k_mem); (case a_w => decide); (case b_w => decide); (case x_w => rfl); (case s_w => with_unfolding_all rfl); k_whole)))) | ((k_here; k_dflt (first | (refine' sub_at ?N_w ?m_w ?f_w ?x_w ?_ ?s_w; (case N_w => k_asm); (case m_w => k_mem); (case x_w => with_reducible assumption); (case f_w => omega); (case s_w => with_unfolding_all rfl); k_whole) | (refine' sub_pickI (fun r : Row => Value.ref r.a) ?N_w ?m_w ?h0_w ?h5_w ?x_w ?_ ?s_w; (case N_w => k_asm); (case m_w => k_mem); (case h0_w => with_reducible assumption); (case h5_w => with_reducible assumption); (case x_w => with_reducible assumption); (case s_w => with_unfolding_all rfl); k_whole; (try dsimp only)) | (refine' sub_pickI (fun m : MarkZ => Value.ref m.a) ?N_w ?m_w ?h0_w ?h5_w ?x_w ?_ ?s_w; (case N_w => k_asm); (case m_w => k_mem); (case h0_w => with_reducible assumption); (case h5_w => with_reducible assumption); (case x_w => with_reducible assumption); (case s_w => with_unfolding_all rfl); k_whole; (try dsimp only)) | (refine' sub_atI ?N_w ?m_w ?h0_w ?h5_w ?x_w ?_ ?s_w; (case N_w => k_asm); (case m_w => k_mem); (case h0_w => with_reducible assumption); (case h5_w => with_reducible assumption); (case x_w => with_reducible assumption); (case s_w => with_unfolding_all rfl); k_whole) | (refine' sub_newsT ?N_w ?m_w ?a_w ?b_w ?x_w ?_ ?s_w; (case N_w => k_asm); (case m_w => k_mem); (case a_w => decide); (case b_w => decide); (case x_w => rfl); (case s_w => with_unfolding_all rfl); k_whole) | (refine' sub_news ?N_w ?m_w ?a_w ?b_w ?x_w ?_ ?s_w; (case N_w => k_asm); (case m_w => k_mem); (case a_w => decide); (case b_w => decide); (case x_w => rfl); (case s_w => with_unfolding_all rfl); k_whole)))); walk_say "OWN subscriptTail Name Call")
  k_with "own" => ((with_reducible show wpAny _ _ (subscriptTail (Expr.Name _ _) (Expr.Constant _ _ _) (Value.ref _) (Value.int _ _)) _ _ _); first | with_reducible ((k_here; k_dflt (first | (refine' sub_at ?N_w ?m_w ?f_w ?x_w ?_ ?s_w; (case N_w => k_asm); (case m_w => k_mem); (case x_w => with_reducible assumption); (case f_w => omega); (case s_w => with_unfolding_all rfl); k_whole) | (refine' sub_pickI (fun r : Row => Value.ref r.a) ?N_w ?m_w ?h0_w ?h5_w ?x_w ?_ ?s_w; (case N_w => k_asm); (case m_w => k_mem); (case h0_w => with_reducible assumption); (case h5_w => with_reducible assumption); (case x_w => with_reducible assumption); (case s_w => with_unfolding_all rfl); k_whole; (try dsimp only)) | (refine' sub_pickI (fun m : MarkZ => Value.ref m.a) ?N_w ?m_w ?h0_w ?h5_w ?x_w ?_ ?s_w; (case N_w => k_asm); (case m_w => k_mem); (case h0_w => with_reducible assumption); (case h5_w => with_reducible assumption); (case x_w => with_reducible assumption); (case s_w => with_unfolding_all rfl); k_whole; (try dsimp only)) | (refine' sub_atI ?N_w ?m_w ?h0_w ?h5_w ?x_w ?_ ?s_w; (case N_w => k_asm); (case m_w => k_mem); (case h0_w => with_reducible assumption); (case h5_w => with_reducible assumption); (case x_w => with_reducible assumption); (case s_w => with_unfolding_all rfl); k_whole) | (refine' sub_newsT ?N_w ?m_w ?a_w ?b_w ?x_w ?_ ?s_w; (case N_w => k_asm); (case m_w => k_mem); (case a_w => decide); (case b_w => decide); (case x_w => rfl); (case s_w => with_unfolding_all rfl); k_whole) | (refine' sub_news ?N_w ?m_w ?a_w ?b_w ?x_w ?_ ?s_w; (case N_w => k_asm); (case m_w => k_mem); (case a_w => decide); (case b_w => decide); (case x_w => rfl); (case s_w => with_unfolding_all rfl); k_whole)))) | ((k_here; k_dflt (first | (refine' sub_at ?N_w ?m_w ?f_w ?x_w ?_ ?s_w; (case N_w => k_asm); (case m_w => k_mem); (case x_w => with_reducible assumption); (case f_w => omega); (case s_w => with_unfolding_all rfl); k_whole) | (refine' sub_pickI (fun r : Row => Value.ref r.a) ?N_w ?m_w ?h0_w ?h5_w ?x_w ?_ ?s_w; (case N_w => k_asm); (case m_w => k_mem); (case h0_w => with_reducible assumption); (case h5_w => with_reducible assumption); (case x_w => with_reducible assumption); (case s_w => with_unfolding_all rfl); k_whole; (try dsimp only)) | (refine' sub_pickI (fun m : MarkZ => Value.ref m.a) ?N_w ?m_w ?h0_w ?h5_w ?x_w ?_ ?s_w; (case N_w => k_asm); (case m_w => k_mem); (case h0_w => with_reducible assumption); (case h5_w => with_reducible assumption); (case x_w => with_reducible assumption); (case s_w => with_unfolding_all rfl); k_whole; (try dsimp only)) | (refine' sub_atI ?N_w ?m_w ?h0_w ?h5_w ?x_w ?_ ?s_w; (case N_w => k_asm); (case m_w => k_mem); (case h0_w => with_reducible assumption); (case h5_w => with_reducible assumption); (case x_w => with_reducible assumption); (case s_w => with_unfolding_all rfl); k_whole) | (refine' sub_newsT ?N_w ?m_w ?a_w ?b_w ?x_w ?_ ?s_w; (case N_w => k_asm); (case m_w => k_mem); (case a_w => decide); (case b_w => decide); (case x_w => rfl); (case s_w => with_unfolding_all rfl); k_whole) | (refine' sub_news ?N_w ?m_w ?a_w ?b_w ?x_w ?_ ?s_w; (case N_w => k_asm); (case m_w => k_mem); (case a_w => decide); (case b_w => decide); (case x_w => rfl); (case s_w => with_unfolding_all rfl); k_whole)))); walk_say "OWN subscriptTail Name Constant ref int")
  k_with "own" => ((with_reducible show wpAny _ _ (compareOp CmpOp.NotEq (Value.int _ _) (Value.int _ _)) _ _ _); first | with_reducible ((k_here; (with_reducible refine ne_same ?_))) | ((k_here; (with_reducible refine ne_same ?_))); walk_say "OWN compareOp NotEq int int")
  k_with "own" => ((with_reducible show wpAny _ _ (compareOp CmpOp.Eq (Value.int _ _) (Value.int _ _)) _ _ _); first | with_reducible ((k_here; (with_reducible refine eq_same ?_))) | ((k_here; (with_reducible refine eq_same ?_))); walk_say "OWN compareOp Eq int int")
  k_with "own" => ((with_reducible show wpAny _ _ (PySem.call (Value.builtin "max") _) _ _ _); first | with_reducible ((k_here; (with_reducible show wpAny _ _ (PySem.call (Value.builtin _) [Value.int _ _, Value.int _ _]) _ _ _); refine' max2v ?e_w ?h_w ?F_w ?N_w ?_; (case e_w => with_reducible assumption); (case h_w => with_unfolding_all rfl); (case F_w => k_asm); (case N_w => k_asm); intro _ _ _ _ _)) | ((k_here; (with_reducible show wpAny _ _ (PySem.call (Value.builtin _) [Value.int _ _, Value.int _ _]) _ _ _); refine' max2v ?e_w ?h_w ?F_w ?N_w ?_; (case e_w => with_reducible assumption); (case h_w => with_unfolding_all rfl); (case F_w => k_asm); (case N_w => k_asm); intro _ _ _ _ _)); walk_say "OWN call builtin:max")
  k_with "own" => ((with_reducible show wpAny _ _ (PySem.call (Value.builtin "min") _) _ _ _); first | with_reducible ((k_here; (with_reducible show wpAny _ _ (PySem.call (Value.builtin _) [Value.int _ _, Value.int _ _]) _ _ _); refine' min2v ?e_w ?h_w ?F_w ?N_w ?_; (case e_w => with_reducible assumption); (case h_w => with_unfolding_all rfl); (case F_w => k_asm); (case N_w => k_asm); intro _ _ _ _ _)) | ((k_here; (with_reducible show wpAny _ _ (PySem.call (Value.builtin _) [Value.int _ _, Value.int _ _]) _ _ _); refine' min2v ?e_w ?h_w ?F_w ?N_w ?_; (case e_w => with_reducible assumption); (case h_w => with_unfolding_all rfl); (case F_w => k_asm); (case N_w => k_asm); intro _ _ _ _ _)); walk_say "OWN call builtin:min")
  k_with "own" => ((with_reducible show wpAny _ _ (subscriptTail (Expr.Name _ _) (Expr.Name _ _) (Value.ref _) (Value.int _ _)) _ _ _); first | with_reducible ((k_here; k_dflt (refine' sub_news ?N_w ?m_w ?a_w ?b_w ?x_w ?_ ?s_w; (case N_w => k_asm); (case m_w => k_mem); (case a_w => decide); (case b_w => decide); (case x_w => rfl); (case s_w => with_unfolding_all rfl); k_whole))) | ((k_here; k_dflt (refine' sub_news ?N_w ?m_w ?a_w ?b_w ?x_w ?_ ?s_w; (case N_w => k_asm); (case m_w => k_mem); (case a_w => decide); (case b_w => decide); (case x_w => rfl); (case s_w => with_unfolding_all rfl); k_whole))); walk_say "OWN subscriptTail Name Name ref int")
  k_with "own" => ((with_reducible show wpAny _ _ (subscriptTail (Expr.Name _ _) (Expr.Constant _ _ _) (Value.ref _) (Value.int _ _)) _ _ _); first | with_reducible ((k_here; k_dflt (refine' sub_news ?N_w ?m_w ?a_w ?b_w ?x_w ?_ ?s_w; (case N_w => k_asm); (case m_w => k_mem); (case a_w => decide); (case b_w => decide); (case x_w => rfl); (case s_w => with_unfolding_all rfl); k_whole))) | ((k_here; k_dflt (refine' sub_news ?N_w ?m_w ?a_w ?b_w ?x_w ?_ ?s_w; (case N_w => k_asm); (case m_w => k_mem); (case a_w => decide); (case b_w => decide); (case x_w => rfl); (case s_w => with_unfolding_all rfl); k_whole))); walk_say "OWN subscriptTail Name Constant ref int")
  k_go0
  rename World => w
  (all_goals try k_fold)
  repeat' ((fail_if_success (with_reducible show wpAny _ _ (PySem.call (Value.ref 134) _) _ _ _)); first | (k_unfold; (try dsimp only)) | (k_end; wrow_close) | k_extra "own" | walk1 | (dsimp only; first | k_extra "own" | walk1) | (leave1; walk_say "STEP leave1"; try dsimp only) | fail "no step")
  k_dflt (refine' CodeSpecS.use (spots_spec ?ui ?ul) ?us ?uB ?uF ?uX ?uN ?uT ?uk ?ud ?uu ?_; (case us => assumption); (case uB => k_asm); (case uF => k_asm); (case uX => k_asm); (case uN => k_asm); (case uT => k_asm); (case uk => first | exact rfl | assumption); (case ud => ktr_room); (case uu => ktr_units))
  case ui => assumption
  case ul => omega
  intro r9 sub9 h9 tk9 F9 N9 K9 f9 P9
  clear K9 f9
  revert N9
  apply spots_elim (r := r9) (l := sub9) P9
  clear P9
  intro sp en p0 p1 p2 p3 p4 t0 b0 t1 b1 t2 b2 t3 b3 t4 b4 u0 v0 u1 v1 u2 v2 u3 v3 u4 v4 hh0 hh1 hh2 hh3 hh4 ok N9
  have ht0 := hh0.1; have hb0 := hh0.2
  have ht1 := hh1.1; have hb1 := hh1.2
  have ht2 := hh2.1; have hb2 := hh2.2
  have ht3 := hh3.1; have hb3 := hh3.2
  have ht4 := hh4.1; have hb4 := hh4.2
  clear hh0 hh1 hh2 hh3 hh4
  have hzs : ∀ z ∈ ([⟨p0, t0, b0, u0, v0⟩, ⟨p1, t1, b1, u1, v1⟩, ⟨p2, t2, b2, u2, v2⟩, ⟨p3, t3, b3, u3, v3⟩, ⟨p4, t4, b4, u4, v4⟩] : List PairZ), z.t ≤ 3 ∧ z.b ≤ 5 := (List.forall_mem_cons.mpr ⟨⟨ht0, hb0⟩, (List.forall_mem_cons.mpr ⟨⟨ht1, hb1⟩, (List.forall_mem_cons.mpr ⟨⟨ht2, hb2⟩, (List.forall_mem_cons.mpr ⟨⟨ht3, hb3⟩, (List.forall_mem_cons.mpr ⟨⟨ht4, hb4⟩, (List.forall_mem_nil _)⟩)⟩)⟩)⟩)⟩)
  (try dsimp only)
  (try k_fold)
  repeat' ((fail_if_success (with_reducible show wpAny _ _ (exec (Stmt.Assign [Expr.Name (Str.ofString "leads") _] _ _) _) _ _ _)); first | (k_unfold; (try dsimp only)) | (k_end; wrow_close) | k_extra "own" | walk1 | (dsimp only; first | k_extra "own" | walk1) | (leave1; walk_say "STEP leave1"; try dsimp only) | fail "no step")
  k_dflt (refine comp_assign (by k_asm) (by rfl) (by with_unfolding_all rfl) (by with_unfolding_all rfl) (by decide) (by rfl) (by decide) (by rfl) (by rfl) ?_)
  repeat' ( first | (k_unfold; (try dsimp only)) | (k_end; wrow_close) | k_extra "own" | walk1 | (dsimp only; first | k_extra "own" | walk1) | (leave1; walk_say "STEP leave1"; try dsimp only) | fail "no step")
  refine src_pairs (zs := [⟨p0, t0, b0, u0, v0⟩, ⟨p1, t1, b1, u1, v1⟩, ⟨p2, t2, b2, u2, v2⟩, ⟨p3, t3, b3, u3, v3⟩, ⟨p4, t4, b4, u4, v4⟩]) (na := en) (fun i v o => ∃ (z9 : Lead) (z : PairZ), ([⟨p0, t0, b0, u0, v0⟩, ⟨p1, t1, b1, u1, v1⟩, ⟨p2, t2, b2, u2, v2⟩, ⟨p3, t3, b3, u3, v3⟩, ⟨p4, t4, b4, u4, v4⟩] : List PairZ)[i]? = some z ∧ v = .ref z9.x ∧ o = z9.led w ∧ z9.t = z.t ∧ z9.b = z.b) (by rfl) (by k_asm) (by k_asm) (by k_mem) (List.forall_mem_cons.mpr ⟨by k_mem, (List.forall_mem_cons.mpr ⟨by k_mem, (List.forall_mem_cons.mpr ⟨by k_mem, (List.forall_mem_cons.mpr ⟨by k_mem, (List.forall_mem_cons.mpr ⟨by k_mem, (List.forall_mem_nil _)⟩)⟩)⟩)⟩)⟩) (Nat.le_of_ble_eq_true rfl) (by rfl) (by rfl) (by decide) (by rfl) ?turn1 ?fin1
  case turn1 =>
    intro i z hz C oC m₂ h tk rest E' hC ha hb F10 N10
    have hzb := of_get hz hzs
    obtain ⟨hz3, hz5⟩ := hzb
    repeat' ((fail_if_success (with_reducible show wpAny _ _ (PySem.call (Value.ref 111) _) _ _ _)); (fail_if_success (with_reducible show UnrEnd _ _ _ _ _ _ _)); (fail_if_success (with_reducible show KswEnd _ _ _ _ _ _ _ _ _ _ _ _)); first | (k_unfold; (try dsimp only)) | (k_end; wrow_close) | k_extra "own" | walk1 | (dsimp only; first | k_extra "own" | walk1) | (leave1; walk_say "STEP leave1"; try dsimp only) | fail "no step")
    k_dflt (refine' make_lead hz3 hz5 ?uB ?uF ?uX ?uN ?uT ?uk ?ud ?uu ?_; (case uB => k_asm); (case uF => k_asm); (case uX => k_asm); (case uN => k_asm); (case uT => k_asm); (case uk => first | exact rfl | assumption); (case ud => ktr_room); (case uu => ktr_units))
    intro z9 h' tk' et eb F' N' hfr
    exact gend (z9.led w) F' N' (fun p hp => hp) hfr ⟨z9, z, hz, rfl, rfl, et, eb⟩
  case fin1 =>
    intro ld ys owns h tk F10 N10 hyl hol hV
    have hLF := lead_fin hyl hol hV
    clear hyl hol hV
    revert N10 ht0 hb0 ht1 hb1 ht2 hb2 ht3 hb3 ht4 hb4 ok hzs
    apply lead_elim (ys := ys) (owns := owns) hLF
    clear hLF
    intro z0 z1 z2 z3 z4 ok ht0 hb0 ht1 hb1 ht2 hb2 ht3 hb3 ht4 hb4 hzs N10
    obtain ⟨R, hR⟩ : ∃ R : Led, R = z0.led w ++ (z1.led w ++ (z2.led w ++ (z3.led w ++ z4.led w))) := ⟨_, rfl⟩
    have lz0 : ∀ p ∈ z0.led w, p ∈ R := fun p hp => hR ▸ List.mem_append_left _ hp
    have lz1 : ∀ p ∈ z1.led w, p ∈ R := fun p hp => hR ▸ List.mem_append_right _ (List.mem_append_left _ hp)
    have lz2 : ∀ p ∈ z2.led w, p ∈ R := fun p hp => hR ▸ List.mem_append_right _ (List.mem_append_right _ (List.mem_append_left _ hp))
    have lz3 : ∀ p ∈ z3.led w, p ∈ R := fun p hp => hR ▸ List.mem_append_right _ (List.mem_append_right _ (List.mem_append_right _ (List.mem_append_left _ hp)))
    have lz4 : ∀ p ∈ z4.led w, p ∈ R := fun p hp => hR ▸ List.mem_append_right _ (List.mem_append_right _ (List.mem_append_right _ (List.mem_append_right _ hp)))
    have hRc : ∀ c : Value, c ≠ .ref 111 → c ≠ .type "dict" → c ≠ .type "tuple" → ∀ p ∈ R, p.2.cls ≠ c := fun c h1 h2 h3 p hp => by
      rw [hR] at hp
      simp only [List.mem_append] at hp
      rcases hp with hp | hp | hp | hp | hp <;> exact led_cls h1 h2 h3 p hp
    have N11 := news_sub N10 (l := (ld, listOf #[.ref z0.x, .ref z1.x, .ref z2.x, .ref z3.x, .ref z4.x] 5) :: (sp, listOf #[.ref p0, .ref p1, .ref p2, .ref p3, .ref p4] en) :: (p0, tup2 z0.t u0 z0.b v0) :: (p1, tup2 z1.t u1 z1.b v1) :: (p2, tup2 z2.t u2 z2.b v2) :: (p3, tup2 z3.t u3 z3.b v3) :: (p4, tup2 z4.t u4 z4.b v4) :: R) (List.forall_mem_cons.mpr ⟨List.Mem.head _, (List.forall_mem_cons.mpr ⟨List.Mem.tail _ (List.mem_append_right _ (by k_mem)), (List.forall_mem_cons.mpr ⟨List.Mem.tail _ (List.mem_append_right _ (by k_mem)), (List.forall_mem_cons.mpr ⟨List.Mem.tail _ (List.mem_append_right _ (by k_mem)), (List.forall_mem_cons.mpr ⟨List.Mem.tail _ (List.mem_append_right _ (by k_mem)), (List.forall_mem_cons.mpr ⟨List.Mem.tail _ (List.mem_append_right _ (by k_mem)), (List.forall_mem_cons.mpr ⟨List.Mem.tail _ (List.mem_append_right _ (by k_mem)), (fun p hp => List.Mem.tail _ (List.mem_append_left _ (by rw [hR] at hp; simpa using hp)))⟩)⟩)⟩)⟩)⟩)⟩)⟩)
    clear N10 hR
    (try dsimp only)
    repeat' ((fail_if_success (with_reducible show wpAny _ _ (exec (Stmt.Assign [Expr.Name (Str.ofString "words") _] _ _) _) _ _ _)); first | (k_unfold; (try dsimp only)) | (k_end; wrow_close) | k_extra "own" | walk1 | (dsimp only; first | k_extra "own" | walk1) | (leave1; walk_say "STEP leave1"; try dsimp only) | fail "no step")
    k_dflt (refine comp_assign (by k_asm) (by rfl) (by with_unfolding_all rfl) (by with_unfolding_all rfl) (by decide) (by rfl) (by decide) (by rfl) (by rfl) ?_)
    repeat' ( first | (k_unfold; (try dsimp only)) | (k_end; wrow_close) | k_extra "own" | walk1 | (dsimp only; first | k_extra "own" | walk1) | (leave1; walk_say "STEP leave1"; try dsimp only) | fail "no step")
    refine src_pairs (zs := [⟨p0, z0.t, z0.b, u0, v0⟩, ⟨p1, z1.t, z1.b, u1, v1⟩, ⟨p2, z2.t, z2.b, u2, v2⟩, ⟨p3, z3.t, z3.b, u3, v3⟩, ⟨p4, z4.t, z4.b, u4, v4⟩]) (na := en) (fun i v o => ∃ (z : PairZ) (k : Tok), ([⟨p0, z0.t, z0.b, u0, v0⟩, ⟨p1, z1.t, z1.b, u1, v1⟩, ⟨p2, z2.t, z2.b, u2, v2⟩, ⟨p3, z3.t, z3.b, u3, v3⟩, ⟨p4, z4.t, z4.b, u4, v4⟩] : List PairZ)[i]? = some z ∧ v = .str (waStr z.t z.b) k ∧ o = []) (by rfl) (by k_asm) (by k_asm) (by k_mem) (List.forall_mem_cons.mpr ⟨by k_mem, (List.forall_mem_cons.mpr ⟨by k_mem, (List.forall_mem_cons.mpr ⟨by k_mem, (List.forall_mem_cons.mpr ⟨by k_mem, (List.forall_mem_cons.mpr ⟨by k_mem, (List.forall_mem_nil _)⟩)⟩)⟩)⟩)⟩) (Nat.le_of_ble_eq_true rfl) (by rfl) (by rfl) (by decide) (by rfl) ?turn2 ?fin2
    case turn2 =>
      intro i z hz C oC m₂ h tk rest E' hC ha hb F10 N10
      have hzb := of_get hz hzs
      obtain ⟨hz3, hz5⟩ := hzb
      repeat' ( (fail_if_success (with_reducible show UnrEnd _ _ _ _ _ _ _)); (fail_if_success (with_reducible show KswEnd _ _ _ _ _ _ _ _ _ _ _ _)); first | (k_unfold; (try dsimp only)) | (k_end; wrow_close) | k_extra "own" | walk1 | (dsimp only; first | k_extra "own" | walk1) | (leave1; walk_say "STEP leave1"; try dsimp only) | fail "no step")
      exact gend [] (by k_asm) (by k_asm) (fun p hp => hp) (fun p hp => nomatch hp) ⟨z, _, hz, rfl, rfl⟩
    case fin2 =>
      intro wd ys owns h tk F12 N12 hyl hol hV
      have hWF := word_fin hyl hol hV
      clear hyl hol hV
      revert N12
      apply word_elim (ys := ys) (owns := owns) hWF
      clear hWF
      intro k0 k1 k2 k3 k4 N12
      dsimp only [List.flatten_cons, List.flatten_nil, List.nil_append] at N12
      (try dsimp only)
      repeat' ((fail_if_success (with_reducible show wpAny _ _ (exec (Stmt.Assign [Expr.Name (Str.ofString "marks") _] _ _) _) _ _ _)); first | (k_unfold; (try dsimp only)) | (k_end; wrow_close) | k_extra "own" | walk1 | (dsimp only; first | k_extra "own" | walk1) | (leave1; walk_say "STEP leave1"; try dsimp only) | fail "no step")
      k_dflt (refine comp_assign (by k_asm) (by rfl) (by with_unfolding_all rfl) (by with_unfolding_all rfl) (by decide) (by rfl) (by decide) (by rfl) (by rfl) ?_)
      repeat' ( first | (k_unfold; (try dsimp only)) | (k_end; wrow_close) | k_extra "own" | walk1 | (dsimp only; first | k_extra "own" | walk1) | (leave1; walk_say "STEP leave1"; try dsimp only) | fail "no step")
      refine src_names (items := [z0, z1, z2, z3, z4].map fun z => Value.ref z.x) (na := 5) (fun i v o => ∃ (z : Lead) (a : Nat) (q1 q2 q3 : Tok), [z0, z1, z2, z3, z4][i]? = some z ∧ v = .ref a ∧ o = [(a, markOf z q1 q2 q3)]) (by rfl) (by k_asm) (by k_asm) (by k_mem) (Nat.le_of_ble_eq_true rfl) (by rfl) (by rfl) ?turn3 ?fin3
      case turn3 =>
        intro i v hv C oC m₂ h tk rest E' hC ha F10 N10
        rw [List.getElem?_map, Option.map_eq_some_iff] at hv
        obtain ⟨z, hz, rfl⟩ := hv
        have lz : ∀ p ∈ z.led w, p ∈ R := of_get (p := fun z : Lead => ∀ p ∈ z.led w, p ∈ R) hz (List.forall_mem_cons.mpr ⟨lz0, (List.forall_mem_cons.mpr ⟨lz1, (List.forall_mem_cons.mpr ⟨lz2, (List.forall_mem_cons.mpr ⟨lz3, (List.forall_mem_cons.mpr ⟨lz4, (List.forall_mem_nil _)⟩)⟩)⟩)⟩)⟩)
        repeat' ((fail_if_success (with_reducible show wpAny _ _ (PySem.call (Value.ref 141) _) _ _ _)); (fail_if_success (with_reducible show UnrEnd _ _ _ _ _ _ _)); (fail_if_success (with_reducible show KswEnd _ _ _ _ _ _ _ _ _ _ _ _)); first | (k_unfold; (try dsimp only)) | (k_end; wrow_close) | k_extra "own" | walk1 | (dsimp only; first | k_extra "own" | walk1) | (leave1; walk_say "STEP leave1"; try dsimp only) | fail "no step")
        k_dflt (refine' CodeSpec.use0 (marks_spec (z := z)) ?uB ?uF ?uX ?uN ?uT ?uk ?uin ?ud ?uu ?_; (case uB => k_asm); (case uF => k_asm); (case uX => k_asm); (case uN => k_asm); (case uT => k_asm); (case uk => first | exact rfl | assumption); (case ud => ktr_room); (case uu => ktr_units))
        case uin => exact fun p hp => .tail _ (List.mem_append_left _ ((by (repeat' (first | with_reducible assumption | exact in_self | refine in_tail ?_)) : ∀ p ∈ R, p ∈ _) p (lz p hp)))
        intro r9 l9 h9 tk9 F9 N9 f9 P9
        obtain ⟨a9, q1, q2, q3, e9, e8⟩ := P9
        subst e9 e8
        refine gend _ F9 N9 (fun p hp => hp) (fun p hp => ?_) ⟨z, a9, q1, q2, q3, hz, rfl, rfl⟩
        rcases f9 p hp with h | h
        · rw [List.mem_singleton.mp hp] at h
          exact absurd rfl (led_cls (c := .type "list") (by simp) (by simp) (by simp) _ h)
        · exact h
      case fin3 =>
        intro mk ys owns h tk F13 N13 hyl hol hV
        have hMF := mark_fin hyl hol hV
        clear hyl hol hV
        revert N13
        apply mark_elim (ys := ys) (owns := owns) hMF
        clear hMF
        intro a0 a1 a2 a3 a4 c00 c01 c02 c10 c11 c12 c20 c21 c22 c30 c31 c32 c40 c41 c42 N13
        dsimp only [List.flatten_cons, List.flatten_nil, List.nil_append, List.cons_append] at N13
        (try dsimp only)
        repeat' ((fail_if_success (with_reducible show wpAny _ _ (PySem.call (Value.ref 146) _) _ _ _)); first | (k_unfold; (try dsimp only)) | (k_end; wrow_close) | k_extra "own" | walk1 | (dsimp only; first | k_extra "own" | walk1) | (leave1; walk_say "STEP leave1"; try dsimp only) | fail "no step")
        have hM : ∀ k : Int, (pick (markZ z0 a0 c00 c01 c02 k0) (markZ z1 a1 c10 c11 c12 k1) (markZ z2 a2 c20 c21 c22 k2) (markZ z3 a3 c30 c31 c32 k3) (markZ z4 a4 c40 c41 c42 k4) k).Ok := pick_all (markZ_ok ht0 hb0) (markZ_ok ht1 hb1) (markZ_ok ht2 hb2) (markZ_ok ht3 hb3) (markZ_ok ht4 hb4)
        k_dflt (refine' CodeSpec.use0 (far_spec (ew := 5) (em := 5) hM) ?uB ?uF ?uX ?uN ?uT ?uk ?uin ?ud ?uu ?_; (case uB => k_asm); (case uF => k_asm); (case uX => k_asm); (case uN => k_asm); (case uT => k_asm); (case uk => first | exact rfl | assumption); (case ud => ktr_room); (case uu => ktr_units))
        case uin => exact (List.forall_mem_cons.mpr ⟨by k_mem, (List.forall_mem_cons.mpr ⟨by k_mem, (List.forall_mem_cons.mpr ⟨by k_mem, (List.forall_mem_cons.mpr ⟨by k_mem, (List.forall_mem_cons.mpr ⟨by k_mem, (List.forall_mem_cons.mpr ⟨by k_mem, (List.forall_mem_cons.mpr ⟨by k_mem, (List.forall_mem_nil _)⟩)⟩)⟩)⟩)⟩)⟩)⟩)
        intro r9 l9 h9 tk9 F9 N9 f9 P9
        clear f9
        revert N9
        apply far_elim (r := r9) (l := l9) P9
        clear P9
        intro fa fen R0 R1 R2 R3 R4 f0 f1 f2 f3 f4 N9
        dsimp only [List.cons_append, List.nil_append] at N9
        (try dsimp only)
        (try k_fold)
        repeat' ((fail_if_success (with_reducible show wpAny _ _ (PySem.call (Value.ref 153) _) _ _ _)); first | (k_unfold; (try dsimp only)) | (k_end; wrow_close) | k_extra "own" | walk1 | (dsimp only; first | k_extra "own" | walk1) | (leave1; walk_say "STEP leave1"; try dsimp only) | fail "no step")
        k_dflt (refine' CodeSpec.use0 (road_spec (e := 5) (hRc (.type "list") (by simp) (by simp) (by simp)) (hRc (.type "range_iterator") (by simp) (by simp) (by simp)) lz0 lz1 lz2 lz3 lz4) ?uB ?uF ?uX ?uN ?uT ?uk ?uin ?ud ?uu ?_; (case uB => k_asm); (case uF => k_asm); (case uX => k_asm); (case uN => k_asm); (case uT => k_asm); (case uk => first | exact rfl | assumption); (case ud => ktr_room); (case uu => ktr_units))
        case uin => exact (List.forall_mem_cons.mpr ⟨by k_mem, by (repeat' (first | with_reducible assumption | exact in_self | refine in_tail ?_))⟩)
        intro r9 l9 h9 tk9 F9 N9 f9 P9
        clear f9
        revert N9
        apply road_elim (r := r9) (l := l9) P9
        clear P9
        intro ra ren r0 r1 r2 r3 r4 r5 q0 q1 q2 q3 q4 q5 N9
        dsimp only [List.cons_append, List.nil_append] at N9
        (try dsimp only)
        (try k_fold)
        repeat' ((fail_if_success (with_reducible show wpAny _ _ (PySem.call (Value.ref 158) _) _ _ _)); first | (k_unfold; (try dsimp only)) | (k_end; wrow_close) | k_extra "own" | walk1 | (dsimp only; first | k_extra "own" | walk1) | (leave1; walk_say "STEP leave1"; try dsimp only) | fail "no step")
        k_dflt (refine' CodeSpec.use0 (least_spec (z0 := z0) (z1 := z1) (z2 := z2) (z3 := z3) (z4 := z4) (e := en) ⟨ht0, hb0⟩ ⟨ht1, hb1⟩ ⟨ht2, hb2⟩ ⟨ht3, hb3⟩ ⟨ht4, hb4⟩) ?uB ?uF ?uX ?uN ?uT ?uk ?uin ?ud ?uu ?_; (case uB => k_asm); (case uF => k_asm); (case uX => k_asm); (case uN => k_asm); (case uT => k_asm); (case uk => first | exact rfl | assumption); (case ud => ktr_room); (case uu => ktr_units))
        case uin => exact (List.forall_mem_cons.mpr ⟨by k_mem, (List.forall_mem_cons.mpr ⟨by k_mem, (List.forall_mem_cons.mpr ⟨by k_mem, (List.forall_mem_cons.mpr ⟨by k_mem, (List.forall_mem_cons.mpr ⟨by k_mem, (List.forall_mem_cons.mpr ⟨by k_mem, (List.forall_mem_nil _)⟩)⟩)⟩)⟩)⟩)⟩)
        intro r9 l9 h9 tk9 F9 N9 f9 P9
        clear f9
        revert N9
        apply least_elim (r := r9) (l := l9) P9 q0 q1 q2 q3 q4 q5
        clear P9
        intro la len s0 s1 s2 s3 s4 s5 t0 u0 t1 u1 t2 u2 t3 u3 t4 u4 t5 u5 N9
        dsimp only [List.cons_append, List.nil_append] at N9
        (try dsimp only)
        (try k_fold)
        repeat' ((fail_if_success (with_reducible show wpAny _ _ (pyIter _) _ _ _)); first | (k_unfold; (try dsimp only)) | (k_end; wrow_close) | k_extra "own" | walk1 | (dsimp only; first | k_extra "own" | walk1) | (leave1; walk_say "STEP leave1"; try dsimp only) | fail "no step")
        rename IsRange _ _ _ _ _ _ _ _ => hRg
        rename News _ _ _ _ => N20
        have N21 := news_sub N20 (l := (ra, listOf #[.ref r0.a, .ref r1.a, .ref r2.a, .ref r3.a, .ref r4.a, .ref r5.a] ren) :: (fa, listOf #[.ref R0.a, .ref R1.a, .ref R2.a, .ref R3.a, .ref R4.a] fen) :: (mk, listOf #[.ref (markZ z0 a0 c00 c01 c02 k0).a, .ref (markZ z1 a1 c10 c11 c12 k1).a, .ref (markZ z2 a2 c20 c21 c22 k2).a, .ref (markZ z3 a3 c30 c31 c32 k3).a, .ref (markZ z4 a4 c40 c41 c42 k4).a] 5) :: [r0.ent, r1.ent, r2.ent, r3.ent, r4.ent, r5.ent, R0.ent, R1.ent, R2.ent, R3.ent, R4.ent, (markZ z0 a0 c00 c01 c02 k0).ent, (markZ z1 a1 c10 c11 c12 k1).ent, (markZ z2 a2 c20 c21 c22 k2).ent, (markZ z3 a3 c30 c31 c32 k3).ent, (markZ z4 a4 c40 c41 c42 k4).ent]) (List.forall_mem_cons.mpr ⟨by k_mem, (List.forall_mem_cons.mpr ⟨by k_mem, (List.forall_mem_cons.mpr ⟨by k_mem, (List.forall_mem_cons.mpr ⟨by k_mem, (List.forall_mem_cons.mpr ⟨by k_mem, (List.forall_mem_cons.mpr ⟨by k_mem, (List.forall_mem_cons.mpr ⟨by k_mem, (List.forall_mem_cons.mpr ⟨by k_mem, (List.forall_mem_cons.mpr ⟨by k_mem, (List.forall_mem_cons.mpr ⟨by k_mem, (List.forall_mem_cons.mpr ⟨by k_mem, (List.forall_mem_cons.mpr ⟨by k_mem, (List.forall_mem_cons.mpr ⟨by k_mem, (List.forall_mem_cons.mpr ⟨by k_mem, (List.forall_mem_cons.mpr ⟨by k_mem, (List.forall_mem_cons.mpr ⟨by k_mem, (List.forall_mem_cons.mpr ⟨by k_mem, (List.forall_mem_cons.mpr ⟨by k_mem, (List.forall_mem_cons.mpr ⟨by k_mem, (List.forall_mem_nil _)⟩)⟩)⟩)⟩)⟩)⟩)⟩)⟩)⟩)⟩)⟩)⟩)⟩)⟩)⟩)⟩)⟩)⟩)⟩)
        obtain ⟨Qd, hQd⟩ : ∃ Qd : Led, Qd = [r0.ent, r1.ent, r2.ent, r3.ent, r4.ent, r5.ent, R0.ent, R1.ent, R2.ent, R3.ent, R4.ent, (markZ z0 a0 c00 c01 c02 k0).ent, (markZ z1 a1 c10 c11 c12 k1).ent, (markZ z2 a2 c20 c21 c22 k2).ent, (markZ z3 a3 c30 c31 c32 k3).ent, (markZ z4 a4 c40 c41 c42 k4).ent] := ⟨_, rfl⟩
        have H : Road z0 z1 z2 z3 z4 (markZ z0 a0 c00 c01 c02 k0) (markZ z1 a1 c10 c11 c12 k1) (markZ z2 a2 c20 c21 c22 k2) (markZ z3 a3 c30 c31 c32 k3) (markZ z4 a4 c40 c41 c42 k4) R0 R1 R2 R3 R4 r0 r1 r2 r3 r4 r5 Qd :=
          ⟨ok, hM, fun k => by unfold pick; (repeat' split) <;> exact ⟨rfl, rfl⟩, f0, f1, f2, f3, f4, q0, q1, q2, q3, q4, q5, fun k => hQd ▸ pick_all (p := fun x : MarkZ => x.ent ∈ [r0.ent, r1.ent, r2.ent, r3.ent, r4.ent, r5.ent, R0.ent, R1.ent, R2.ent, R3.ent, R4.ent, (markZ z0 a0 c00 c01 c02 k0).ent, (markZ z1 a1 c10 c11 c12 k1).ent, (markZ z2 a2 c20 c21 c22 k2).ent, (markZ z3 a3 c30 c31 c32 k3).ent, (markZ z4 a4 c40 c41 c42 k4).ent]) (by k_mem) (by k_mem) (by k_mem) (by k_mem) (by k_mem) k,
            fun k => hQd ▸ pick_all (p := fun x : Row => x.ent ∈ [r0.ent, r1.ent, r2.ent, r3.ent, r4.ent, r5.ent, R0.ent, R1.ent, R2.ent, R3.ent, R4.ent, (markZ z0 a0 c00 c01 c02 k0).ent, (markZ z1 a1 c10 c11 c12 k1).ent, (markZ z2 a2 c20 c21 c22 k2).ent, (markZ z3 a3 c30 c31 c32 k3).ent, (markZ z4 a4 c40 c41 c42 k4).ent]) (by k_mem) (by k_mem) (by k_mem) (by k_mem) (by k_mem) k, hQd ▸ ⟨by k_mem, by k_mem, by k_mem, by k_mem, by k_mem, by k_mem⟩⟩
        rw [← hQd] at N21
        clear hQd N20 hM ok q0 q1 q2 q3 q4 q5 f0 f1 f2 f3 f4 hzs lz0 lz1 lz2 lz3 lz4 hRc
        generalize (markZ z0 a0 c00 c01 c02 k0) = M0 at N21 H
        generalize (markZ z1 a1 c10 c11 c12 k1) = M1 at N21 H
        generalize (markZ z2 a2 c20 c21 c22 k2) = M2 at N21 H
        generalize (markZ z3 a3 c30 c31 c32 k3) = M3 at N21 H
        generalize (markZ z4 a4 c40 c41 c42 k4) = M4 at N21 H
        have hr0 : 0 ≤ r0.k ∧ r0.k < 5 := ⟨H.q0.1, H.q0.2.1⟩
        refine' packP (σ := Tok × Tok × Tok) (fun z => [(Str.ofString "marks", .ref mk), (Str.ofString "far", .ref fa), (Str.ofString "road", .ref ra), (Str.ofString "stop", .int r0.k z.1), (Str.ofString "first", .int r0.k z.2.1), (Str.ofString "total", .int 0 z.2.2)]) (fun _ => (ra, listOf #[.ref r0.a, .ref r1.a, .ref r2.a, .ref r3.a, .ref r4.a, .ref r5.a] ren) :: (fa, listOf #[.ref R0.a, .ref R1.a, .ref R2.a, .ref R3.a, .ref R4.a] fen) :: (mk, listOf #[.ref M0.a, .ref M1.a, .ref M2.a, .ref M3.a, .ref M4.a] 5) :: Qd) (fun _ => True) ?pF ?pN ⟨_, _, _⟩ ?pm ?pn ?pp ?_
        case pF => k_asm
        case pN => exact N21
        case pn => exact fun p hp => hp
        case pm => kst_all
        case pp => trivial
        rintro ⟨j1, j2, j3⟩ m20 hm20 _ F21 N22
        clear N21
        dsimp only at hm20
        refine iter_rangeUnr (n := 5) (by rfl) hRg (range_small (by decide) (by decide) (by decide) (by decide)) (range_size (.inl ⟨by decide, by decide⟩)) F21 N22 (fun I hI => ?_)
        refine range_inv (σ := LoopL) (fun _ _ => (ra, listOf #[.ref r0.a, .ref r1.a, .ref r2.a, .ref r3.a, .ref r4.a, .ref r5.a] ren) :: (fa, listOf #[.ref R0.a, .ref R1.a, .ref R2.a, .ref R3.a, .ref R4.a] fen) :: (mk, listOf #[.ref M0.a, .ref M1.a, .ref M2.a, .ref M3.a, .ref M4.a] 5) :: Qd) (fun i z => [(Str.ofString "marks", .ref mk), (Str.ofString "far", .ref fa), (Str.ofString "road", .ref ra), (Str.ofString "stop", .int z.s z.ks), (Str.ofString "first", .int r0.k j2), (Str.ofString "total", .int z.tot z.kt)])
          (fun i z => (rsAt r0 r1 r2 r3 r4 r5 i).k = z.s ∧ Total M0 M1 M2 M3 M4 r0.k z.s z.tot) ?stepL ?doneL 5 0 _ _ rfl (fun p hp => Nat.ne_of_lt (hI p hp)) ⟨⟨r0.k, j1, 0, j3⟩, rfl, hm20, rfl, by dsimp only; exact ⟨Int.le_refl _, by omega, by omega⟩⟩
        case doneL =>
          intro z v h tk hP F23 N23
          obtain ⟨sk, ks, tot, kt⟩ := z
          dsimp only [kstB] at hP F23 N23
          obtain ⟨hs, hT⟩ := hP
          obtain ⟨_, _, hl⟩ := H.at 5 (by omega)
          rw [hs] at hl
          have hs5 : 0 ≤ sk ∧ sk < 5 := ⟨hl.1, hl.2.1⟩
          obtain ⟨t0', t30, hdue⟩ := H.total hT
          obtain ⟨mx, hmx⟩ : ∃ x, max r0.k sk = x := ⟨_, rfl⟩
          obtain ⟨mn, hmn⟩ : ∃ x, min r0.k sk = x := ⟨_, rfl⟩
          rw [hmx, hmn] at hdue
          obtain ⟨tw, hw⟩ := far_at H.f0 H.f1 H.f2 H.f3 H.f4 (m := mx) (n := mn) (by omega) (by omega) (by omega)
          rw [hdue] at hw
          obtain ⟨RX, hRX⟩ : ∃ RX, pick R0 R1 R2 R3 R4 mx = RX := ⟨_, rfl⟩
          have mRX : RX.ent ∈ Qd := hRX ▸ H.rm _
          rw [hRX] at hw
          have x1 : 0 ≤ mx := by omega
          have x2 : mx < 5 := by omega
          have x3 : 0 ≤ mn := by omega
          have x4 : mn < 5 := by omega
          have N24 := news_sub N23 (l := RX.ent :: _) (List.forall_mem_cons.mpr ⟨.tail _ (.tail _ (.tail _ mRX)), fun p hp => hp⟩)
          clear N23
          dsimp only
          repeat' ((fail_if_success (with_reducible show wpAny _ _ (subscriptTail _ (Expr.Call _ _ _ _) _ _) _ _ _)); first | (k_unfold; (try dsimp only)) | (k_end; wrow_close) | k_extra "own" | walk1 | (dsimp only; first | k_extra "own" | walk1) | (leave1; walk_say "STEP leave1"; try dsimp only) | fail "no step")
          k_dflt (refine' sub_pickI (fun r : Row => Value.ref r.a) ?N ?m ?h0 ?h5 ?x ?_ ?s; (case N => k_asm); (case m => k_mem); (case h0 => exact x1); (case h5 => exact x2); (case x => exact hRX); (case s => with_unfolding_all rfl))
          (try dsimp only)
          repeat' ((fail_if_success (with_reducible show wpAny _ _ (subscriptTail _ (Expr.Call _ _ _ _) _ _) _ _ _)); first | (k_unfold; (try dsimp only)) | (k_end; wrow_close) | k_extra "own" | walk1 | (dsimp only; first | k_extra "own" | walk1) | (leave1; walk_say "STEP leave1"; try dsimp only) | fail "no step")
          k_dflt (refine' sub_atI ?N ?m ?h0 ?h5 ?x ?_ ?s; (case N => k_asm); (case m => exact List.Mem.head _); (case h0 => exact x3); (case h5 => exact x4); (case x => exact hw); (case s => with_unfolding_all rfl))
          (try dsimp only)
          repeat' ( first | (k_unfold; (try dsimp only)) | (k_end; wrow_close) | k_extra "own" | walk1 | (dsimp only; first | k_extra "own" | walk1) | (leave1; walk_say "STEP leave1"; try dsimp only) | fail "no step")
        case stepL =>
          intro i z v t h tk hi hP ho F23 N23
          obtain ⟨sk, ks, tot, kt⟩ := z
          dsimp only [kstB] at hP ho F23 N23 ⊢
          obtain ⟨hs, hT⟩ := hP
          obtain ⟨_, _, hl⟩ := H.at i (by omega)
          rw [hs] at hl
          have hs5 : 0 ≤ sk ∧ sk < 5 := ⟨hl.1, hl.2.1⟩
          obtain ⟨hx, mrx, hl'⟩ := H.at (i + 1) (by omega)
          obtain ⟨rx, hrx⟩ : ∃ rx, rsAt r0 r1 r2 r3 r4 r5 (i + 1) = rx := ⟨_, rfl⟩
          rw [hrx] at hx mrx hl'
          have hq5 : 0 ≤ rx.k ∧ rx.k < 5 := ⟨hl'.1, hl'.2.1⟩
          obtain ⟨t0', t30, _⟩ := H.total hT
          obtain ⟨mx, hmx⟩ : ∃ x, max sk rx.k = x := ⟨_, rfl⟩
          obtain ⟨mn, hmn⟩ : ∃ x, min sk rx.k = x := ⟨_, rfl⟩
          have x1 : 0 ≤ mx := by omega
          have x2 : mx < 5 := by omega
          have x3 : 0 ≤ mn := by omega
          have x4 : mn < 5 := by omega
          obtain ⟨tw, hw⟩ := far_at H.f0 H.f1 H.f2 H.f3 H.f4 (m := mx) (n := mn) (by omega) (by omega) (by omega)
          obtain ⟨RX, hRX⟩ : ∃ RX, pick R0 R1 R2 R3 R4 mx = RX := ⟨_, rfl⟩
          have mRX : RX.ent ∈ Qd := hRX ▸ H.rm _
          rw [hRX] at hw
          obtain ⟨X, hX⟩ : ∃ X, pick M0 M1 M2 M3 M4 sk = X := ⟨_, rfl⟩
          obtain ⟨Y, hY⟩ : ∃ Y, pick M0 M1 M2 M3 M4 rx.k = Y := ⟨_, rfl⟩
          have mX : X.ent ∈ Qd := hX ▸ H.mm _
          have mY : Y.ent ∈ Qd := hY ▸ H.mm _
          have oX : X.Ok := hX ▸ H.mok _
          have oY : Y.Ok := hY ▸ H.mok _
          obtain ⟨wy, hwy⟩ : ∃ wy, dueM (pick M0 M1 M2 M3 M4 mx) (pick M0 M1 M2 M3 M4 mn) = wy := ⟨_, rfl⟩
          rw [hwy] at hw
          have bw : 0 ≤ wy ∧ wy ≤ 100 := by
            have o1 := H.mok mx; have o2 := H.mok mn
            rw [← hwy]
            exact due_bound o1 o2
          have bX : -100 ≤ X.m1 ∧ X.m1 ≤ 100 := by obtain ⟨g1, g2, g3, _, _⟩ := oX; omega
          have bY : -100 ≤ Y.m1 ∧ Y.m1 ≤ 100 := by obtain ⟨g1, g2, g3, _, _⟩ := oY; omega
          have k0 : 0 ≤ rx.k := hq5.1
          have k5 : rx.k < 5 := hq5.2
          have k0' : 0 ≤ sk := hs5.1
          have k5' : sk < 5 := hs5.2
          have N24 := news_sub N23 (l := rx.ent :: X.ent :: Y.ent :: RX.ent :: _) (List.forall_mem_cons.mpr ⟨.tail _ (.tail _ (.tail _ (.tail _ mrx))), List.forall_mem_cons.mpr ⟨.tail _ (.tail _ (.tail _ (.tail _ mX))), List.forall_mem_cons.mpr ⟨.tail _ (.tail _ (.tail _ (.tail _ mY))), List.forall_mem_cons.mpr ⟨.tail _ (.tail _ (.tail _ (.tail _ mRX))), fun p hp => hp⟩⟩⟩⟩)
          clear N23
          rw [show (1 : Int) + (i : Int) = ((i + 1 : Nat) : Int) from by omega] at F23
          repeat' ((fail_if_success (with_reducible show wpAny _ _ (subscriptTail _ (Expr.Call _ _ _ _) _ _) _ _ _)); (fail_if_success (with_reducible show wpAny _ _ (PySem.call (Value.ref 165) _) _ _ _)); (fail_if_success (with_reducible show UnrEnd _ _ _ _ _ _ _)); (fail_if_success (with_reducible show KswEnd _ _ _ _ _ _ _ _ _ _ _ _)); first | (k_unfold; (try dsimp only)) | (k_end; wrow_close) | k_extra "own" | walk1 | (dsimp only; first | k_extra "own" | walk1) | (leave1; walk_say "STEP leave1"; try dsimp only) | fail "no step")
          · k_dflt (refine' sub_pickI (fun r : Row => Value.ref r.a) ?N ?m ?h0 ?h5 ?x ?_ ?s; (case N => k_asm); (case m => k_mem); (case h0 => exact x1); (case h5 => exact x2); (case x => exact hRX); (case s => with_unfolding_all rfl))
            (try dsimp only)
            repeat' ((fail_if_success (with_reducible show wpAny _ _ (subscriptTail _ (Expr.Call _ _ _ _) _ _) _ _ _)); (fail_if_success (with_reducible show wpAny _ _ (PySem.call (Value.ref 165) _) _ _ _)); (fail_if_success (with_reducible show UnrEnd _ _ _ _ _ _ _)); (fail_if_success (with_reducible show KswEnd _ _ _ _ _ _ _ _ _ _ _ _)); first | (k_unfold; (try dsimp only)) | (k_end; wrow_close) | k_extra "own" | walk1 | (dsimp only; first | k_extra "own" | walk1) | (leave1; walk_say "STEP leave1"; try dsimp only) | fail "no step")
            k_dflt (refine' sub_atI ?N ?m ?h0 ?h5 ?x ?_ ?s; (case N => k_asm); (case m => k_mem); (case h0 => exact x3); (case h5 => exact x4); (case x => exact hw); (case s => with_unfolding_all rfl))
            (try dsimp only)
            repeat' ((fail_if_success (with_reducible show wpAny _ _ (subscriptTail _ (Expr.Call _ _ _ _) _ _) _ _ _)); (fail_if_success (with_reducible show wpAny _ _ (subscriptTail _ _ (Value.ref mk) _) _ _ _)); (fail_if_success (with_reducible show wpAny _ _ (subscriptTail _ _ (Value.ref X.a) _) _ _ _)); (fail_if_success (with_reducible show wpAny _ _ (subscriptTail _ _ (Value.ref Y.a) _) _ _ _)); (fail_if_success (with_reducible show wpAny _ _ (PySem.call (Value.ref 165) _) _ _ _)); (fail_if_success (with_reducible show UnrEnd _ _ _ _ _ _ _)); (fail_if_success (with_reducible show KswEnd _ _ _ _ _ _ _ _ _ _ _ _)); first | (k_unfold; (try dsimp only)) | (k_end; wrow_close) | k_extra "own" | walk1 | (dsimp only; first | k_extra "own" | walk1) | (leave1; walk_say "STEP leave1"; try dsimp only) | fail "no step")
            k_dflt (refine' sub_pickI (fun m : MarkZ => Value.ref m.a) ?N ?m ?h0 ?h5 ?x ?_ ?s; (case N => k_asm); (case m => k_mem); (case h0 => exact k0); (case h5 => exact k5); (case x => exact hY); (case s => with_unfolding_all rfl))
            (try dsimp only)
            repeat' ((fail_if_success (with_reducible show wpAny _ _ (subscriptTail _ (Expr.Call _ _ _ _) _ _) _ _ _)); (fail_if_success (with_reducible show wpAny _ _ (subscriptTail _ _ (Value.ref mk) _) _ _ _)); (fail_if_success (with_reducible show wpAny _ _ (subscriptTail _ _ (Value.ref X.a) _) _ _ _)); (fail_if_success (with_reducible show wpAny _ _ (subscriptTail _ _ (Value.ref Y.a) _) _ _ _)); (fail_if_success (with_reducible show wpAny _ _ (PySem.call (Value.ref 165) _) _ _ _)); (fail_if_success (with_reducible show UnrEnd _ _ _ _ _ _ _)); (fail_if_success (with_reducible show KswEnd _ _ _ _ _ _ _ _ _ _ _ _)); first | (k_unfold; (try dsimp only)) | (k_end; wrow_close) | k_extra "own" | walk1 | (dsimp only; first | k_extra "own" | walk1) | (leave1; walk_say "STEP leave1"; try dsimp only) | fail "no step")
            k_dflt (refine' sub_news (its := #[.int Y.m1 Y.q1, .int Y.m2 Y.q2, .int Y.m3 Y.q3]) (n := 0) ?N ?m ?h0 ?h5 ?x ?_ ?s; (case N => k_asm); (case m => k_mem); (case h0 => decide); (case h5 => decide); (case x => rfl); (case s => with_unfolding_all rfl))
            (try dsimp only)
            repeat' ((fail_if_success (with_reducible show wpAny _ _ (subscriptTail _ (Expr.Call _ _ _ _) _ _) _ _ _)); (fail_if_success (with_reducible show wpAny _ _ (subscriptTail _ _ (Value.ref mk) _) _ _ _)); (fail_if_success (with_reducible show wpAny _ _ (subscriptTail _ _ (Value.ref X.a) _) _ _ _)); (fail_if_success (with_reducible show wpAny _ _ (subscriptTail _ _ (Value.ref Y.a) _) _ _ _)); (fail_if_success (with_reducible show wpAny _ _ (PySem.call (Value.ref 165) _) _ _ _)); (fail_if_success (with_reducible show UnrEnd _ _ _ _ _ _ _)); (fail_if_success (with_reducible show KswEnd _ _ _ _ _ _ _ _ _ _ _ _)); first | (k_unfold; (try dsimp only)) | (k_end; wrow_close) | k_extra "own" | walk1 | (dsimp only; first | k_extra "own" | walk1) | (leave1; walk_say "STEP leave1"; try dsimp only) | fail "no step")
            k_dflt (refine' sub_pickI (fun m : MarkZ => Value.ref m.a) ?N ?m ?h0 ?h5 ?x ?_ ?s; (case N => k_asm); (case m => k_mem); (case h0 => exact k0'); (case h5 => exact k5'); (case x => exact hX); (case s => with_unfolding_all rfl))
            (try dsimp only)
            repeat' ((fail_if_success (with_reducible show wpAny _ _ (subscriptTail _ (Expr.Call _ _ _ _) _ _) _ _ _)); (fail_if_success (with_reducible show wpAny _ _ (subscriptTail _ _ (Value.ref mk) _) _ _ _)); (fail_if_success (with_reducible show wpAny _ _ (subscriptTail _ _ (Value.ref X.a) _) _ _ _)); (fail_if_success (with_reducible show wpAny _ _ (subscriptTail _ _ (Value.ref Y.a) _) _ _ _)); (fail_if_success (with_reducible show wpAny _ _ (PySem.call (Value.ref 165) _) _ _ _)); (fail_if_success (with_reducible show UnrEnd _ _ _ _ _ _ _)); (fail_if_success (with_reducible show KswEnd _ _ _ _ _ _ _ _ _ _ _ _)); first | (k_unfold; (try dsimp only)) | (k_end; wrow_close) | k_extra "own" | walk1 | (dsimp only; first | k_extra "own" | walk1) | (leave1; walk_say "STEP leave1"; try dsimp only) | fail "no step")
            k_dflt (refine' sub_news (its := #[.int X.m1 X.q1, .int X.m2 X.q2, .int X.m3 X.q3]) (n := 0) ?N ?m ?h0 ?h5 ?x ?_ ?s; (case N => k_asm); (case m => k_mem); (case h0 => decide); (case h5 => decide); (case x => rfl); (case s => with_unfolding_all rfl))
            (try dsimp only)
            repeat' ((fail_if_success (with_reducible show wpAny _ _ (subscriptTail _ (Expr.Call _ _ _ _) _ _) _ _ _)); (fail_if_success (with_reducible show wpAny _ _ (subscriptTail _ _ (Value.ref mk) _) _ _ _)); (fail_if_success (with_reducible show wpAny _ _ (subscriptTail _ _ (Value.ref X.a) _) _ _ _)); (fail_if_success (with_reducible show wpAny _ _ (subscriptTail _ _ (Value.ref Y.a) _) _ _ _)); (fail_if_success (with_reducible show wpAny _ _ (PySem.call (Value.ref 165) _) _ _ _)); (fail_if_success (with_reducible show UnrEnd _ _ _ _ _ _ _)); (fail_if_success (with_reducible show KswEnd _ _ _ _ _ _ _ _ _ _ _ _)); first | (k_unfold; (try dsimp only)) | (k_end; wrow_close) | k_extra "own" | walk1 | (dsimp only; first | k_extra "own" | walk1) | (leave1; walk_say "STEP leave1"; try dsimp only) | fail "no step")
            rename rx.k ≠ sk => hne
            obtain ⟨t, b, t', b', e1, e2, e3, e4, w1, w2, w3, w4, w5, w6, w7, w8, w9⟩ := H.turn hi hs (by rw [hrx]) hne
            rw [hmx, hmn, hwy] at w7
            rw [hX, hY] at w8
            rw [← w7, ← w8] at w9
            have hTn := H.total_next hT hi hs (by rw [hrx]) hne
            rw [hmx, hmn, hwy] at hTn
            k_dflt (refine' CodeSpec.use0 (turn_spec (p := sk) (q := rx.k) (way := wy) (signs := Int.fdiv (Y.m1 - X.m1) 2) hs5 hq5 bw (by rw [w8]; omega) (by rw [w7, w8]; omega)) ?uB ?uF ?uX ?uN ?uT ?uk ?uin ?ud ?uu ?_; (case uB => k_asm); (case uF => k_asm); (case uX => k_asm); (case uN => k_asm); (case uT => k_asm); (case uk => first | exact rfl | assumption); (case ud => ktr_room); (case uu => ktr_units))
            case uin => exact (List.forall_mem_nil _)
            intro r9 l9 h9 tk9 F9 N9 f9 P9
            obtain ⟨⟨k9, e9⟩, e8⟩ := P9
            subst e9 e8
            clear f9
            rw [w9]
            dsimp only [List.nil_append] at N9
            (try dsimp only)
            repeat' ( (fail_if_success (with_reducible show UnrEnd _ _ _ _ _ _ _)); (fail_if_success (with_reducible show KswEnd _ _ _ _ _ _ _ _ _ _ _ _)); first | (k_unfold; (try dsimp only)) | (k_end; wrow_close) | k_extra "own" | walk1 | (dsimp only; first | k_extra "own" | walk1) | (leave1; walk_say "STEP leave1"; try dsimp only) | fail "no step")
            all_goals first
              | (refine unr_end2 (⟨rx.k, _, tot + wy, _⟩ : LoopL) (by k_asm) (by k_asm) (by k_mem) (List.forall_mem_cons.mpr ⟨by k_mem, List.forall_mem_cons.mpr ⟨by k_mem, List.forall_mem_cons.mpr ⟨by k_mem, (by (repeat' (first | with_reducible assumption | exact in_self | refine in_tail ?_)))⟩⟩⟩) ho (by kst_all) ⟨by rw [hrx], hTn⟩)
          · refine unr_end2 (⟨sk, ks, tot, kt⟩ : LoopL) (by k_asm) (by k_asm) (by k_mem) ?es ho (by kst_all) ?ep
            case es => exact (List.forall_mem_cons.mpr ⟨by k_mem, List.forall_mem_cons.mpr ⟨by k_mem, List.forall_mem_cons.mpr ⟨by k_mem, (by (repeat' (first | with_reducible assumption | exact in_self | refine in_tail ?_)))⟩⟩⟩)
            case ep =>
              rename rx.k = sk => heq
              exact ⟨by rw [hrx]; exact heq, hT⟩)
end
end Mine
theorem PySem.Challenge.cw_qj0008_01_holds : PySem.Challenge.rw_qj0008_01.Holds := by
  exact Mine.law_holds
