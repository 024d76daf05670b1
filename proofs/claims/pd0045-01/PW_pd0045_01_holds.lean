import PyProof.Rows.All
import Wide.All
import OpenK.AllK
import Wide.FinOn
import PySem.Challenge.RW_pd0045_01
set_option Elab.async false

section
open PySem PySem.W PyProof.Rows
namespace Mine
set_option maxRecDepth 100000
set_option maxHeartbeats 8000000
open_top hd for PySem.Challenge.rw_pd0045_01
end Mine
end

section
open PySem PySem.W PyProof.Rows PySem.Calls PySem.Spec
set_option maxRecDepth 100000
namespace Mine

structure Led (h₀ : Heap) (L : Addr) (h : Heap) (m : Str → Option Value) (news : List (Addr × Obj)) : Prop where
  fr : Fr h₀ L h m
  nw : News h₀ L h news
  nd : (news.map (·.1)).Nodup

inductive UpdAt (d : Addr) (o o' : Obj) : List (Addr × Obj) → List (Addr × Obj) → Prop where
  | head {r} : UpdAt d o o' ((d, o) :: r) ((d, o') :: r)
  | tail {p r r'} : UpdAt d o o' r r' → UpdAt d o o' (p :: r) (p :: r')

theorem UpdAt.split {d : Addr} {o o' : Obj} {l l' : List (Addr × Obj)} (u : UpdAt d o o' l l') : ∃ a b, l = a ++ (d, o) :: b ∧ l' = a ++ (d, o') :: b := by
  induction u with
  | head => exact ⟨[], _, rfl, rfl⟩
  | @tail p r r' _ ih => obtain ⟨a, b, e, e'⟩ := ih; exact ⟨p :: a, b, by rw [e, List.cons_append], by rw [e', List.cons_append]⟩

theorem Led.perm {h₀ h : Heap} {L : Addr} {m : Str → Option Value} {n n' : List (Addr × Obj)} (x : Led h₀ L h m n) (p : n.Perm n') : Led h₀ L h m n' :=
  ⟨x.fr, fun q hq => x.nw q (p.mem_iff.mpr hq), (p.map _).nodup_iff.mp x.nd⟩
theorem Led.sub {h₀ h : Heap} {L : Addr} {m : Str → Option Value} {n n' : List (Addr × Obj)} (x : Led h₀ L h m n) (p : n'.Sublist n) : Led h₀ L h m n' :=
  ⟨x.fr, fun q hq => x.nw q (p.subset hq), x.nd.sublist (p.map _)⟩
theorem Led.get {h₀ h : Heap} {L : Addr} {m : Str → Option Value} {n : List (Addr × Obj)} (x : Led h₀ L h m n) {a : Addr} {o : Obj} (hm : (a, o) ∈ n) : h.get? a = some o := (x.nw _ hm).1
theorem Led.lt {h₀ h : Heap} {L : Addr} {m : Str → Option Value} {n : List (Addr × Obj)} (x : Led h₀ L h m n) {p : Addr × Obj} (hm : p ∈ n) : p.1 < h.objs.size := Heap.lt_size (x.nw _ hm).1

theorem Led.more {h₀ h h' : Heap} {L : Addr} {m : Str → Option Value} {n : List (Addr × Obj)} {o : Obj} (x : Led h₀ L h m n) (hk : ∀ b o, h.get? b = some o → h'.get? b = some o) (ho : h'.get? h.objs.size = some o) : Led h₀ L h' m ((h.objs.size, o) :: n) := by
  refine ⟨x.fr.keeps hk, fun q hq => ?_, ?_⟩
  · rcases List.mem_cons.mp hq with rfl | hq
    · refine ⟨ho, Nat.ne_of_gt x.fr.ns.lt, ?_⟩
      cases e : h₀.get? h.objs.size with
      | none => rfl
      | some o' => exact absurd (Heap.lt_size (x.fr.keep _ _ e)) (Nat.lt_irrefl _)
    · exact ⟨hk _ _ (x.nw q hq).1, (x.nw q hq).2⟩
  · refine List.nodup_cons.mpr ⟨fun hm => ?_, x.nd⟩
    obtain ⟨p, hp, e⟩ := List.mem_map.mp hm
    exact absurd (x.lt hp) (by rw [e]; exact Nat.lt_irrefl _)
theorem Led.keeps {h₀ h h' : Heap} {L : Addr} {m : Str → Option Value} {n : List (Addr × Obj)} (x : Led h₀ L h m n) (hk : ∀ b o, h.get? b = some o → h'.get? b = some o) : Led h₀ L h' m n :=
  ⟨x.fr.keeps hk, fun q hq => ⟨hk _ _ (x.nw q hq).1, (x.nw q hq).2⟩, x.nd⟩
theorem Led.set {h₀ h h' : Heap} {L : Addr} {m m' : Str → Option Value} {n : List (Addr × Obj)} (x : Led h₀ L h m n) (hn : h'.Ns L m') (hs : Heap.SameBut L h h') : Led h₀ L h' m' n :=
  ⟨x.fr.set hn hs, x.nw.set hs, x.nd⟩
theorem Led.turn {h₀ h h' : Heap} {L d : Addr} {m : Str → Option Value} {n n' : List (Addr × Obj)} {o o' : Obj} (x : Led h₀ L h m n) (u : UpdAt d o o' n n') (hs : Heap.SameBut d h h') (ho : h'.get? d = some o') : Led h₀ L h' m n' := by
  obtain ⟨a, b, rfl, rfl⟩ := u.split
  have D := x.nw (d, o) (by simp)
  have nd := x.nd
  simp only [List.map_append, List.map_cons] at nd
  have nd' : (d :: (a.map (·.1) ++ b.map (·.1))).Nodup := (List.perm_middle.nodup_iff).mp nd
  have hne : ∀ p ∈ a ++ b, p.1 ≠ d := fun p hp e => (List.nodup_cons.mp nd').1 (by rw [← List.map_append]; exact List.mem_map.mpr ⟨p, hp, e⟩)
  refine ⟨⟨x.fr.ns.sameBut hs (Ne.symm D.2.1), fun b' x' q => (hs.2 b' fun z => ?_).trans (x.fr.keep b' x' q), x.fr.above⟩, fun p hp => ?_, by simpa using nd⟩
  · have := D.2.2; rw [← z, q] at this; cases this
  · rcases List.mem_append.mp hp with q | q
    · have P := x.nw p (List.mem_append_left _ q); exact ⟨(hs.2 _ (hne p (List.mem_append_left _ q))).trans P.1, P.2⟩
    · rcases List.mem_cons.mp q with rfl | q
      · exact ⟨ho, D.2⟩
      · have P := x.nw p (List.mem_append_right _ (.tail _ q)); exact ⟨(hs.2 _ (hne p (List.mem_append_right _ q))).trans P.1, P.2⟩

section
variable {prog : Program} {w : World} {A : Around} {s : Shared} {h₀ : Heap} {L : Addr} {m : Str → Option Value} {env : Env} {outer : List Env} {news : List (Addr × Obj)} {K : Frag} {p : Program} {loose : List Str} {mean : ExcName → Option Value} {mg mb : Str → Option Value}
    {R : Result → Shared → Prop} {name qual : Str} {params : Arguments} {body : List Stmt} {scope : Scope} {dV kV doc pm cdv ct oc : Value} {an od : Option Addr} {osl : Array (Option Value)} {f : Addr} {args : Args} {binds : List (Str × Value)}

theorem enterD (X : Led h₀ L s.heap m news) (KX : K.In h₀) (T : Top p loose mean mg mb h₀)
    (ho : K.lookup f = some ⟨oc, od, .func (fnOf name qual params body scope dV kV doc pm an cdv ct), osl⟩) (hcd : codeIn K cdv qual = true) (hroom : A.depth < recursionLimit)
    (hbind : BindsTo s (fnOf name qual params body scope dV kV doc pm an cdv ct) args binds) (hloc : ∀ y ∈ binds, scope.names.lookup y.1 = some .local)
    (h : ∀ oL h₁, TI.Caller h₀ L m oL → Led h₀ s.heap.objs.size h₁ (fun y => binds.reverse.lookup y) ((L, oL) :: news) →
      wpAny (model prog w) (A.deeper (envOf qual scope s.heap.objs.size f cdv)) (execs body (envOf qual scope s.heap.objs.size f cdv))
        (fun fl s' => R (.ok (.ret (match fl with | .ret v => v | _ => .none))) s') (fun _ _ => False)
        { s with heap := h₁, toks := s.toks + binds.length })
    (hco : scope.isCoroutine = false := by rfl) (hgen : scope.isGenerator = false := by rfl) (hk : scope.kind = .function := by rfl)
    (hcell : ∀ x ∈ scope.names, x.2 ≠ .cell := by decide) : codeAny (model prog w) A (.call (.ref f) args) R s := by
  have F := X.fr
  have KS := KX.keeps F.keep
  obtain ⟨oL, es, ep, hL, hLd, hLk, hLf⟩ := F.ns
  have hLt := Heap.lt_size hL
  refine codeAny_call_def (fd := fnOf name qual params body scope dV kV doc pm an cdv ct) (body := body) (binds := binds) hroom (KS _ _ ho) rfl (T.nolimit.keeps F.keep) (codeRec_of KS hcd) rfl hbind hcell hloc (fun h₁ hns hk₁ => ?_) hco hgen hk
  refine wpAny_mono (h oL h₁ ⟨fun h' sl e => ⟨_, es, ep, e, hLd, hLk, hLf⟩, ⟨es, ep, hLd⟩, F.above⟩ ⟨⟨hns, fun b o e => hk₁ b o (F.keep b o e), Nat.le_trans F.above (Nat.le_of_lt hLt)⟩, fun p hp => ?_, ?_⟩) (fun _ _ x => x) fun _ _ x => x.elim
  · rcases List.mem_cons.mp hp with rfl | hp
    · exact ⟨hk₁ _ _ hL, Nat.ne_of_lt hLt, Heap.get?_none_of_le F.above⟩
    · obtain ⟨h1, h2, h3⟩ := X.nw p hp
      exact ⟨hk₁ _ _ h1, Nat.ne_of_lt (Heap.lt_size h1), h3⟩
  · refine List.nodup_cons.mpr ⟨fun hm => ?_, X.nd⟩
    obtain ⟨p, hp, e⟩ := List.mem_map.mp hm
    exact (X.nw p hp).2.1 e
end
theorem Led.back {h₀ h : Heap} {L L' : Addr} {m m' : Str → Option Value} {oL : Obj} {sl : Array (Option Value)} {news : List (Addr × Obj)} (C : TI.Caller h₀ L m oL) (x : Led h₀ L' h m' ((L, { oL with slots := sl }) :: news)) : Led h₀ L h m news :=
  ⟨⟨C.ns _ sl (x.get (.head _)), x.fr.keep, C.above⟩, fun p hp => ⟨(x.nw p (.tail _ hp)).1, fun e => (List.nodup_cons.mp x.nd).1 (List.mem_map.mpr ⟨p, hp, e⟩), (x.nw p (.tail _ hp)).2.2⟩, (List.nodup_cons.mp x.nd).2⟩

theorem UpdAt.upd {d : Addr} {o o' : Obj} {l l' : List (Addr × Obj)} (u : UpdAt d o o' l l') (nd : (l.map (·.1)).Nodup) : Upd d o o' l l' := by
  induction u with
  | head => 
    rw [List.map_cons, List.nodup_cons] at nd
    exact .head fun p hp e => nd.1 (List.mem_map.mpr ⟨p, hp, e⟩)
  | @tail p r r' u ih =>
    rw [List.map_cons, List.nodup_cons] at nd
    refine .tail (fun e => nd.1 ?_) (ih nd.2)
    obtain ⟨a, b, rfl, _⟩ := u.split
    rw [e]; simp
theorem UpdAt.addrs {d : Addr} {o o' : Obj} {l l' : List (Addr × Obj)} (u : UpdAt d o o' l l') : l'.map (·.1) = l.map (·.1) := by
  obtain ⟨a, b, rfl, rfl⟩ := u.split
  simp
theorem Led.upd {h₀ h h' : Heap} {L d : Addr} {m : Str → Option Value} {n n' : List (Addr × Obj)} {o o' : Obj} (x : Led h₀ L h m n) (u : UpdAt d o o' n n') (F : Fr h₀ L h' m) (N : News h₀ L h' n') : Led h₀ L h' m n' :=
  ⟨F, N, by rw [u.addrs]; exact x.nd⟩

section
variable {prog : Program} {w : World} {A : Around} {E : Value → Shared → Prop} {s : Shared} {h₀ : Heap} {L D : Addr} {m : Str → Option Value} {env : Env} {news news' : List (Addr × Obj)}
theorem nameL {M : Model} {x : Str} {pos : Pos} {v : Value} {Q : Value → Shared → Prop} (X : Led h₀ env.locals s.heap m news) (hv : m x = some v) (h : Q v s)
    (hk : env.scope.kind = .function := by rfl) (hx : env.kindOf x = some .local := by rfl) (hd : (x == ("__debug__" : Str)) = false := by decide) :
    wpAny M A (eval (.Name x pos) env) Q E s := wpAny_Name (wpAny_loadName_local hk hx X.fr.ns hv h) hd
theorem storeL {M : Model} {x : Str} {v : Value} {Q : Unit → Shared → Prop} (X : Led h₀ env.locals s.heap m news)
    (h : ∀ h', Led h₀ env.locals h' (fun y => if y = x then some v else m y) news → Q () { s with heap := h', toks := s.toks + 1 })
    (hk : env.scope.kind = .function := by rfl) (hx : env.kindOf x = some .local := by rfl) : wpAny M A (storeName env x v) Q E s :=
  wpAny_storeName_local hx X.fr.ns (fun h' hn hs => h h' (X.set hn hs)) (by rw [hk]; rfl)
theorem newListL {M : Model} {vs : List Value} {Q : Value → Shared → Prop} (X : Led h₀ L s.heap m news)
    (h : ∀ a h', Led h₀ L h' m ((a, listOf vs.toArray 0) :: news) → Q (.ref a) { s with heap := h' }) (hsz : vs.length ≤ sizeLine) : wpAny M A (newList vs) Q E s :=
  newList_N X.fr X.nw (fun h' F' N' => h _ h' ⟨F', N', by
    refine List.nodup_cons.mpr ⟨fun hm => ?_, X.nd⟩
    obtain ⟨p, hp, e⟩ := List.mem_map.mp hm
    exact absurd (X.lt hp) (by rw [e]; exact Nat.lt_irrefl _)⟩) hsz
noncomputable abbrev tupOf (its : Array Value) (n : Nat) : Obj := { cls := .type "tuple", data := .seq its n }
theorem newTupleL {M : Model} {vs : List Value} {Q : Value → Shared → Prop} (X : Led h₀ L s.heap m news)
    (h : ∀ a h', Led h₀ L h' m ((a, tupOf vs.toArray 0) :: news) → Q (.ref a) { s with heap := h' }) (hsz : vs.length ≤ sizeLine) : wpAny M A (newTuple vs) Q E s :=
  newTuple_N X.fr X.nw (fun h' F' N' => h _ h' ⟨F', N', by
    refine List.nodup_cons.mpr ⟨fun hm => ?_, X.nd⟩
    obtain ⟨p, hp, e⟩ := List.mem_map.mp hm
    exact absurd (X.lt hp) (by rw [e]; exact Nat.lt_irrefl _)⟩) hsz
theorem appendL {its : Array Value} {n : Nat} {x : Value} {Q : Value → Shared → Prop} (X : Led h₀ L s.heap m news) (u : UpdAt D (listOf its n) (listOf (its.push x) (n + 1)) news news')
    (h : ∀ h', Led h₀ L h' m news' → Q .none { s with heap := h' }) (hsz : its.size ≤ sizeLine) : wpAny (model prog w) A (call (.builtin "list.append") [.ref D, x]) Q E s :=
  append_K X.fr X.nw (u.upd X.nd) (fun h' F N => h h' (X.upd u F N)) hsz
theorem popL {p : List Value} {y : Value} {n : Nat} {Q : Value → Shared → Prop} (X : Led h₀ L s.heap m news) (u : UpdAt D (listOf (p ++ [y]).toArray n) (listOf p.toArray (n + 1)) news news')
    (h : ∀ h', Led h₀ L h' m news' → Q y { s with heap := h' }) (hsz : p.length < sizeLine) : wpAny (model prog w) A (call (.builtin "list.pop") [.ref D]) Q E s :=
  kl_pop X.fr X.nw (p := p) (y := y) (by simpa using kpa_last y p) (u.upd X.nd) (by simp; omega) (fun h' F N => h h' (X.upd u F N))
theorem methL {its : Array Value} {n : Nat} {name : Str} {id : String} {pl : Sem Bool} {Q : Value × List Value → Shared → Prop} (X : Led h₀ L s.heap m news) (hm : (D, listOf its n) ∈ news) (slot : Slot "list" name id) (hty : typeOf (.builtin id) = pure (.type "method_descriptor"))
    (h : Q (.builtin id, [.ref D]) s) : wpAny (model prog w) A (getMethod (.ref D) name pl) Q E s := kf_method X.nw hm slot hty h
theorem isListL {its : Array Value} {n : Nat} (X : Led h₀ L s.heap m news) (hm : (D, listOf its n) ∈ news) : s.heap.IsList D its := ⟨_, X.get hm, rfl, n, rfl⟩
theorem truthL {its : Array Value} {n : Nat} {Q : Bool → Shared → Prop} (X : Led h₀ L s.heap m news) (hm : (D, listOf its n) ∈ news) (hz : its.size ≤ sizeLine) (h : Q (!its.isEmpty) { s with toks := s.toks + 1 + 1 }) : wpAny (model prog w) A (truthy (.ref D)) Q E s :=
  wpAny_truthy_list (isListL X hm) (by rw [sizeLine_eq] at hz; omega) h
end

theorem st_ne {m : Str → Option Value} {x y : Str} {v : Value} {r : Option Value} (h : m y = r) (hne : y ≠ x := by decide) : (fun z => if z = x then some v else m z) y = r := (if_neg hne).trans h
theorem st_eq {m : Str → Option Value} {x : Str} {v : Value} : (fun z => if z = x then some v else m z) x = some v := if_pos rfl

theorem clauseHit {prog : Program} {w : World} {A₀ : Around} {s' : Shared} {h₀ : Heap} {L a e : Addr} {m : Str → Option Value} {name : Str} {scope : Scope} {cd : Value} {news : List (Addr × Obj)} {K : Frag}
    {b₀ : Stmt} {suite : List Stmt} {pos np : Pos} {rest : List ExceptHandler} {Q : Flow → Shared → Prop} {X T' : String} {x : Str} {p : Program} {loose : List Str} {mean : ExcName → Option Value} {mg mb : Str → Option Value} {fl : Value}
    (H : TT.HeldNA h₀ L s'.heap m e X news fl) (KX : K.In h₀) (T : Top p loose mean mg mb h₀) (ex : nsIn K mainGlobals x = some none) (hv : bootBuiltins x = some (.type T'))
    (hexc : isSubtype (.type T') (.type "BaseException") = pure true) (hnt : isSubtype (.type ((Manifest.find? T').elim "type" fun y => y.metatype)) (.type "tuple") = pure false) (hsub : isSubtype (.type X) (.type T') = pure true)
    (k : ∀ h', Fr h₀ L h' m → News h₀ L h' news → wpAny (model prog w) ((A₀.deeper (envOf name scope L a cd)).mark (some (.ref e))) (execs (b₀ :: suite) (envOf name scope L a cd)) Q (fun _ _ => False) { s' with heap := h' })
    (hn : x ≠ "__name__" := by decide) (hk : scope.kind = .function := by rfl) (hxk : (envOf name scope L a cd).kindOf x = some .globalImplicit := by rfl) (hdb : (x == ("__debug__" : Str)) = false := by decide) :
    wpAny (model prog w) (A₀.deeper (envOf name scope L a cd)) (handleBy (.ref e) (envOf name scope L a cd) (.ExceptHandler (some (.Name x np)) none (b₀ :: suite) pos :: rest)) Q (fun _ _ => False) s' := by
  refine wpAny_handleBy_builtin (X := X) (T := T') (b := true) hexc hnt hsub (wpAny_passesOwnAt PassesOwnAt.never (nameX_B H.held.fr KX (topRead_of T) ex hv hn ⟨rfl, H.isA, ?_⟩ hk hxk hdb))
  rw [if_pos rfl]
  exact H.lands fun h' F' N' => wpAny_passesOwnAt PassesOwnAt.never (k h' F' N')

noncomputable abbrev vstr (p : Str × Tok) : Value := .str p.1 p.2
noncomputable abbrev SL (ts : List (Str × Tok)) (n : Nat) : Obj := listOf (ts.map vstr).toArray n
noncomputable def eqS (x : Str) : Value → Bool
  | .str y _ => y == x
  | _ => false
theorem eqS_gives {ts : List (Str × Tok)} {x : Str} {t : Tok} : ∀ y, y ∈ (ts.map vstr).toArray → MeetsSeq.EqGives y (.str x t) (eqS x y) := by
  intro y hy
  obtain ⟨p, _, rfl⟩ := List.mem_map.mp (List.mem_toArray.mp hy)
  exact eqGives_str p.1 x p.2 t
noncomputable def eraseS (x : Str) : List (Str × Tok) → List (Str × Tok)
  | [] => []
  | p :: r => if p.1 = x then r else p :: eraseS x r
theorem eraseS_same {x : Str} {p : Str × Tok} {r : List (Str × Tok)} (e : p.1 = x) : eraseS x (p :: r) = r := if_pos e
theorem eraseS_diff {x : Str} {p : Str × Tok} {r : List (Str × Tok)} (e : p.1 ≠ x) : eraseS x (p :: r) = p :: eraseS x r := if_neg e
theorem eraseS_spec {x : Str} : ∀ {ts : List (Str × Tok)}, x ∈ ts.map (·.1) → ∃ a p b, ts = a ++ p :: b ∧ p.1 = x ∧ (∀ q ∈ a, q.1 ≠ x) ∧ eraseS x ts = a ++ b
  | [], h => by simp at h
  | p :: r, h => by
    by_cases e : p.1 = x
    · exact ⟨[], p, r, rfl, e, (fun _ hq => nomatch hq), eraseS_same e⟩
    · have h' : x ∈ r.map (·.1) := by
        rcases List.mem_cons.mp h with q | q
        · exact absurd q.symm e
        · exact q
      obtain ⟨a, q, b, e1, e2, e3, e4⟩ := eraseS_spec h'
      refine ⟨p :: a, q, b, by rw [e1]; rfl, e2, fun z hz => ?_, by rw [eraseS_diff e, e4]; rfl⟩
      rcases List.mem_cons.mp hz with rfl | hz
      · exact e
      · exact e3 z hz
theorem eraseS_length {x : Str} {ts : List (Str × Tok)} (h : x ∈ ts.map (·.1)) : (eraseS x ts).length + 1 = ts.length := by
  obtain ⟨a, p, b, e1, _, _, e4⟩ := eraseS_spec h
  rw [e4, e1]; simp; omega
section
variable {prog : Program} {w : World} {A : Around} {E : Value → Shared → Prop} {s : Shared} {h₀ : Heap} {L D : Addr} {m : Str → Option Value} {env : Env} {news news' : List (Addr × Obj)}
theorem removeL {ts : List (Str × Tok)} {x : Str} {t : Tok} {n : Nat} {Q : Value → Shared → Prop} (X : Led h₀ L s.heap m news) (hin : x ∈ ts.map (·.1)) (u : UpdAt D (SL ts n) (SL (eraseS x ts) (n + 1)) news news')
    (hz : ts.length ≤ sizeLine) (h : ∀ h', Led h₀ L h' m news' → Q .none { s with heap := h' }) : wpAny (model prog w) A (call (.builtin "list.remove") [.ref D, .str x t]) Q E s := by
  obtain ⟨a, p, b, e1, e2, e3, e4⟩ := eraseS_spec hin
  have U := u.upd X.nd
  obtain ⟨pre, post, r1, r2, a', b'⟩ := U.split
  have z := X.nw (D, SL ts n) (by rw [r1]; exact List.mem_append.mpr (.inr (.head _)))
  have hz' : (ts.map vstr).toArray.size ≤ sizeLine := by simpa using hz
  have hj : a.length < (ts.map vstr).toArray.size := by rw [e1]; simp
  have hat : (ts.map vstr).toArray[a.length] = vstr p := by simp [e1]
  refine call_meets PySem.F.slot_list_remove ⟨_, z.1, rfl⟩ PySem.F.entry_list_remove (PySem.F.args_list_remove_2 _ _)
    (MeetsSeq.list_remove D (ts.map vstr).toArray n (.str x t) (eqS x) eqS_gives a.length hj (by rw [hat]; simp [eqS, e2]) (fun i hi hlt => ?_) hz')
    ⟨z.1, h _ ?_⟩
  · have hi' : i < ts.length := by simpa using hi
    have : (ts.map vstr).toArray[i] = vstr ts[i] := by simp
    rw [this]
    have h1 : ts[i] = a[i] := by simp only [e1]; rw [List.getElem_append_left hlt]
    rw [h1]
    have h2 := e3 a[i] (List.getElem_mem hlt)
    simpa [eqS] using h2
  · have hne : (ts.map vstr).toArray.size ≠ ((eraseS x ts).map vstr).toArray.size := by
      have := eraseS_length hin
      simp; omega
    refine X.upd u (X.fr.change (Heap.SameBut.update ..) z.2.1 z.2.2) ?_
    rw [r2]
    have N := X.nw
    rw [r1] at N
    refine kl_turn _ N a' b' ?_ hne.symm
    rw [e4, e1]
    apply Array.toList_inj.mp
    simp [List.eraseIdx_append_of_length_le]
theorem popSL {ts : List (Str × Tok)} {x : Str × Tok} {n : Nat} {Q : Value → Shared → Prop} (X : Led h₀ L s.heap m news) (u : UpdAt D (SL (ts ++ [x]) n) (SL ts (n + 1)) news news')
    (h : ∀ h', Led h₀ L h' m news' → Q (vstr x) { s with heap := h' }) (hsz : ts.length < sizeLine) : wpAny (model prog w) A (call (.builtin "list.pop") [.ref D]) Q E s := by
  have e : SL (ts ++ [x]) n = listOf (ts.map vstr ++ [vstr x]).toArray n := by simp [SL]
  rw [e] at u
  exact popL X u h (by simpa using hsz)
theorem appendSL {ts : List (Str × Tok)} {x : Str} {t : Tok} {n : Nat} {Q : Value → Shared → Prop} (X : Led h₀ L s.heap m news) (u : UpdAt D (SL ts n) (SL (ts ++ [(x, t)]) (n + 1)) news news')
    (h : ∀ h', Led h₀ L h' m news' → Q .none { s with heap := h' }) (hsz : ts.length ≤ sizeLine) : wpAny (model prog w) A (call (.builtin "list.append") [.ref D, .str x t]) Q E s := by
  have e : SL (ts ++ [(x, t)]) (n + 1) = listOf ((ts.map vstr).toArray.push (.str x t)) (n + 1) := by simp [SL]
  rw [e] at u
  exact appendL X u h (by simpa using hsz)
theorem removeMissL {ts : List (Str × Tok)} {x : Str} {t : Tok} {n : Nat} {Q : Value → Shared → Prop} (X : Led h₀ L s.heap m news) (hin : x ∉ ts.map (·.1)) (hm : (D, SL ts n) ∈ news) (hh : A.handled = none)
    (h : ∀ h' tk e, Heap.NewExc s.heap h' e "ValueError" → E (.ref e) { s with heap := h', toks := tk }) : wpAny (model prog w) A (call (.builtin "list.remove") [.ref D, .str x t]) Q E s := by
  have z := X.nw _ hm
  refine call_meets PySem.F.slot_list_remove ⟨_, z.1, rfl⟩ PySem.F.entry_list_remove (PySem.F.args_list_remove_2 _ _)
    (MeetsSeq.list_remove_none D (ts.map vstr).toArray n (.str x t) (eqS x) eqS_gives (fun i hi => ?_)) ⟨z.1, hh, h⟩
  have hi' : i < ts.length := by simpa using hi
  have : (ts.map vstr).toArray[i] = vstr ts[i] := by simp
  rw [this]
  have h2 : ts[i].1 ≠ x := fun e => hin (List.mem_map.mpr ⟨_, List.getElem_mem hi', e⟩)
  simpa [eqS] using h2
end
theorem lt0 {P : Nat → Prop} (j : Nat) (hj : j < 0) : P j := absurd hj (Nat.not_lt_zero j)
theorem ltS {n : Nat} {P : Nat → Prop} (h : ∀ j, j < n → P j) (hn : P n) (j : Nat) (hj : j < n + 1) : P j := (Nat.lt_succ_iff_lt_or_eq.mp hj).elim (h j) (fun e => e ▸ hn)
theorem at2 {α : Type} {j : Nat} {v : α} {C : Nat → α → Prop} {a b : α} (h0 : C 0 a) (h1 : C 1 b) (hj : j < 2) (hat : #[a, b][j]? = some v) : C j v := by
  revert hat
  refine ltS (P := fun j => #[a, b][j]? = some v → C j v) (ltS (P := fun j => #[a, b][j]? = some v → C j v) lt0 ?_) ?_ j hj
  · exact fun e => Option.some.inj e ▸ h0
  · exact fun e => Option.some.inj e ▸ h1
theorem zi (i : Nat) : (0 : Int) + (i : Int) = ((i : Nat) : Int) := Int.zero_add _
theorem oi (j : Nat) : (1 : Int) + (j : Int) = ((j + 1 : Nat) : Int) := Int.add_comm _ _
theorem nn0 {a : Int} {k : Nat} (h : a = (k : Int)) : 0 ≤ a := h ▸ Int.natCast_nonneg k
theorem nn1 {a : Int} {k : Nat} (h : a = (k : Int)) (hk : 1 ≤ k ∧ k ≤ 5) : 0 ≤ a - 1 := h ▸ Int.sub_nonneg_of_le (Int.ofNat_le.mpr hk.1)
theorem ns {i k : Nat} (h : i < k) (hk : k ≤ 1000) : ((i : Nat) : Int) < 2 ^ 63 := Int.lt_of_lt_of_le (Int.ofNat_lt.mpr (Nat.lt_of_lt_of_le h hk)) (by decide)
theorem ss0 {a : Int} {k : Nat} (h : a = (k : Int)) (hk : k ≤ 5) : a < 2 ^ 63 := h ▸ ns (Nat.lt_succ_of_le hk) (by decide)
theorem ss1 {a : Int} {k : Nat} (h : a = (k : Int)) (hk : 1 ≤ k ∧ k ≤ 5) : a - 1 < 2 ^ 63 := Int.lt_of_le_of_lt (Int.sub_le_self a (by decide)) (ss0 h hk.2)
theorem tt0 {a : Int} {k : Nat} (h : a = (k : Int)) : a.toNat = k := h ▸ Int.toNat_natCast k
theorem tt1 {a : Int} {k : Nat} (h : a = (k : Int)) (hk : 1 ≤ k ∧ k ≤ 5) : (a - 1).toNat = k - 1 := h ▸ Int.toNat_sub k 1
theorem kk1 {k : Nat} (hk : 1 ≤ k ∧ k ≤ 5) : k - 1 < 5 := Nat.lt_succ_of_le (Nat.sub_le_sub_right hk.2 1)
theorem kk5 {m k : Nat} (h : m ≤ k - 1) (hk : 1 ≤ k ∧ k ≤ 5) : m ≤ 5 := Nat.le_trans h (Nat.le_trans (Nat.sub_le _ _) hk.2)
theorem lt6 {m n : Nat} (h : m ≤ 5) (e : n = 6) : m < n := e ▸ Nat.lt_succ_of_le h
theorem dn {d a b k : Nat} (h : d + a < k) (hb : b ≤ a) : d + b < k := Nat.lt_of_le_of_lt (Nat.add_le_add_left hb d) h
theorem dnU {d d' a b c k : Nat} (e : d' = d + c) (h : d + a < k) (hb : c + b ≤ a) : d' + b < k := by subst e; rw [Nat.add_assoc]; exact dn h hb
theorem dn0 {d a k : Nat} (h : d + a < k) : d < k := Nat.lt_of_le_of_lt (Nat.le_add_right d a) h
theorem len5 {α β : Type} {l : List α} {m : List β} {f : α → β} {n : Nat} (h : l.map f = m) (e : m.length = n) : l.length = n := by rw [← e, ← h, List.length_map]
theorem len5i {α β γ : Type} {l : List α} {m : List γ} {f : α → β} {g : γ → β} {n : Nat} (h : l.map f = m.map g) (e : m.length ≤ n) : l.length ≤ n := by
  have := congrArg List.length h
  rw [List.length_map, List.length_map] at this
  exact Nat.le_trans (Nat.le_of_eq this) e
theorem Led.gen1 {G : Prop} {h₀ h : Heap} {L : Addr} {m : Str → Option Value} {nw : List (Addr × Obj)} {x1 : Str} {v1 : Value} (X : Led h₀ L h m nw) (h1 : m x1 = some v1)
    (k : ∀ m' : Str → Option Value, Led h₀ L h m' nw → m' x1 = some v1 → G) : G := k m X h1
theorem Led.gen2 {G : Prop} {h₀ h : Heap} {L : Addr} {m : Str → Option Value} {nw : List (Addr × Obj)} {x1 : Str} {v1 : Value} {x2 : Str} {v2 : Value} (X : Led h₀ L h m nw) (h1 : m x1 = some v1) (h2 : m x2 = some v2)
    (k : ∀ m' : Str → Option Value, Led h₀ L h m' nw → m' x1 = some v1 → m' x2 = some v2 → G) : G := k m X h1 h2
theorem Led.gen3 {G : Prop} {h₀ h : Heap} {L : Addr} {m : Str → Option Value} {nw : List (Addr × Obj)} {x1 : Str} {v1 : Value} {x2 : Str} {v2 : Value} {x3 : Str} {v3 : Value} (X : Led h₀ L h m nw) (h1 : m x1 = some v1) (h2 : m x2 = some v2) (h3 : m x3 = some v3)
    (k : ∀ m' : Str → Option Value, Led h₀ L h m' nw → m' x1 = some v1 → m' x2 = some v2 → m' x3 = some v3 → G) : G := k m X h1 h2 h3
theorem Led.gen4 {G : Prop} {h₀ h : Heap} {L : Addr} {m : Str → Option Value} {nw : List (Addr × Obj)} {x1 : Str} {v1 : Value} {x2 : Str} {v2 : Value} {x3 : Str} {v3 : Value} {x4 : Str} {v4 : Value} (X : Led h₀ L h m nw) (h1 : m x1 = some v1) (h2 : m x2 = some v2) (h3 : m x3 = some v3) (h4 : m x4 = some v4)
    (k : ∀ m' : Str → Option Value, Led h₀ L h m' nw → m' x1 = some v1 → m' x2 = some v2 → m' x3 = some v3 → m' x4 = some v4 → G) : G := k m X h1 h2 h3 h4
theorem Led.gen5 {G : Prop} {h₀ h : Heap} {L : Addr} {m : Str → Option Value} {nw : List (Addr × Obj)} {x1 : Str} {v1 : Value} {x2 : Str} {v2 : Value} {x3 : Str} {v3 : Value} {x4 : Str} {v4 : Value} {x5 : Str} {v5 : Value} (X : Led h₀ L h m nw) (h1 : m x1 = some v1) (h2 : m x2 = some v2) (h3 : m x3 = some v3) (h4 : m x4 = some v4) (h5 : m x5 = some v5)
    (k : ∀ m' : Str → Option Value, Led h₀ L h m' nw → m' x1 = some v1 → m' x2 = some v2 → m' x3 = some v3 → m' x4 = some v4 → m' x5 = some v5 → G) : G := k m X h1 h2 h3 h4 h5
theorem Led.gen6 {G : Prop} {h₀ h : Heap} {L : Addr} {m : Str → Option Value} {nw : List (Addr × Obj)} {x1 : Str} {v1 : Value} {x2 : Str} {v2 : Value} {x3 : Str} {v3 : Value} {x4 : Str} {v4 : Value} {x5 : Str} {v5 : Value} {x6 : Str} {v6 : Value} (X : Led h₀ L h m nw) (h1 : m x1 = some v1) (h2 : m x2 = some v2) (h3 : m x3 = some v3) (h4 : m x4 = some v4) (h5 : m x5 = some v5) (h6 : m x6 = some v6)
    (k : ∀ m' : Str → Option Value, Led h₀ L h m' nw → m' x1 = some v1 → m' x2 = some v2 → m' x3 = some v3 → m' x4 = some v4 → m' x5 = some v5 → m' x6 = some v6 → G) : G := k m X h1 h2 h3 h4 h5 h6
theorem ex1 {α1 : Type} {P : α1 → Prop} {G : Prop} (h : ∃ a1, P a1) (k : ∀ a1, P a1 → G) : G :=
  h.elim fun a1 r1 => k a1 r1
theorem ex2 {α1 α2 : Type} {P : α1 → α2 → Prop} {G : Prop} (h : ∃ a1 a2, P a1 a2) (k : ∀ a1 a2, P a1 a2 → G) : G :=
  h.elim fun a1 r1 => r1.elim fun a2 r2 => k a1 a2 r2
theorem ex3 {α1 α2 α3 : Type} {P : α1 → α2 → α3 → Prop} {G : Prop} (h : ∃ a1 a2 a3, P a1 a2 a3) (k : ∀ a1 a2 a3, P a1 a2 a3 → G) : G :=
  h.elim fun a1 r1 => r1.elim fun a2 r2 => r2.elim fun a3 r3 => k a1 a2 a3 r3
theorem ex6 {α1 α2 α3 α4 α5 α6 : Type} {P : α1 → α2 → α3 → α4 → α5 → α6 → Prop} {G : Prop} (h : ∃ a1 a2 a3 a4 a5 a6, P a1 a2 a3 a4 a5 a6) (k : ∀ a1 a2 a3 a4 a5 a6, P a1 a2 a3 a4 a5 a6 → G) : G :=
  h.elim fun a1 r1 => r1.elim fun a2 r2 => r2.elim fun a3 r3 => r3.elim fun a4 r4 => r4.elim fun a5 r5 => r5.elim fun a6 r6 => k a1 a2 a3 a4 a5 a6 r6
theorem ex7 {α1 α2 α3 α4 α5 α6 α7 : Type} {P : α1 → α2 → α3 → α4 → α5 → α6 → α7 → Prop} {G : Prop} (h : ∃ a1 a2 a3 a4 a5 a6 a7, P a1 a2 a3 a4 a5 a6 a7) (k : ∀ a1 a2 a3 a4 a5 a6 a7, P a1 a2 a3 a4 a5 a6 a7 → G) : G :=
  h.elim fun a1 r1 => r1.elim fun a2 r2 => r2.elim fun a3 r3 => r3.elim fun a4 r4 => r4.elim fun a5 r5 => r5.elim fun a6 r6 => r6.elim fun a7 r7 => k a1 a2 a3 a4 a5 a6 a7 r7
theorem and3 {P1 P2 P3 G : Prop} (h : P1 ∧ P2 ∧ P3) (k : P1 → P2 → P3 → G) : G :=
  h.elim fun h1 r1 => r1.elim fun h2 h3 => k h1 h2 h3
theorem and4 {P1 P2 P3 P4 G : Prop} (h : P1 ∧ P2 ∧ P3 ∧ P4) (k : P1 → P2 → P3 → P4 → G) : G :=
  h.elim fun h1 r1 => r1.elim fun h2 r2 => r2.elim fun h3 h4 => k h1 h2 h3 h4
theorem and5 {P1 P2 P3 P4 P5 G : Prop} (h : P1 ∧ P2 ∧ P3 ∧ P4 ∧ P5) (k : P1 → P2 → P3 → P4 → P5 → G) : G :=
  h.elim fun h1 r1 => r1.elim fun h2 r2 => r2.elim fun h3 r3 => r3.elim fun h4 h5 => k h1 h2 h3 h4 h5
theorem and6 {P1 P2 P3 P4 P5 P6 G : Prop} (h : P1 ∧ P2 ∧ P3 ∧ P4 ∧ P5 ∧ P6) (k : P1 → P2 → P3 → P4 → P5 → P6 → G) : G :=
  h.elim fun h1 r1 => r1.elim fun h2 r2 => r2.elim fun h3 r3 => r3.elim fun h4 r4 => r4.elim fun h5 h6 => k h1 h2 h3 h4 h5 h6
theorem and7 {P1 P2 P3 P4 P5 P6 P7 G : Prop} (h : P1 ∧ P2 ∧ P3 ∧ P4 ∧ P5 ∧ P6 ∧ P7) (k : P1 → P2 → P3 → P4 → P5 → P6 → P7 → G) : G :=
  h.elim fun h1 r1 => r1.elim fun h2 r2 => r2.elim fun h3 r3 => r3.elim fun h4 r4 => r4.elim fun h5 r5 => r5.elim fun h6 h7 => k h1 h2 h3 h4 h5 h6 h7
theorem and12 {P1 P2 P3 P4 P5 P6 P7 P8 P9 P10 P11 P12 G : Prop} (h : P1 ∧ P2 ∧ P3 ∧ P4 ∧ P5 ∧ P6 ∧ P7 ∧ P8 ∧ P9 ∧ P10 ∧ P11 ∧ P12) (k : P1 → P2 → P3 → P4 → P5 → P6 → P7 → P8 → P9 → P10 → P11 → P12 → G) : G :=
  h.elim fun h1 r1 => r1.elim fun h2 r2 => r2.elim fun h3 r3 => r3.elim fun h4 r4 => r4.elim fun h5 r5 => r5.elim fun h6 r6 => r6.elim fun h7 r7 => r7.elim fun h8 r8 => r8.elim fun h9 r9 => r9.elim fun h10 r10 => r10.elim fun h11 h12 => k h1 h2 h3 h4 h5 h6 h7 h8 h9 h10 h11 h12
theorem ex1a3 {α1 : Type} {P1 P2 P3 : α1 → Prop} {G : Prop} (h : ∃ a1, P1 a1 ∧ P2 a1 ∧ P3 a1) (k : ∀ a1, P1 a1 → P2 a1 → P3 a1 → G) : G :=
  ex1 h fun a1 r => and3 r (k a1)
theorem ex2a4 {α1 α2 : Type} {P1 P2 P3 P4 : α1 → α2 → Prop} {G : Prop} (h : ∃ a1 a2, P1 a1 a2 ∧ P2 a1 a2 ∧ P3 a1 a2 ∧ P4 a1 a2) (k : ∀ a1 a2, P1 a1 a2 → P2 a1 a2 → P3 a1 a2 → P4 a1 a2 → G) : G :=
  ex2 h fun a1 a2 r => and4 r (k a1 a2)
theorem ex2a5 {α1 α2 : Type} {P1 P2 P3 P4 P5 : α1 → α2 → Prop} {G : Prop} (h : ∃ a1 a2, P1 a1 a2 ∧ P2 a1 a2 ∧ P3 a1 a2 ∧ P4 a1 a2 ∧ P5 a1 a2) (k : ∀ a1 a2, P1 a1 a2 → P2 a1 a2 → P3 a1 a2 → P4 a1 a2 → P5 a1 a2 → G) : G :=
  ex2 h fun a1 a2 r => and5 r (k a1 a2)
theorem ex3a7 {α1 α2 α3 : Type} {P1 P2 P3 P4 P5 P6 P7 : α1 → α2 → α3 → Prop} {G : Prop} (h : ∃ a1 a2 a3, P1 a1 a2 a3 ∧ P2 a1 a2 a3 ∧ P3 a1 a2 a3 ∧ P4 a1 a2 a3 ∧ P5 a1 a2 a3 ∧ P6 a1 a2 a3 ∧ P7 a1 a2 a3) (k : ∀ a1 a2 a3, P1 a1 a2 a3 → P2 a1 a2 a3 → P3 a1 a2 a3 → P4 a1 a2 a3 → P5 a1 a2 a3 → P6 a1 a2 a3 → P7 a1 a2 a3 → G) : G :=
  ex3 h fun a1 a2 a3 r => and7 r (k a1 a2 a3)
theorem ex6a6 {α1 α2 α3 α4 α5 α6 : Type} {P1 P2 P3 P4 P5 P6 : α1 → α2 → α3 → α4 → α5 → α6 → Prop} {G : Prop} (h : ∃ a1 a2 a3 a4 a5 a6, P1 a1 a2 a3 a4 a5 a6 ∧ P2 a1 a2 a3 a4 a5 a6 ∧ P3 a1 a2 a3 a4 a5 a6 ∧ P4 a1 a2 a3 a4 a5 a6 ∧ P5 a1 a2 a3 a4 a5 a6 ∧ P6 a1 a2 a3 a4 a5 a6) (k : ∀ a1 a2 a3 a4 a5 a6, P1 a1 a2 a3 a4 a5 a6 → P2 a1 a2 a3 a4 a5 a6 → P3 a1 a2 a3 a4 a5 a6 → P4 a1 a2 a3 a4 a5 a6 → P5 a1 a2 a3 a4 a5 a6 → P6 a1 a2 a3 a4 a5 a6 → G) : G :=
  ex6 h fun a1 a2 a3 a4 a5 a6 r => and6 r (k a1 a2 a3 a4 a5 a6)
theorem ex7a12 {α1 α2 α3 α4 α5 α6 α7 : Type} {P1 P2 P3 P4 P5 P6 P7 P8 P9 P10 P11 P12 : α1 → α2 → α3 → α4 → α5 → α6 → α7 → Prop} {G : Prop} (h : ∃ a1 a2 a3 a4 a5 a6 a7, P1 a1 a2 a3 a4 a5 a6 a7 ∧ P2 a1 a2 a3 a4 a5 a6 a7 ∧ P3 a1 a2 a3 a4 a5 a6 a7 ∧ P4 a1 a2 a3 a4 a5 a6 a7 ∧ P5 a1 a2 a3 a4 a5 a6 a7 ∧ P6 a1 a2 a3 a4 a5 a6 a7 ∧ P7 a1 a2 a3 a4 a5 a6 a7 ∧ P8 a1 a2 a3 a4 a5 a6 a7 ∧ P9 a1 a2 a3 a4 a5 a6 a7 ∧ P10 a1 a2 a3 a4 a5 a6 a7 ∧ P11 a1 a2 a3 a4 a5 a6 a7 ∧ P12 a1 a2 a3 a4 a5 a6 a7) (k : ∀ a1 a2 a3 a4 a5 a6 a7, P1 a1 a2 a3 a4 a5 a6 a7 → P2 a1 a2 a3 a4 a5 a6 a7 → P3 a1 a2 a3 a4 a5 a6 a7 → P4 a1 a2 a3 a4 a5 a6 a7 → P5 a1 a2 a3 a4 a5 a6 a7 → P6 a1 a2 a3 a4 a5 a6 a7 → P7 a1 a2 a3 a4 a5 a6 a7 → P8 a1 a2 a3 a4 a5 a6 a7 → P9 a1 a2 a3 a4 a5 a6 a7 → P10 a1 a2 a3 a4 a5 a6 a7 → P11 a1 a2 a3 a4 a5 a6 a7 → P12 a1 a2 a3 a4 a5 a6 a7 → G) : G :=
  ex7 h fun a1 a2 a3 a4 a5 a6 a7 r => and12 r (k a1 a2 a3 a4 a5 a6 a7)
theorem and10 {P1 P2 P3 P4 P5 P6 P7 P8 P9 P10 G : Prop} (h : P1 ∧ P2 ∧ P3 ∧ P4 ∧ P5 ∧ P6 ∧ P7 ∧ P8 ∧ P9 ∧ P10) (k : P1 → P2 → P3 → P4 → P5 → P6 → P7 → P8 → P9 → P10 → G) : G :=
  h.elim fun h1 r1 => r1.elim fun h2 r2 => r2.elim fun h3 r3 => r3.elim fun h4 r4 => r4.elim fun h5 r5 => r5.elim fun h6 r6 => r6.elim fun h7 r7 => r7.elim fun h8 r8 => r8.elim fun h9 h10 => k h1 h2 h3 h4 h5 h6 h7 h8 h9 h10
theorem ex7a10 {α1 α2 α3 α4 α5 α6 α7 : Type} {P1 P2 P3 P4 P5 P6 P7 P8 P9 P10 : α1 → α2 → α3 → α4 → α5 → α6 → α7 → Prop} {G : Prop} (h : ∃ a1 a2 a3 a4 a5 a6 a7, P1 a1 a2 a3 a4 a5 a6 a7 ∧ P2 a1 a2 a3 a4 a5 a6 a7 ∧ P3 a1 a2 a3 a4 a5 a6 a7 ∧ P4 a1 a2 a3 a4 a5 a6 a7 ∧ P5 a1 a2 a3 a4 a5 a6 a7 ∧ P6 a1 a2 a3 a4 a5 a6 a7 ∧ P7 a1 a2 a3 a4 a5 a6 a7 ∧ P8 a1 a2 a3 a4 a5 a6 a7 ∧ P9 a1 a2 a3 a4 a5 a6 a7 ∧ P10 a1 a2 a3 a4 a5 a6 a7) (k : ∀ a1 a2 a3 a4 a5 a6 a7, P1 a1 a2 a3 a4 a5 a6 a7 → P2 a1 a2 a3 a4 a5 a6 a7 → P3 a1 a2 a3 a4 a5 a6 a7 → P4 a1 a2 a3 a4 a5 a6 a7 → P5 a1 a2 a3 a4 a5 a6 a7 → P6 a1 a2 a3 a4 a5 a6 a7 → P7 a1 a2 a3 a4 a5 a6 a7 → P8 a1 a2 a3 a4 a5 a6 a7 → P9 a1 a2 a3 a4 a5 a6 a7 → P10 a1 a2 a3 a4 a5 a6 a7 → G) : G :=
  ex7 h fun a1 a2 a3 a4 a5 a6 a7 r => and10 r (k a1 a2 a3 a4 a5 a6 a7)
end Mine
end

section
open PySem PySem.W PyProof.Rows PySem.Calls PySem.Spec
set_option linter.unusedVariables false
namespace Mine
theorem runs_toks {M : Model} {Γ : PySem.Ctx} {p : Pos} {t : Sem PySem.Fin} {fs : List Frame} {s s' : Shared} {e : End} (h : Runs M Γ p t fs s e s') : s.toks ≤ s'.toks := by
  induction h <;> first | exact Nat.le_refl _ | assumption | (rename_i h1 h2; exact Nat.le_trans h1 h2) | (rename_i h1; exact Nat.le_of_succ_le h1)
theorem wakes_toks {M : Model} {Γ : PySem.Ctx} {p : Pos} {g : Nat} {r : Resume} {s s' : Shared} {res : GenResult} (h : Wakes M Γ p g r s res s') : s.toks ≤ s'.toks := by
  unfold Wakes at h
  split at h
  · exact h.elim
  · split at h
    · obtain ⟨e₁, s₁, hr, _, _, rfl⟩ := h
      have := runs_toks hr; exact this
    · rw [h.2]; exact Nat.le_refl _
    · rw [h.2]; exact Nat.le_refl _
  · obtain ⟨e₁, s₁, hr, _, _, rfl⟩ := h
    have := runs_toks hr; exact this
  · exact Nat.le_of_eq (congrArg Shared.toks h.2.symm)
  · exact Nat.le_of_eq (congrArg Shared.toks h.2.symm)
theorem wp_toks {α : Type} {M : Model} {Γ : PySem.Ctx} (t : Sem α) (Q : α → Pos → Shared → Prop) (E : Value → Pos → Shared → Prop) : ∀ (p : Pos) (s : Shared), Sem.wp M Γ t Q E p s → Sem.wp M Γ t (fun a p s' => s.toks ≤ s'.toks ∧ Q a p s') (fun e p s' => s.toks ≤ s'.toks ∧ E e p s') p s := by
  have key : ∀ (p : Pos) (s s₀ : Shared), s₀.toks ≤ s.toks → Sem.wp M Γ t Q E p s → Sem.wp M Γ t (fun a p s' => s₀.toks ≤ s'.toks ∧ Q a p s') (fun e p s' => s₀.toks ≤ s'.toks ∧ E e p s') p s := by
    induction t with
    | «pure» a => intro p s s₀ hs h; rw [Sem.wp] at h ⊢; exact ⟨hs, h⟩
    | raise e => intro p s s₀ hs h; rw [Sem.wp] at h ⊢; exact ⟨hs, h⟩
    | load a part k ih => intro p s s₀ hs h; rw [Sem.wp] at h ⊢; obtain ⟨o, ho, h⟩ := h; exact ⟨o, ho, ih _ _ _ _ hs h⟩
    | update a part f k ih => intro p s s₀ hs h; rw [Sem.wp] at h ⊢; exact ⟨h.1, ih _ _ _ _ hs h.2⟩
    | fresh k ih => intro p s s₀ hs h; rw [Sem.wp] at h ⊢; exact ih _ _ _ _ (Nat.le_succ_of_le hs) h
    | choose src n k ih => intro p s s₀ hs h; rw [Sem.wp] at h ⊢; exact ⟨h.1, ih _ _ _ _ hs h.2⟩
    | call c h' g l k ih =>
      intro p s s₀ hs h; rw [Sem.wp] at h ⊢
      obtain ⟨r, s', hr, h⟩ := h
      exact ⟨r, s', hr, ih _ _ _ _ (Nat.le_trans hs (runs_toks hr)) h⟩
    | genState g k ih => intro p s s₀ hs h; rw [Sem.wp] at h ⊢; obtain ⟨o, ho, h⟩ := h; exact ⟨o, ho, ih _ _ _ _ hs h⟩
    | resume g r l k ih => intro p s s₀ hs h; rw [Sem.wp] at h ⊢; obtain ⟨res, s', hw, h⟩ := h; exact ⟨res, s', hw, ih _ _ _ _ (Nat.le_trans hs (wakes_toks hw)) h⟩
    | _ => intro p s s₀ hs h; first | (rw [Sem.wp] at h; exact h.elim) | (rename_i ih; rw [Sem.wp] at h ⊢; exact ih _ _ _ _ hs h)
  exact fun p s => key p s s (Nat.le_refl _)
theorem wpAny_toks {α : Type} {M : Model} {A : Around} {t : Sem α} {Q : α → Shared → Prop} {E : Value → Shared → Prop} {s : Shared} (h : wpAny M A t Q E s) : wpAny M A t (fun a s' => s.toks ≤ s'.toks ∧ Q a s') (fun e s' => s.toks ≤ s'.toks ∧ E e s') s :=
  fun Γ p hΓ => wp_toks t _ _ p s (h Γ p hΓ)
end Mine
end

section
open PySem PySem.W PyProof.Rows PySem.Calls PySem.Spec
set_option maxRecDepth 100000
set_option maxHeartbeats 4000000
namespace Mine
noncomputable def uldR : List (Str × Tok) → List (Str × Tok) → List (Str × Tok) → List (Str × Tok) × List (Str × Tok)
  | [], ac, mis => (mis, ac)
  | x :: r, ac, mis => if x.1 ∈ ac.map (·.1) then uldR r (eraseS x.1 ac) mis else uldR r ac (mis ++ [x])

theorem uldR_in {x : Str × Tok} {r ac mis : List (Str × Tok)} (h : x.1 ∈ ac.map (·.1)) : uldR (x :: r) ac mis = uldR r (eraseS x.1 ac) mis := if_pos h
theorem uldR_out {x : Str × Tok} {r ac mis : List (Str × Tok)} (h : x.1 ∉ ac.map (·.1)) : uldR (x :: r) ac mis = uldR r ac (mis ++ [x]) := if_neg h
theorem uld_call {w : World} {A : Around} {h₀ : Heap} {L : Addr} {m : Str → Option Value} {env : Env} {outer : List Env} {p : Program} {loose : List Str} {mean : ExcName → Option Value} {mg mb : Str → Option Value} {s : Shared} {Q E : Value → Shared → Prop}
   {ex ac : Addr} {xs ys : List (Str × Tok)} {ne na : Nat} {rest frs : List (Addr × Obj)}
   (X : Led h₀ L s.heap m ((ex, SL xs ne) :: (ac, SL ys na) :: (rest ++ frs))) (KX : (hd.heap_39 w.params).In h₀) (T : Top p loose mean mg mb h₀)
   (hA : A.frames = some (env :: outer)) (hf : env.frame = some L) (hke : env.scope.kind = .function) (Fs : TI.Frs outer frs) (hh : A.handled = none) (hroom : A.depth < recursionLimit)
   (hx : xs.length ≤ 1000) (hy : ys.length ≤ 1000)
   (h : ∀ tup mis h' tk' n' na' frs', TI.SameUp frs frs' → TI.Frs outer frs' → Led h₀ L h' m ((tup, tupOf #[.ref mis, .ref ac] 0) :: (mis, SL (uldR xs.reverse ys []).1 n') :: (ac, SL (uldR xs.reverse ys []).2 na') :: (rest ++ frs')) → Q (.ref tup) { s with heap := h', toks := tk' }) :
   wpAny (model PySem.Challenge.rw_pd0045_01.prog w) A (call (.ref 28) [.ref ex, .ref ac]) Q E s := by
  have hfill : (hd.heap_39 w.params).length = (hd.heap_39 w.params).length ∧ PySem.Challenge.rw_pd0045_01.foot = PySem.Challenge.rw_pd0045_01.foot := by k_fill; exact ⟨rfl, rfl⟩
  clear hfill
  refine wpAny_call ?_
  refine enterD X KX T (by k_is) (by k_is) hroom (BindsTo.of_eq rfl) (locs rfl) ?_
  intro oL h₁ C X1
  have X2 : Led h₀ s.heap.objs.size h₁ _ ((ex, SL xs ne) :: (ac, SL ys na) :: (rest ++ (L, oL) :: frs)) := X1.perm (by
    refine (List.Perm.swap _ _ _).trans (.cons _ ((List.Perm.swap _ _ _).trans (.cons _ ?_)))
    exact List.perm_middle.symm)
  clear X1
  refine wpAny_execs_cons (wpAny_Assign_Name ?_)
  refine List_ (spliced_none ?_)
  refine newListL X2 (fun mis h₂ X3 => ?_) (by decide)
  refine storeL X3 (fun h₃ X4 => ?_)
  dsimp only
  refine wpAny_execs_cons ?_
  have hFs : TI.Frs (env :: outer) ((L, oL) :: frs) := ⟨by rw [hke]; decide, hf, C.dict, Fs⟩
  have X5 : Led h₀ s.heap.objs.size h₃ _ ((ex, SL xs ne) :: (ac, SL ys na) :: (mis, SL [] 0) :: (rest ++ (L, oL) :: frs)) := X4.perm ((List.Perm.swap _ _ _).trans (.cons _ (List.Perm.swap _ _ _)))
  clear X4 X3 X2
  obtain ⟨J, hJ⟩ : ∃ J : Nat → (Str → Option Value) → List (Addr × Obj) → Prop, J = (fun n m₁ news₁ => ∃ rem ac' mis' e1 e2 e3 frs₁, (news₁.map (·.1)).Nodup ∧ news₁ = (ex, SL rem e1) :: (ac, SL ac' e2) :: (mis, SL mis' e3) :: (rest ++ frs₁) ∧ TI.SameUp ((L, oL) :: frs) frs₁ ∧ rem.length = n
      ∧ uldR rem.reverse ac' mis' = uldR xs.reverse ys [] ∧ m₁ "expected" = some (.ref ex) ∧ m₁ "actual" = some (.ref ac) ∧ m₁ "missing" = some (.ref mis) ∧ rem.length + mis'.length ≤ xs.length ∧ ac'.length ≤ ys.length) := ⟨_, rfl⟩
  refine While_inv J
    (n₀ := xs.length) X5.fr X5.nw (by rw [hJ]; exact ⟨xs, ys, [], ne, na, 0, _, X5.nd, rfl, TI.SameUp.refl _, rfl, rfl, rfl, rfl, rfl, by simp, Nat.le_refl _⟩) ?_ PassesOwn.never
  clear X5
  intro n m₁ news₁ h₄ tk₄ F4 N4 hj
  rw [hJ] at hj
  revert F4 N4
  refine ex7a10 hj ?_
  clear hj
  rintro rem ac' mis' e1 e2 e3 frs₁ nd4 rfl SU hn hu m1 m2 m3 l1 l2 F4 N4
  have X6 : Led h₀ s.heap.objs.size h₄ m₁ _ := ⟨F4, N4, nd4⟩
  have hFs1 := hFs.up SU
  clear F4 N4 nd4
  refine wpAny_isTrue_value (nameL X6 m1 ?_)
  refine truthL X6 (.head _) (by rw [sizeLine_eq]; simp; omega) ?_
  rcases List.eq_nil_or_concat rem with hr | ⟨r', x, hr⟩
  · subst hr
    refine ite_neg (by simp) ?_
    dsimp only
    refine wpAny_execs_cons (wpAny_Return_some (Tuple_ ?_))
    refine spliced_more (nameL X6 m3 ?_)
    refine spliced_more (nameL X6 m2 ?_)
    refine spliced_none ?_
    refine newTupleL X6 (fun tup h₅ X7 => ?_) (by rw [sizeLine_eq]; simp)
    dsimp only
    simp only [List.reverse_nil, uldR] at hu
    cases frs₁ with
    | nil => exact SU.elim
    | cons q frs₂ =>
      obtain ⟨q1, ⟨sl, q2⟩, SU2⟩ := SU
      have hq : q = (L, { oL with slots := sl }) := by
        cases q; dsimp only at q1 q2; rw [q1, q2]
      subst hq
      have X8 : Led h₀ s.heap.objs.size h₅ m₁ ((L, { oL with slots := sl }) :: (tup, tupOf #[.ref mis, .ref ac] 0) :: (mis, SL mis' e3) :: (ac, SL ac' e2) :: (rest ++ frs₂)) := by
        refine (X7.sub (n' := (tup, tupOf #[.ref mis, .ref ac] 0) :: (ac, SL ac' e2) :: (mis, SL mis' e3) :: (rest ++ (L, { oL with slots := sl }) :: frs₂)) (.cons_cons _ (.cons _ (List.Sublist.refl _)))).perm ?_
        refine (List.Perm.cons _ (List.Perm.swap _ _ _)).trans ?_
        exact (List.perm_middle (l₁ := (tup, tupOf #[.ref mis, .ref ac] 0) :: (mis, SL mis' e3) :: (ac, SL ac' e2) :: rest))
      have e1 : mis' = (uldR xs.reverse ys []).1 := by rw [← hu]
      have e2 : ac' = (uldR xs.reverse ys []).2 := by rw [← hu]
      subst e1 e2
      exact h tup mis h₅ _ _ _ frs₂ SU2 hFs1.2.2.2 (X8.back C)
  · rw [List.concat_eq_append] at hr
    subst hr
    refine ite_pos (by simp) ?_
    refine wpAny_execs_cons (wpAny_Assign_Name ?_)
    refine MethodCall_ (nameL X6 m1 ?_)
    refine methL X6 (.head _) PySem.F.slot_list_pop PySem.F.type_list_pop ?_
    refine callWith_method0 ?_
    refine popSL X6 .head (fun h₅ X7 => ?_) (by rw [sizeLine_eq]; simp at l1 ⊢; omega)
    refine storeL X7 (fun h₆ X8 => ?_)
    clear X6 X7
    dsimp only
    refine wpAny_execs_cons ?_
    refine wpAny_Try_except ?_
    refine wpAny_execs_cons (wpAny_Expr ?_)
    refine MethodCall_ (nameL X8 (v := .ref ac) (st_ne m2) ?_)
    refine methL X8 (.tail _ (.head _)) PySem.F.slot_list_remove PySem.F.type_list_remove ?_
    refine callWith_method1 ?_
    refine spliced_more (nameL X8 (v := vstr x) st_eq ?_)
    refine spliced_none ?_
    dsimp only [List.append_nil, List.cons_append, List.nil_append]
    by_cases hin : x.1 ∈ ac'.map (·.1)
    · refine removeL X8 hin (.tail .head) (by rw [sizeLine_eq]; omega) (fun h₇ X9 => ?_)
      dsimp only
      refine wpAny_execs_nil ?_
      dsimp only
      refine wpAny_execs_nil ?_
      dsimp only
      refine wpAny_execs_nil ?_
      have := eraseS_length hin
      refine WhileStep.intro X9.fr X9.nw (n' := r'.length) (by simp at hn; omega) ?_
      rw [hJ]
      refine ⟨r', _, mis', _, _, _, frs₁, X9.nd, rfl, SU, rfl, ?_, ?_, ?_, ?_, ?_, ?_⟩
      · rw [← hu]; simp [uldR, hin]
      · exact st_ne m1
      · exact st_ne m2
      · exact st_ne m3
      · simp at l1; omega
      · omega
    · refine removeMissL X8 hin (.tail _ (.head _)) hh ?_
      intro h₇ tk₇ e NE
      refine TLg.noted_newA (new := (ex, SL r' (e1 + 1)) :: (ac, SL ac' e2) :: (mis, SL mis' e3) :: rest) hA hFs1 NE X8.fr X8.nw ?_ ?_
      · intro p hp hm
        rcases List.mem_cons.mp hm with q | q
        · exact (X8.nw p (List.mem_append_left frs₁ hp)).2.1 q
        · obtain ⟨z, hz, e⟩ := List.mem_map.mp q
          have nd := X8.nd
          have := (List.nodup_append.mp (show (((((ex, SL r' (e1 + 1)) :: (ac, SL ac' e2) :: (mis, SL mis' e3) :: rest).map (·.1)) ++ frs₁.map (·.1)).Nodup) by rw [← List.map_append]; exact nd)).2.2
          exact this _ (List.mem_map.mpr ⟨p, hp, rfl⟩) _ (List.mem_map.mpr ⟨z, hz, rfl⟩) e.symm
      · intro h₈ frs₂ SU2 Fs2 H
        refine H.land fun h₉ H' => ?_
        refine clauseHit H' KX T (by k_is) PyProof.Rows.Boot.«ValueError» PySem.F.isExc_ValueError PySem.F.notTuple_ValueError (by rw [isSubtype_type]; kernel_rfl) ?_
        intro h₁₀ F10 N10
        have X10 : Led h₀ _ h₁₀ _ ((ex, SL r' (e1 + 1)) :: (ac, SL ac' e2) :: (mis, SL mis' e3) :: (rest ++ frs₂)) := ⟨F10, N10, by
          have e : frs₂.map (·.1) = frs₁.map (·.1) := by rw [← hFs1.addrs, ← Fs2.addrs]
          have nd := X8.nd
          simp only [List.map_cons, List.map_append] at nd ⊢
          rw [e]; exact nd⟩
        refine wpAny_execs_cons (wpAny_Expr ?_)
        refine MethodCall_ (nameL X10 (v := .ref mis) (st_ne m3) ?_)
        refine methL X10 (.tail _ (.tail _ (.head _))) PySem.F.slot_list_append PySem.F.type_list_append ?_
        refine callWith_method1 ?_
        refine spliced_more (nameL X10 (v := vstr x) st_eq ?_)
        refine spliced_none ?_
        dsimp only [List.append_nil, List.cons_append, List.nil_append]
        refine appendSL X10 (.tail (.tail .head)) (fun h₁₁ X11 => ?_) (by rw [sizeLine_eq]; simp at l1; omega)
        dsimp only
        refine wpAny_execs_nil ?_
        dsimp only
        refine wpAny_execs_nil ?_
        refine WhileStep.intro X11.fr X11.nw (n' := r'.length) (by simp at hn; omega) ?_
        rw [hJ]
        refine ⟨r', _, _, _, _, _, frs₂, X11.nd, rfl, SU.trans SU2, rfl, ?_, ?_, ?_, ?_, ?_, ?_⟩
        · rw [← hu]; simp [uldR, hin]
        · exact st_ne m1
        · exact st_ne m2
        · exact st_ne m3
        · simp at l1 ⊢; omega
        · omega
end Mine
end

section
open PySem PySem.W PyProof.Rows PySem.Calls PySem.Spec
set_option maxRecDepth 100000
namespace Mine

structure ItL (prog : Program) (w : World) (A : Around) (h₀ : Heap) (it : Value) (n : Nat) (At : Nat → Value → List (Addr × Obj) → Prop) (St : Nat → List (Addr × Obj) → Prop) (Src : List (Addr × Obj) → Prop) : Prop where
  item : ∀ i L (s : Shared) m its news (Q : Option Value → Shared → Prop) (E : Value → Shared → Prop), i < n → St i its → Src news → Led h₀ L s.heap m (its ++ news) →
    (∀ v its' extra h' tk, At i v extra → St (i + 1) its' → Led h₀ L h' m (its' ++ (extra ++ news)) → Q (some v) { s with heap := h', toks := tk }) → wpAny (model prog w) A (pyNext it) Q E s
  stop : ∀ L (s : Shared) m its news (Q : Option Value → Shared → Prop) (E : Value → Shared → Prop), St n its → Src news → Led h₀ L s.heap m (its ++ news) →
    (∀ h' tk, Led h₀ L h' m news → Q none { s with heap := h', toks := tk }) → wpAny (model prog w) A (pyNext it) Q E s
  mono : ∀ a b, Src a → (∀ p ∈ a, p ∈ b) → Src b
  self : ∀ i L (s : Shared) m its news (Q : Value → Shared → Prop) (E : Value → Shared → Prop), St i its → Src news → Led h₀ L s.heap m (its ++ news) → Q it s → wpAny (model prog w) A (pyIter it) Q E s

theorem Led.but {h₀ h h' : Heap} {L d : Addr} {m : Str → Option Value} {n : List (Addr × Obj)} {o : Obj} (x : Led h₀ L h m ((d, o) :: n)) (hs : Heap.ExtBut d h h') : Led h₀ L h' m n := by
  have D := x.nw (d, o) (.head _)
  have nd := List.nodup_cons.mp x.nd
  have hne : ∀ p ∈ n, p.1 ≠ d := fun p hp e => nd.1 (List.mem_map.mpr ⟨p, hp, e⟩)
  refine ⟨⟨x.fr.ns.extBut hs (Ne.symm D.2.1), fun b o' e => hs b o' (fun q => by rw [q] at e; have := D.2.2; rw [e] at this; cases this) (x.fr.keep b o' e), x.fr.above⟩, fun p hp => ⟨hs _ _ (hne p hp) (x.nw p (.tail _ hp)).1, (x.nw p (.tail _ hp)).2⟩, nd.2⟩

noncomputable def SrcIn (h₀ : Heap) (T : String) (l : Addr) (items : Array Value) (news : List (Addr × Obj)) : Prop := ∃ o n, o.cls = .type T ∧ o.data = .seq items n ∧ ((l, o) ∈ news ∨ h₀.get? l = some o)
theorem SrcIn.get {h₀ h : Heap} {L l : Addr} {m : Str → Option Value} {T : String} {items : Array Value} {news its : List (Addr × Obj)} (x : SrcIn h₀ T l items news) (X : Led h₀ L h m (its ++ news)) : ∃ o, h.get? l = some o ∧ o.cls = .type T ∧ ∃ n, o.data = .seq items n := by
  obtain ⟨o, n, hc, hd, hm | hb⟩ := x
  · exact ⟨o, X.get (List.mem_append_right _ hm), hc, n, hd⟩
  · exact ⟨o, X.fr.keep _ _ hb, hc, n, hd⟩
theorem SrcIn.mono {h₀ : Heap} {l : Addr} {T : String} {items : Array Value} {a b : List (Addr × Obj)} (x : SrcIn h₀ T l items a) (k : ∀ p ∈ a, p ∈ b) : SrcIn h₀ T l items b := by
  obtain ⟨o, n, hc, hd, h⟩ := x
  exact ⟨o, n, hc, hd, h.imp (k _) id⟩
noncomputable def ItSt (T : String) (I l : Addr) (i : Nat) (its : List (Addr × Obj)) : Prop := ∃ o, its = [(I, o)] ∧ o.cls = .type T ∧ o.data = .fields #[.ref l, .int i 0]
noncomputable def AtSeq (items : Array Value) (i : Nat) (v : Value) (extra : List (Addr × Obj)) : Prop := items[i]? = some v ∧ extra = []

theorem itList {prog : Program} {w : World} {A : Around} {h₀ : Heap} (hh : A.handled = none) (I l : Addr) (items : Array Value) :
    ItL prog w A h₀ (.ref I) items.size (AtSeq items) (ItSt "list_iterator" I l) (SrcIn h₀ "list" l items) where
  item := by
    rintro i L s m its news Q E hi ⟨o, rfl, hc, hd⟩ hS X k
    have hit : s.heap.IsListIter I l i := ⟨o, X.get (.head _), hc, hd⟩
    obtain ⟨ol, hol, hlc, nl, hld⟩ := hS.get X
    refine wpAny_pyNext_list_item hit ⟨ol, hol, hlc, nl, hld⟩ (x := items[i]) (by simp [hi]) fun h' hit' hs' => ?_
    obtain ⟨o', ho', hc', hd'⟩ := hit'
    exact k _ [(I, o')] [] h' s.toks ⟨by simp [hi], rfl⟩ ⟨o', rfl, hc', hd'⟩ (X.turn .head hs' ho')
  stop := by
    rintro L s m its news Q E ⟨o, rfl, hc, hd⟩ hS X k
    obtain ⟨ol, hol, hlc, nl, hld⟩ := hS.get X
    exact wpAny_pyNext_list_end hh ⟨o, X.get (.head _), hc, hd⟩ ⟨ol, hol, hlc, nl, hld⟩ (by simp) fun h' hs' => k h' s.toks (X.but hs')
  mono := fun a b h k => h.mono k
  self := by
    rintro i L s m its news Q E ⟨o, rfl, hc, hd⟩ hS X k
    exact wpAny_pyIter_listiter ⟨o, X.get (.head _), hc, hd⟩ k
theorem itTuple {prog : Program} {w : World} {A : Around} {h₀ : Heap} (hh : A.handled = none) (I l : Addr) (items : Array Value) :
    ItL prog w A h₀ (.ref I) items.size (AtSeq items) (ItSt "tuple_iterator" I l) (SrcIn h₀ "tuple" l items) where
  item := by
    rintro i L s m its news Q E hi ⟨o, rfl, hc, hd⟩ hS X k
    have hit : s.heap.IsTupleIter I l i := ⟨o, X.get (.head _), hc, hd⟩
    obtain ⟨ol, hol, hlc, nl, hld⟩ := hS.get X
    refine wpAny_pyNext_tuple_item hit ⟨ol, hol, hlc, nl, hld⟩ (x := items[i]) (by simp [hi]) fun h' hit' hs' => ?_
    obtain ⟨o', ho', hc', hd'⟩ := hit'
    exact k _ [(I, o')] [] h' s.toks ⟨by simp [hi], rfl⟩ ⟨o', rfl, hc', hd'⟩ (X.turn .head hs' ho')
  stop := by
    rintro L s m its news Q E ⟨o, rfl, hc, hd⟩ hS X k
    obtain ⟨ol, hol, hlc, nl, hld⟩ := hS.get X
    exact wpAny_pyNext_tuple_end hh ⟨o, X.get (.head _), hc, hd⟩ ⟨ol, hol, hlc, nl, hld⟩ (by simp) fun h' hs' => k h' s.toks (X.but hs')
  mono := fun a b h k => h.mono k
  self := by
    rintro i L s m its news Q E ⟨o, rfl, hc, hd⟩ hS X k
    exact wpAny_pyIter_tupleiter ⟨o, X.get (.head _), hc, hd⟩ k
noncomputable def RgSt (I : Addr) (a : Int) (n : Nat) (i : Nat) (its : List (Addr × Obj)) : Prop := its = [(I, { cls := .type "range_iterator", dict := none, data := .fields #[rawInt (a + i), rawInt ((n : Int) - i), rawInt 1], slots := #[] })]
noncomputable def AtRg (a : Int) (i : Nat) (v : Value) (extra : List (Addr × Obj)) : Prop := (∃ t, v = .int (a + i) t) ∧ extra = []
theorem itRange {prog : Program} {w : World} {A : Around} {h₀ : Heap} (hh : A.handled = none) (I : Addr) (a : Int) (n : Nat) :
    ItL prog w A h₀ (.ref I) n (AtRg a) (RgSt I a n) (fun _ => True) where
  item := by
    rintro i L s m its news Q E hi rfl hS X k
    refine wpAny_pyNext_range_item (X.get (.head _)) (by omega) fun h' hit' hs' => ?_
    refine k _ _ [] h' _ ⟨⟨_, rfl⟩, rfl⟩ rfl (X.turn .head hs' ?_)
    have e1 : a + ((i + 1 : Nat) : Int) = a + (i : Int) + 1 := by omega
    have e2 : (n : Int) - ((i + 1 : Nat) : Int) = (n : Int) - (i : Int) - 1 := by omega
    rw [e1, e2]; exact hit'
  stop := by
    rintro L s m its news Q E rfl hS X k
    exact wpAny_pyNext_range_end hh (X.get (.head _)) (by omega) fun h' hs' => k h' s.toks (X.but hs')
  mono := fun _ _ _ _ => trivial
  self := by
    rintro i L s m its news Q E rfl hS X k
    exact wpAny_pyIter_rangeiter (X.get (.head _)) k

section
variable {prog : Program} {w : World} {A : Around} {s : Shared} {h₀ : Heap} {env : Env} {n : Nat} {At : Nat → Value → List (Addr × Obj) → Prop} {St : Nat → List (Addr × Obj) → Prop} {Src : List (Addr × Obj) → Prop} {it : Value}
noncomputable abbrev No : Value → Shared → Prop := fun _ _ => False

noncomputable def TurnEnd (h₀ : Heap) (L : Addr) (s : Shared) (St : Nat → List (Addr × Obj) → Prop) (J : Nat → (Str → Option Value) → List (Addr × Obj) → Prop) (i : Nat) (s₃ : Shared) : Prop :=
  ∃ h' tk m₂ its' news₂, s₃ = { s with heap := h', toks := tk } ∧ St (i + 1) its' ∧ Led h₀ L h' m₂ (its' ++ news₂) ∧ J (i + 1) m₂ news₂

theorem forIt {target : Expr} {body : List Stmt} {m : Str → Option Value} {its news : List (Addr × Obj)} {R : Result → Shared → Prop} (I : ItL prog w A h₀ it n At St Src) (J : Nat → (Str → Option Value) → List (Addr × Obj) → Prop)
    (X : Led h₀ env.locals s.heap m (its ++ news)) (hst : St 0 its) (h0 : J 0 m news) (hsrc : ∀ i m news, J i m news → Src news)
    (turn : ∀ i v its extra m₁ news₁ h₁ tk₁, i < n → At i v extra → St (i + 1) its → J i m₁ news₁ → Led h₀ env.locals h₁ m₁ (its ++ (extra ++ news₁)) →
      wpAny (model prog w) A (letOwnedTupleGo target it v) (fun _ s₁ => wpAny (model prog w) A (assign target env v) (fun _ s₂ => wpAny (model prog w) A (execs body env) (fun f s₃ => match f with
        | .next | .cont => TurnEnd h₀ env.locals s St J i s₃
        | .brk => R (.ok .next) s₃
        | .ret v => R (.ok (.ret v)) s₃) No s₂) No s₁) No { s with heap := h₁, toks := tk₁ })
    (done : ∀ m₁ news₁ h₁ tk₁, J n m₁ news₁ → Led h₀ env.locals h₁ m₁ news₁ → R (.ok .next) { s with heap := h₁, toks := tk₁ }) :
    codeAny (model prog w) A (.forLoop target it body [] env) R s := by
  obtain ⟨P, hP⟩ : ∃ P : Nat → Shared → Prop, P = fun k s' => ∃ i h' tk m' its' news', s' = { s with heap := h', toks := tk } ∧ i ≤ n ∧ k = n + 1 - i ∧ St i its' ∧ Led h₀ env.locals h' m' (its' ++ news') ∧ J i m' news' := ⟨_, rfl⟩
  refine codeAny_forLoop_any P ?_ (n + 1)
    (by rw [hP]; exact ⟨0, s.heap, s.toks, m, its, news, rfl, Nat.zero_le _, rfl, hst, X, h0⟩)
  intro k s' hs
  rw [hP] at hs
  obtain ⟨i, h', tk, m', its', news', rfl, hi, rfl, hst', X', hJ⟩ := hs
  have next : ∀ {s₃ : Shared}, i < n → TurnEnd h₀ env.locals s St J i s₃ → ∃ m_1, m_1 < n + 1 - i ∧ P m_1 s₃ := fun {s₃} hlt y => by
    obtain ⟨h₄, tk₄, m₄, its₄, news₄, rfl, a, b, c⟩ := y
    exact ⟨n + 1 - (i + 1), by omega, by rw [hP]; exact ⟨i + 1, h₄, tk₄, m₄, its₄, news₄, rfl, hlt, rfl, a, b, c⟩⟩
  clear hP
  by_cases hlt : i < n
  · refine I.item i _ _ m' its' news' _ _ hlt hst' (hsrc _ _ _ hJ) X' fun v its₂ extra h₂ tk₂ hv hst₂ X₂ => ?_
    refine wpAny_mono (turn i v its₂ extra m' news' h₂ tk₂ hlt hv hst₂ hJ X₂) (fun _ s₁ h₁ => wpAny_mono h₁ (fun _ s₂ h₂ => wpAny_mono h₂ (fun f s₃ h₃ => ?_) fun _ _ x => x.elim) fun _ _ x => x.elim) fun _ _ x => x.elim
    cases f with
    | next => exact next hlt h₃
    | cont => exact next hlt h₃
    | brk => exact h₃
    | ret v => exact h₃
  · obtain rfl : i = n := by omega
    refine I.stop _ _ m' its' news' _ _ hst' (hsrc _ _ _ hJ) X' fun h₂ tk₂ X₂ => ?_
    exact wpAny_execs_nil (done m' news' h₂ tk₂ hJ X₂)

noncomputable abbrev lst (ys : List Value) : Obj := listOf ys.toArray ys.length

theorem Led.inner {h : Heap} {L C : Addr} {m mC : Str → Option Value} {oC : Obj} {news : List (Addr × Obj)} (X : Led h₀ L h m ((C, oC) :: news)) (hC : LCg.NsObj oC mC) (hab : h₀.objs.size ≤ C) :
    ∃ oL, TI.Caller h₀ L m oL ∧ Led h₀ C h mC ((L, oL) :: news) := by
  obtain ⟨oL, es, ep, hL, hLd, hLk, hLf⟩ := X.fr.ns
  have D := X.nw (C, oC) (.head _)
  have nd := List.nodup_cons.mp X.nd
  refine ⟨oL, ⟨fun h' sl e => ⟨_, es, ep, e, hLd, hLk, hLf⟩, ⟨es, ep, hLd⟩, X.fr.above⟩, ⟨⟨hC.ns D.1, X.fr.keep, hab⟩, fun p hp => ?_, ?_⟩⟩
  · rcases List.mem_cons.mp hp with rfl | hp
    · exact ⟨hL, Ne.symm D.2.1, Heap.get?_none_of_le X.fr.above⟩
    · exact ⟨(X.nw p (.tail _ hp)).1, fun e => nd.1 (List.mem_map.mpr ⟨p, hp, e⟩), (X.nw p (.tail _ hp)).2.2⟩
  · refine List.nodup_cons.mpr ⟨fun hm => ?_, nd.2⟩
    obtain ⟨p, hp, e⟩ := List.mem_map.mp hm
    exact (X.nw p (.tail _ hp)).2.1 e
theorem Led.outer {h : Heap} {L C : Addr} {m mC : Str → Option Value} {oL : Obj} {sl : Array (Option Value)} {news : List (Addr × Obj)} (X : Led h₀ C h mC ((L, { oL with slots := sl }) :: news)) (K : TI.Caller h₀ L m oL) :
    ∃ oC, LCg.NsObj oC mC ∧ Led h₀ L h m ((C, oC) :: news) := by
  obtain ⟨oC, hC, e⟩ := LCg.ns_obj X.fr.ns
  have D := X.nw (L, { oL with slots := sl }) (.head _)
  have nd := List.nodup_cons.mp X.nd
  refine ⟨oC, e, ⟨⟨K.ns _ _ D.1, X.fr.keep, K.above⟩, fun p hp => ?_, ?_⟩⟩
  · rcases List.mem_cons.mp hp with rfl | hp
    · exact ⟨hC, Ne.symm D.2.1, Heap.get?_none_of_le X.fr.above⟩
    · exact ⟨(X.nw p (.tail _ hp)).1, fun e => nd.1 (List.mem_map.mpr ⟨p, hp, e⟩), (X.nw p (.tail _ hp)).2.2⟩
  · refine List.nodup_cons.mpr ⟨fun hm => ?_, nd.2⟩
    obtain ⟨p, hp, e⟩ := List.mem_map.mp hm
    exact (X.nw p (.tail _ hp)).2.1 e

noncomputable def CompTurn (h₀ : Heap) (C : Addr) (s : Shared) (L : Addr) (oL : Obj) (D : Addr) (ys : List Value) (St : Nat → List (Addr × Obj) → Prop) (J : Nat → List Value → List (Addr × Obj) → Prop) (i : Nat) (ys' : List Value) (s₃ : Shared) : Prop :=
  ∃ h' tk mC its' news₂, s₃ = { s with heap := h', toks := tk } ∧ St (i + 1) its' ∧ Led h₀ C h' mC ((L, oL) :: (D, lst ys) :: (its' ++ news₂)) ∧ J (i + 1) ys' news₂

theorem compBlockT {elt iter : Expr} {x : Str} {px : Pos} {ifs : List Expr} {scope : Scope} {cl : List (Str × Addr)} {pos : Pos} {L : Addr} {m : Str → Option Value} {its news : List (Addr × Obj)} {RR : Value → Addr → Result → Shared → Prop}
    (I : ItL prog w A h₀ it n At St Src) (J : Nat → List Value → List (Addr × Obj) → Prop)
    (X : Led h₀ L s.heap m (its ++ news)) (hst : St 0 its) (h0 : J 0 [] news) (hsrc : ∀ i ys news, J i ys news → Src news) (hn : n ≤ sizeLine)
    (hcell : ∀ y ∈ scope.names, y.2 ≠ .cell) (hkind : scope.kind = .function) (hx : scope.names.lookup x = some .local)
    (hext : ∀ i v extra, At i v extra → extra = [])
    (turn : ∀ i v its₁ ys news₁ h₁ tk₁ mC C D oL, i < n → s.toks ≤ tk₁ → At i v [] → St (i + 1) its₁ → J i ys news₁ → mC x = some v → TI.Caller h₀ L m oL → Led h₀ C h₁ mC ((L, oL) :: (D, lst ys) :: (its₁ ++ news₁)) →
      wpAny (model prog w) A (forIn ifs true fun c r => if r = true then do let ok ← isTrue c (compEnvC scope cl C env) (eval c (compEnvC scope cl C env)); pure (ForInStep.yield ok) else pure (ForInStep.yield r))
        (fun ok s₃ => if ok = true then wpAny (model prog w) A (eval elt (compEnvC scope cl C env)) (fun y s₄ => CompTurn h₀ C s L oL D ys St J i (ys ++ [y]) s₄) No s₃ else CompTurn h₀ C s L oL D ys St J i ys s₃) No { s with heap := h₁, toks := tk₁ })
    (fin : ∀ D C oC mC ys news₁ h₁ tk₁, J n ys news₁ → LCg.NsObj oC mC → Led h₀ L h₁ m ((C, oC) :: (D, lst ys) :: news₁) → RR (.ref D) C (.ok .next) { s with heap := h₁, toks := tk₁ }) :
    wpAny (model prog w) A (newList []) (fun acc s₃ => wpAny (model prog w) A (newFunctionEnv scope env.globals cl [] env.qual none .none (some env)) (fun cenv s₄ =>
      codeAny (model prog w) A (.compStart (.ListComp elt [⟨.Name x px, iter, ifs, 0⟩] scope pos) 0 it acc { cenv with scope := relabel scope env }) (RR acc cenv.locals) s₄) No s₃) No s := by
  refine newListL X (fun D h₁ X₁ => ?_) (by rw [sizeLine_eq]; simp)
  refine wpAny_newFunctionEnv hcell (by intro y hy; simp at hy) (fun h₂ hns hsb => ?_) hkind
  dsimp only at hns hsb ⊢
  generalize hC : h₁.objs.size = C at hns hsb ⊢
  have hab : h₀.objs.size ≤ C := by rw [← hC]; exact Nat.le_trans X₁.fr.above (Nat.le_of_lt X₁.fr.ns.lt)
  obtain ⟨oC, hoC, heC⟩ := LCg.ns_obj hns
  have X₂ : Led h₀ L h₂ m ((C, oC) :: (D, lst []) :: (its ++ news)) := by
    have := X₁.more (h' := h₂) (o := oC) (fun b o e => hsb.extBut b o (by rw [← hC]; exact Nat.ne_of_lt (Heap.lt_size e)) (Heap.get?_push_of_some _ e)) (by rw [hC]; exact hoC)
    rw [hC] at this
    exact this
  obtain ⟨oL, KL, X₃⟩ := X₂.inner heC hab
  clear X₂ hoC heC
  have loop : ∀ s₃ : Shared, s₃ = { s with heap := h₂, toks := s.toks + ([] : List (Str × Value)).length } →
      codeAny (model prog w) A (.compLoop (.ListComp elt [⟨.Name x px, iter, ifs, 0⟩] scope pos) 0 it (.ref D) (compEnvC scope cl C env)) (RR (.ref D) C) s₃ := by
    rintro s₃ rfl
    obtain ⟨P, hP⟩ : ∃ P : Nat → Shared → Prop, P = fun k s' => ∃ i h' tk mC' its' ys news', s' = { s with heap := h', toks := tk } ∧ i ≤ n ∧ k = n + 1 - i ∧ s.toks ≤ tk ∧ ys.length ≤ i ∧ St i its' ∧ Led h₀ C h' mC' ((L, oL) :: (D, lst ys) :: (its' ++ news')) ∧ J i ys news' := ⟨_, rfl⟩
    refine codeAny_compLoop_tests P ?_ (n + 1)
      (by rw [hP]; exact ⟨0, h₂, _, _, its, [], news, rfl, Nat.zero_le _, rfl, Nat.le_refl _, Nat.le_refl _, hst, X₃, h0⟩)
    intro k s' hs
    rw [hP] at hs
    obtain ⟨i, h', tk, mC', its', ys, news', rfl, hi, rfl, htk, hyl, hst', X', hJ⟩ := hs
    have next : ∀ {ys h₅ tk₅ mC₅ its₅ news₅}, i < n → s.toks ≤ tk₅ → ys.length ≤ i + 1 → St (i + 1) its₅ → Led h₀ C h₅ mC₅ ((L, oL) :: (D, lst ys) :: (its₅ ++ news₅)) → J (i + 1) ys news₅ → ∃ m_1, m_1 < n + 1 - i ∧ P m_1 { s with heap := h₅, toks := tk₅ } := fun {ys h₅ tk₅ mC₅ its₅ news₅} hlt ht hy a b c =>
      ⟨n + 1 - (i + 1), by omega, by rw [hP]; exact ⟨i + 1, h₅, tk₅, mC₅, its₅, ys, news₅, rfl, hlt, rfl, ht, hy, a, b, c⟩⟩
    clear hP
    have toF : ∀ {its : List (Addr × Obj)}, List.Perm ((L, oL) :: (D, lst ys) :: (its ++ news')) (its ++ ((L, oL) :: (D, lst ys) :: news')) := fun {its} => by
      refine List.Perm.trans ?_ (List.perm_append_comm (l₁ := (L, oL) :: (D, lst ys) :: news') (l₂ := its))
      exact .cons _ (.cons _ List.perm_append_comm)
    have XP := X'.perm toF
    have hS' : Src ((L, oL) :: (D, lst ys) :: news') := I.mono _ _ (hsrc _ _ _ hJ) fun p hp => .tail _ (.tail _ hp)
    by_cases hlt : i < n
    · refine wpAny_mono (wpAny_toks (I.item i _ _ mC' its' _ (fun r s' => ∃ v its₂ h₃ tk₃, r = some v ∧ s' = { s with heap := h₃, toks := tk₃ } ∧ At i v [] ∧ St (i + 1) its₂ ∧ Led h₀ C h₃ mC' (its₂ ++ ((L, oL) :: (D, lst ys) :: news'))) No hlt hst' hS' XP fun v its₂ extra h₃ tk₃ hv hst₂ X₄ => ?_)) (fun r s₁ h₁ => ?_) fun _ _ x => x.2.elim
      · obtain rfl := hext _ _ _ hv
        exact ⟨v, its₂, h₃, tk₃, rfl, rfl, hv, hst₂, X₄⟩
      obtain ⟨htk₃, v, its₂, h₃, tk₃, rfl, rfl, hv, hst₂, X₄⟩ := h₁
      have htk4 : s.toks ≤ tk₃ := Nat.le_trans htk htk₃
      have X₅ : Led h₀ (compEnvC scope cl C env).locals h₃ mC' ((L, oL) :: (D, lst ys) :: (its₂ ++ news')) := X₄.perm toF.symm
      refine wpAny_assign_Name (storeL X₅ (fun h₄ X₆ => ?_) (by simp [compEnvC, relabel, hkind]) (lookup_relabel_local hx))
      refine wpAny_mono (wpAny_toks (turn i v its₂ ys news' h₄ _ _ C D oL hlt (Nat.le_succ_of_le htk4) hv hst₂ hJ st_eq KL X₆)) (fun ok s₃ h₃ => ?_) fun _ _ x => x.2.elim
      obtain ⟨htk5, h₃⟩ := h₃
      have htk6 : s.toks ≤ s₃.toks := Nat.le_trans (Nat.le_succ_of_le htk4) htk5
      have hlen : (ys.toArray).size ≤ sizeLine := by rw [List.size_toArray]; omega
      cases ok with
      | false =>
        rw [if_neg Bool.false_ne_true] at h₃ ⊢
        obtain ⟨h₅, tk₅, mC₅, its₅, news₅, rfl, a, b, c⟩ := h₃
        exact next hlt htk6 (Nat.le_succ_of_le hyl) a b c
      | true =>
        rw [if_pos rfl] at h₃ ⊢
        refine wpAny_mono (wpAny_toks h₃) (fun y s₄ h₄ => ?_) fun _ _ x => x.2.elim
        obtain ⟨htk7, h₄⟩ := h₄
        obtain ⟨h₅, tk₅, mC₅, its₅, news₅, rfl, a, b, c⟩ := h₄
        refine appendL b (.tail .head) (fun h₆ X₇ => ?_) hlen
        refine next (mC₅ := mC₅) (ys := ys ++ [y]) hlt (Nat.le_trans htk6 htk7) (by rw [List.length_append]; exact Nat.succ_le_succ hyl) a ?_ c
        have e : lst (ys ++ [y]) = listOf (ys.toArray.push y) (ys.length + 1) := by simp [lst]
        rw [e]; exact X₇
    · obtain rfl : i = n := by omega
      refine I.stop _ _ mC' its' _ _ _ hst' hS' XP fun h₃ tk₃ X₄ => ?_
      obtain ⟨oC', hC', X₅⟩ := (show Led h₀ C h₃ mC' ((L, { oL with slots := oL.slots }) :: (D, lst ys) :: news') from X₄).outer KL
      exact fin D C oC' mC' ys news' h₃ tk₃ hJ hC' X₅
  have hS₃ : Src ((L, oL) :: (D, lst []) :: news) := I.mono _ _ (hsrc _ _ _ h0) fun p hp => .tail _ (.tail _ hp)
  refine codeAny_compStart_list (loop _ rfl) (I.self 0 _ _ _ its _ _ _ hst hS₃ (X₃.perm ?_) (loop _ rfl))
  refine List.Perm.trans ?_ (List.perm_append_comm (l₁ := (L, oL) :: (D, lst []) :: news) (l₂ := its))
  exact .cons _ (.cons _ List.perm_append_comm)
end
end Mine
end

section
open PySem PySem.W PyProof.Rows PySem.Calls PySem.Spec
set_option maxRecDepth 100000
namespace Mine

section
variable {prog : Program} {w : World} {A : Around} {s : Shared} {h₀ : Heap} {L : Addr} {m : Str → Option Value} {news : List (Addr × Obj)} {K : Frag} {p : Program} {loose : List Str} {mean : ExcName → Option Value} {mg mb : Str → Option Value}
    {R : Result → Shared → Prop} {name qual : Str} {params : Arguments} {body : List Stmt} {scope : Scope} {dV kV doc pm cdv ct oc : Value} {an od : Option Addr} {osl : Array (Option Value)} {f : Addr} {args : Args} {binds : List (Str × Value)}

theorem enterC (X : Led h₀ L s.heap m news) (KX : K.In h₀) (T : Top p loose mean mg mb h₀)
    (ho : K.lookup f = some ⟨oc, od, .func (fnOf name qual params body scope dV kV doc pm an cdv ct), osl⟩) (hcd : codeIn K cdv qual = true) (hroom : A.depth < recursionLimit)
    (hbind : BindsTo s (fnOf name qual params body scope dV kV doc pm an cdv ct) args binds)
    (hkind : (binds.all fun y => scope.names.lookup y.1 == some .local || scope.names.lookup y.1 == some .cell) = true)
    (hnd : ((cellsFrom 0 scope.names []).map (·.1)).Nodup)
    (h : ∀ oL h₁ tk cells, TI.Caller h₀ L m oL → CellsAre (bindC (envOfC qual scope s.heap.objs.size f cdv).kindOf binds fun _ => none) (cellsFrom (s.heap.objs.size + 1) scope.names []) cells →
      (cells.map (·.1) = (cellsFrom (s.heap.objs.size + 1) scope.names []).map (·.2) → (cells.map (·.1)).Nodup → Led h₀ s.heap.objs.size h₁ (bindL (envOfC qual scope s.heap.objs.size f cdv).kindOf binds fun _ => none) (cells ++ (L, oL) :: news)) →
      wpAny (model prog w) (A.deeper (envOfC qual scope s.heap.objs.size f cdv)) (execs body (envOfC qual scope s.heap.objs.size f cdv))
        (fun fl s' => R (.ok (.ret (match fl with | .ret v => v | _ => .none))) s') No { s with heap := h₁, toks := tk })
    (hco : scope.isCoroutine = false := by rfl) (hgen : scope.isGenerator = false := by rfl) (hk : scope.kind = .function := by rfl) : codeAny (model prog w) A (.call (.ref f) args) R s := by
  have F := X.fr
  have KS := KX.keeps F.keep
  obtain ⟨oL, es, ep, hL, hLd, hLk, hLf⟩ := F.ns
  have hLt := Heap.lt_size hL
  refine codeAny_call_function hroom (KS _ _ ho) rfl hco hgen rfl (codeRec_of KS hcd) (hbind _ _ _ _ ?_)
  refine wpAny_newFunctionEnv_cells hk (kindsX hkind _) fun env' he s' x => ?_
  subst he
  refine ⟨(T.nolimit.keeps F.keep).keeps x.toInCall.keep, codeAny_func ?_⟩
  obtain ⟨h₁, tk, rfl, _⟩ := x.done
  have hk₁ := x.toInCall.keep
  obtain ⟨cells, NC, Y⟩ := Cl.news (h₀ := s.heap) (Nat.le_refl _) fun n c hm => ⟨x.cell n c (lookup_of_mem_nodup (cellsFrom_names scope.names 0 (s.heap.objs.size + 1) [] [] rfl ▸ hnd) hm), x.above n c hm⟩
  refine wpAny_mono (h oL h₁ tk cells ⟨fun h' sl e => ⟨_, es, ep, e, hLd, hLk, hLf⟩, ⟨es, ep, hLd⟩, F.above⟩ Y (fun hcs hcn => ⟨⟨x.toInCall.ns, fun b o e => hk₁ b o (F.keep b o e), Nat.le_trans F.above (Nat.le_of_lt hLt)⟩, fun p hp => ?_, ?_⟩)) (fun _ _ y => y) fun _ _ y => y.elim
  · rcases List.mem_append.mp hp with hp | hp
    · refine ⟨(NC p hp).1, (NC p hp).2.1, ?_⟩
      cases q : h₀.get? p.1 with
      | none => rfl
      | some o => have := F.keep _ _ q; rw [(NC p hp).2.2] at this; cases this
    · rcases List.mem_cons.mp hp with rfl | hp
      · exact ⟨hk₁ _ _ hL, Nat.ne_of_lt hLt, Heap.get?_none_of_le F.above⟩
      · obtain ⟨h1, h2, h3⟩ := X.nw p hp
        exact ⟨hk₁ _ _ h1, Nat.ne_of_lt (Heap.lt_size h1), h3⟩
  · rw [List.map_append]
    refine List.nodup_append.mpr ⟨hcn, ?_, ?_⟩
    · rw [List.map_cons]
      refine List.nodup_cons.mpr ⟨fun hm => ?_, X.nd⟩
      obtain ⟨p, hp, e⟩ := List.mem_map.mp hm
      exact (X.nw p hp).2.1 e
    · intro a ha b hb e
      subst e
      obtain ⟨q, hq, rfl⟩ := List.mem_map.mp ha
      have hn := (NC q hq).2.2
      rw [List.map_cons] at hb
      rcases List.mem_cons.mp hb with e | hb
      · rw [e, hL] at hn; cases hn
      · obtain ⟨z, hz, e⟩ := List.mem_map.mp hb
        have h1 := (X.nw z hz).1
        rw [e, hn] at h1; cases h1
end

section
variable {prog : Program} {w : World} {A : Around} {E : Value → Shared → Prop} {s : Shared} {h₀ : Heap} {L D : Addr} {m : Str → Option Value} {env : Env} {news news' : List (Addr × Obj)} {K : Frag} {p : Program} {loose : List Str} {mean : ExcName → Option Value} {mg mb : Str → Option Value}
theorem nameC {M : Model} {x : Str} {pos : Pos} {v : Value} {c : Addr} {o : Obj} {Q : Value → Shared → Prop} (X : Led h₀ L s.heap m news) (hc : env.cells.lookup x = some c) (hm : (c, o) ∈ news) (hd : o.data = .cell (some v)) (h : Q v s)
    (hk : env.scope.kind = .function := by rfl) (hx : env.kindOf x = some .cell := by rfl) (hb : (x == ("__debug__" : Str)) = false := by decide) :
    wpAny M A (eval (.Name x pos) env) Q E s := wpAny_Name (wpAny_loadName_cell hk hx hc ⟨o, X.get hm, hd⟩ h) hb
theorem storeC {M : Model} {x : Str} {v : Value} {v₀ : Option Value} {c : Addr} {o : Obj} {Q : Unit → Shared → Prop} {g : Obj → List (Addr × Obj)} (X : Led h₀ L s.heap m news) (hc : env.cells.lookup x = some c) (u : ∀ o', UpdAt c o o' news (g o')) (hd : o.data = .cell v₀)
    (h : ∀ h' o', o'.data = .cell (some v) → Led h₀ L h' m (g o') → Q () { s with heap := h' })
    (hk : env.scope.kind = .function := by rfl) (hx : env.kindOf x = some .cell := by rfl) : wpAny M A (storeName env x v) Q E s := by
  have hm : (c, o) ∈ news := by obtain ⟨a, b, e, _⟩ := (u o).split; rw [e]; simp
  refine wpAny_storeName_cell hk hx hc ⟨o, X.get hm, hd⟩ fun h' hv hs => ?_
  obtain ⟨o', ho', hd'⟩ := hv
  exact h h' o' hd' (X.turn (u o') hs ho')
theorem nameGl {M : Model} {x : Str} {pos : Pos} {v : Value} {Q : Value → Shared → Prop} (X : Led h₀ L s.heap m news) (KX : K.In h₀) (T : Top p loose mean mg mb h₀) (e : nsIn K mainGlobals x = some (some v)) (h : Q v s)
    (hg : env.globals = mainGlobals := by rfl) (hk : env.scope.kind = .function := by rfl) (hx : env.kindOf x = some .globalImplicit := by rfl) (hd : (x == ("__debug__" : Str)) = false := by decide) :
    wpAny M A (eval (.Name x pos) env) Q E s := nameG_K X.fr KX (topRead_of T) e h hg hk hx hd
theorem nameBl {M : Model} {x : Str} {pos : Pos} {v : Value} {Q : Value → Shared → Prop} (X : Led h₀ L s.heap m news) (KX : K.In h₀) (T : Top p loose mean mg mb h₀) (e : nsIn K mainGlobals x = some none) (hv : bootBuiltins x = some v) (h : Q v s)
    (hn : x ≠ "__name__" := by decide) (hg : env.globals = mainGlobals := by rfl) (hb : env.builtins = builtinsNs := by rfl) (hk : env.scope.kind = .function := by rfl) (hx : env.kindOf x = some .globalImplicit := by rfl) (hd : (x == ("__debug__" : Str)) = false := by decide) :
    wpAny M A (eval (.Name x pos) env) Q E s :=
  Name_function_global hk hx (loadGlobal_builtin (env := env) (by rw [hg]; exact T.g.keeps X.fr.keep) (mg_none_of KX T.g e) (by rw [hb]; exact T.b.keeps X.fr.keep) ((T.builtins x hn).trans hv) h) hd
theorem strMeth {x : Str} {t : Tok} {name : Str} {id : String} {pl : Sem Bool} {Q : Value × List Value → Shared → Prop} (slot : Slot "str" name id) (hty : typeOf (.builtin id) = pure (.type "method_descriptor"))
    (h : Q (.builtin id, [.str x t]) s) : wpAny (model prog w) A (getMethod (.str x t) name pl) Q E s :=
  getMethod_builtin (typeIs_str _ _ _) F.plainAttrs_str slot hty (fun _ e => nomatch e) h

theorem strsAre_vstr : ∀ ts : List (Str × Tok), StrsAre (ts.map vstr) (ts.map (·.1))
  | [] => .nil
  | p :: r => .cons p.1 p.2 (strsAre_vstr r)
theorem strsAre_ex {vs : List Value} {ss : List Str} (h : StrsAre vs ss) : ∃ ts : List (Str × Tok), vs = ts.map vstr ∧ ss = ts.map (·.1) := by
  induction h with
  | nil => exact ⟨[], rfl, rfl⟩
  | cons y t _ ih => obtain ⟨ts, e1, e2⟩ := ih; exact ⟨(y, t) :: ts, by rw [e1]; rfl, by rw [e2]; rfl⟩
theorem isListSL {ts : List (Str × Tok)} {n : Nat} (X : Led h₀ L s.heap m news) (hm : (D, SL ts n) ∈ news) : s.heap.IsList D (ts.map vstr).toArray := isListL X hm

theorem Led.fresh {h h' : Heap} {a : Addr} {o : Obj} (x : Led h₀ L h m news) (hk : ∀ b o, h.get? b = some o → h'.get? b = some o) (ha : h.objs.size ≤ a) (ho : h'.get? a = some o) : Led h₀ L h' m ((a, o) :: news) := by
  refine ⟨x.fr.keeps hk, fun q hq => ?_, ?_⟩
  · rcases List.mem_cons.mp hq with rfl | hq
    · refine ⟨ho, Nat.ne_of_gt (Nat.lt_of_lt_of_le x.fr.ns.lt ha), ?_⟩
      cases e : h₀.get? a with
      | none => rfl
      | some o' => exact absurd (Heap.lt_size (x.fr.keep _ _ e)) (Nat.not_lt.mpr ha)
    · exact ⟨hk _ _ (x.nw q hq).1, (x.nw q hq).2⟩
  · refine List.nodup_cons.mpr ⟨fun hm => ?_, x.nd⟩
    obtain ⟨p, hp, e⟩ := List.mem_map.mp hm
    exact absurd (x.lt hp) (by rw [e]; exact Nat.not_lt.mpr ha)
theorem sortedL {ts : List (Str × Tok)} {n : Nat} {Q : Value → Shared → Prop} (X : Led h₀ L s.heap m news) (hm : (D, SL ts n) ∈ news) (h64 : ts.length < 64)
    (h : ∀ a h' ts' e, Led h₀ L h' m ((a, SL ts' e) :: news) → (ts'.map (·.1)).Perm (ts.map (·.1)) → sortedS (ts'.map (·.1)) = true → Q (.ref a) { s with heap := h' }) :
    wpAny (model prog w) A (call (.builtin "sorted") [.ref D]) Q E s := by
  refine sorted_strs (isListSL X hm) (strsAre_vstr ts) (by simpa using h64) fun out ss' a1 a2 a3 => ?_
  obtain ⟨ts', e1, e2⟩ := strsAre_ex a1
  subst e2
  obtain ⟨e, he⟩ := sortedAll_at s.heap (ts.map vstr) out
  refine h _ _ ts' e (X.fresh (fun _ _ => sortedAll_old) (Nat.le_succ _) ?_) a2 a3
  rw [he]
  have : out = (ts'.map vstr).toArray := by rw [← e1]
  rw [this]
theorem joinL {ts : List (Str × Tok)} {n : Nat} {x : Str} {t : Tok} {Q : Value → Shared → Prop} (X : Led h₀ L s.heap m news) (hm : (D, SL ts n) ∈ news) (hok : ((ts.map (·.1)).map (·.length)).sum + ts.length * x.length ≤ 16777216)
    (h : ∀ t' k, Q (.str (Txt.join x (ts.map (·.1))) t') { s with toks := k }) : wpAny (model prog w) A (call (.builtin "str.join") [.str x t, .ref D]) Q E s :=
  join_list (isListSL X hm) (by simpa using strsAre_vstr ts) (by simpa using hok) h
theorem copyL {its : Array Value} {n : Nat} {Q : Value → Shared → Prop} (X : Led h₀ L s.heap m news) (hm : (D, listOf its n) ∈ news)
    (h : ∀ a c h', Led h₀ L h' m ((a, listOf its c) :: news) → Q (.ref a) { s with heap := h' }) (hsz : its.size ≤ sizeLine) : wpAny (model prog w) A (call (.type "list") [.ref D]) Q E s :=
  call_list_seq (hsz := hsz) D (.inl rfl) (X.get hm) rfl rfl fun h' c' hk hD => h _ c' h' (X.more hk hD)

noncomputable abbrev SD (prog : Program) (w : World) (o : Obj) (kvs : List (Str × Value)) : Prop := o.IsDictOf (strKind prog w) kvs
theorem notInD {o : Obj} {kvs : List (Str × Value)} {k : Str} {t : Tok} {Q : Value → Shared → Prop} (X : Led h₀ L s.heap m news) (hm : (D, o) ∈ news) (hd : SD prog w o kvs) (lo : (D == sysModules) = false)
    (h : Q (.bool (!(valueAt kvs k).isSome)) { s with toks := s.toks + 1 }) : wpAny (model prog w) A (compareOp .NotIn (.str k t) (.ref D)) Q E s :=
  wpAny_notIn_of (strKind_is prog w k t) lo (Heap.DictOf.mapOf (Heap.dictOf_iff.mpr ⟨o, X.get hm, hd⟩)) h
theorem getD {o : Obj} {kvs : List (Str × Value)} {k : Str} {t : Tok} {v : Value} {Q : Value → Shared → Prop} (X : Led h₀ L s.heap m news) (hm : (D, o) ∈ news) (hd : SD prog w o kvs) (hv : valueAt kvs k = some v)
    (h : Q v { s with toks := s.toks + 1 }) : wpAny (model prog w) A (getItem (.ref D) (.str k t)) Q E s :=
  wpAny_getItem_of (strKind_is prog w k t) (Heap.DictOf.mapOf (Heap.dictOf_iff.mpr ⟨o, X.get hm, hd⟩)) hv h
theorem setD {o : Obj} {kvs : List (Str × Value)} {k : Str} {t : Tok} {v : Value} {g : Obj → List (Addr × Obj)} {Q : Unit → Shared → Prop} (X : Led h₀ L s.heap m news) (u : ∀ o', UpdAt D o o' news (g o')) (hd : SD prog w o kvs)
    (h : ∀ h' o', SD prog w o' (stored kvs k v) → Led h₀ L h' m (g o') → Q () { s with heap := h', toks := s.toks + 1 }) (hsz : kvs.length ≤ sizeLine) : wpAny (model prog w) A (setItem (.ref D) (.str k t) v) Q E s := by
  have hm : (D, o) ∈ news := by obtain ⟨a, b, e, _⟩ := (u o).split; rw [e]; simp
  refine wpAny_setItem_pairs (hsz := hsz) (strKind_is prog w k t) (Heap.dictOf_iff.mpr ⟨o, X.get hm, hd⟩) fun h' hd' hs => ?_
  obtain ⟨o', ho', hd''⟩ := Heap.dictOf_iff.mp hd'
  exact h h' o' hd'' (X.turn (u o') hs ho')
theorem tailD {o : Obj} {kvs : List (Str × Value)} {k : Str} {t : Tok} {v : Value} {value slice : Expr} {Q : Value → Shared → Prop} (X : Led h₀ L s.heap m news) (hm : (D, o) ∈ news) (hd : SD prog w o kvs) (hv : valueAt kvs k = some v)
    (h : Q v { s with toks := s.toks + 1 }) (hs : subscripted slice false (.ref D) (.str k t) = operate [.ref D, .str k t] (getItem (.ref D) (.str k t)) := by with_unfolding_all rfl) :
    wpAny (model prog w) A (subscriptTail value slice (.ref D) (.str k t)) Q E s :=
  tail_any (Heap.DictOf.typeIs (Heap.dictOf_iff.mpr ⟨o, X.get hm, hd⟩)) slot_dict_getitem.lookup (getD X hm hd hv h) hs
theorem newDictL {env : Env} {pos : Pos} {Q : Value → Shared → Prop} (X : Led h₀ L s.heap m news) (T : Top p loose mean mg mb h₀)
    (k : ∀ d h' o, Led h₀ L h' m ((d, o) :: news) → (d == sysModules) = false → SD prog w o [] → Q (.ref d) { s with heap := h' }) : wpAny (model prog w) A (eval (.Dict [] [] pos) env) Q E s :=
  newDict_K X.fr X.nw T.nolimit fun d h' o F' N' hlt lo hd _ _ _ => k d h' o ⟨F', N', by
    refine List.nodup_cons.mpr ⟨fun hm => ?_, X.nd⟩
    obtain ⟨p, hp, e⟩ := List.mem_map.mp hm
    exact absurd (hlt p hp) (by rw [e]; exact Nat.lt_irrefl _)⟩ lo hd

theorem notInSL {ts : List (Str × Tok)} {n : Nat} {x : Str} {t : Tok} {Q : Value → Shared → Prop} (X : Led h₀ L s.heap m news) (hm : (D, SL ts n) ∈ news) (h : Q (.bool (!decide (x ∈ ts.map (·.1)))) s) :
    wpAny (model prog w) A (compareOp .NotIn (.str x t) (.ref D)) Q E s := by
  refine SeqInW.notIn_listW (eqS x) eqS_gives (isListSL X hm) ?_
  have e : (ts.map vstr).toArray.any (eqS x) = decide (x ∈ ts.map (·.1)) := by
    rw [Bool.eq_iff_iff]
    simp only [List.any_toArray, List.any_eq_true, List.mem_map, decide_eq_true_eq]
    constructor
    · rintro ⟨v, ⟨p, hp, rfl⟩, hv⟩
      exact ⟨p, hp, by simpa [eqS] using hv⟩
    · rintro ⟨p, hp, hv⟩
      exact ⟨_, ⟨p, hp, rfl⟩, by simpa [eqS] using hv⟩
  rw [e]; exact h

theorem unpackT {t : Addr} {its : Array Value} {n : Nat} {Q : List Value → Shared → Prop} (X : Led h₀ L s.heap m news) (hm : (t, tupOf its n) ∈ news) (hh : A.handled = none)
    (h : ∀ h', Led h₀ L h' m news → Q its.toList { s with heap := h' }) : wpAny (model prog w) A (unpackItems (.ref t) its.size none) Q E s :=
  unpackItems_tuple hh ⟨_, X.get hm, rfl, n, rfl⟩ fun h' he => h h' (X.keeps fun b o e => he b o (Nat.ne_of_lt (Heap.lt_size e)) e)
theorem assignPair {t : Addr} {a b : Value} {n : Nat} {x y : Str} {px py : Pos} {k : Nat} {pos : Pos} {Q : Unit → Shared → Prop} (X : Led h₀ env.locals s.heap m news) (hm : (t, tupOf #[a, b] n) ∈ news) (hh : A.handled = none)
    (h : ∀ h' tk, Led h₀ env.locals h' (fun z => if z = y then some b else if z = x then some a else m z) news → Q () { s with heap := h', toks := tk })
    (hk : env.scope.kind = .function := by rfl) (hx : env.kindOf x = some .local := by rfl) (hy : env.kindOf y = some .local := by rfl) :
    wpAny (model prog w) A (assign (.Tuple [.Name x px, .Name y py] k pos) env (.ref t)) Q E s := by
  show wpAny _ A (do standAt pos; unpack (.ref t) (assignEach [.Name x px, .Name y py] env)) Q E s
  refine wpAny_bind (wpAny_standAt ?_)
  unfold unpack
  refine wpAny_bind (wpAny_holding ?_)
  show wpAny _ A (unpackItems (.ref t) 2 none) _ _ _
  refine unpackT (its := #[a, b]) X hm hh (fun h₁ X₁ => ?_)
  show wpAny _ A (do holding [b] (assign (.Name x px) env a); assignInOrder [assign (.Name y py) env] [b]) Q E _
  refine wpAny_bind (wpAny_holding (wpAny_assign_Name (storeL X₁ (fun h₂ X₂ => ?_) hk hx)))
  show wpAny _ A (do holding [] (assign (.Name y py) env b); assignInOrder [] []) Q E _
  refine wpAny_bind (wpAny_holding (wpAny_assign_Name (storeL X₂ (fun h₃ X₃ => ?_) hk hy)))
  exact wpAny_pure (h h₃ _ X₃)

theorem shaped_strs {ss : List Str} (h : ss.all PyData.strOk = true) : SeqAt.shaped (.list (ss.map PyData.str)) = true := by
  simp only [SeqAt.shaped, PyData.canLay0, PyData.depth, canLayAll_strs', depthAll_strs', h]
  decide
theorem sameAll_strs : ∀ ss ts : List Str, PySem.Spec.sameAll (ss.map PyData.str) (ts.map PyData.str) = decide (ss = ts)
  | [], [] => by simp [PySem.Spec.sameAll]
  | [], _ :: _ => by simp [PySem.Spec.sameAll]
  | _ :: _, [] => by simp [PySem.Spec.sameAll]
  | a :: r, b :: t => by
    simp only [List.map_cons, PySem.Spec.sameAll, PySem.Spec.same, sameAll_strs r t]
    by_cases h : a = b <;> by_cases h' : r = t <;> simp [h, h']
theorem neStrs {a b : Addr} {ts us : List (Str × Tok)} {n k : Nat} {Q : Value → Shared → Prop} (X : Led h₀ L s.heap m news) (ha : (a, SL ts n) ∈ news) (hb : (b, SL us k) ∈ news) (ht : (ts.map (·.1)).all PyData.strOk = true) (hu' : (us.map (·.1)).all PyData.strOk = true)
    (hu : A.units + 64 < cLine) (h : Q (.bool (!decide (ts.map (·.1) = us.map (·.1)))) s) : wpAny (model prog w) A (compareOp .NotEq (.ref a) (.ref b)) Q E s :=
  ne_dataH_same (reads_newData (isListSL X ha) (strsAre_vstr ts).carried) (reads_newData (isListSL X hb) (strsAre_vstr us).carried) (shaped_strs ht) (shaped_strs hu') hu
    (SeqAt.noMix_of_shape (.list .str) rfl _ _ (list_map_has fun _ => rfl) (list_map_has fun _ => rfl)) (by simp only [PySem.Spec.same]; rw [sameAll_strs]; exact h)
noncomputable abbrev vint (p : Int × Tok) : Value := .int p.1 p.2
noncomputable abbrev IL (ts : List (Int × Tok)) (n : Nat) : Obj := listOf (ts.map vint).toArray n
theorem intsAre_vint : ∀ ts : List (Int × Tok), IntsAre (ts.map vint) (ts.map (·.1))
  | [] => .nil
  | p :: r => .cons p.1 p.2 (intsAre_vint r)
theorem isListIL {ts : List (Int × Tok)} {n : Nat} (X : Led h₀ L s.heap m news) (hm : (D, IL ts n) ∈ news) : s.heap.IsList D (ts.map vint).toArray := isListL X hm
theorem appendIL {ts : List (Int × Tok)} {x : Int} {t : Tok} {n : Nat} {Q : Value → Shared → Prop} (X : Led h₀ L s.heap m news) (u : UpdAt D (IL ts n) (IL (ts ++ [(x, t)]) (n + 1)) news news')
    (h : ∀ h', Led h₀ L h' m news' → Q .none { s with heap := h' }) (hsz : ts.length ≤ sizeLine) : wpAny (model prog w) A (call (.builtin "list.append") [.ref D, .int x t]) Q E s := by
  have e : IL (ts ++ [(x, t)]) (n + 1) = listOf ((ts.map vint).toArray.push (.int x t)) (n + 1) := by simp [IL]
  rw [e] at u
  exact appendL X u h (by simpa using hsz)
theorem notInIL {ts : List (Int × Tok)} {n : Nat} {x : Int} {t : Tok} {Q : Value → Shared → Prop} (X : Led h₀ L s.heap m news) (hm : (D, IL ts n) ∈ news) (h : Q (.bool (!decide (x ∈ ts.map (·.1)))) s) :
    wpAny (model prog w) A (compareOp .NotIn (.int x t) (.ref D)) Q E s := by
  refine SeqInW.notIn_listW (isInt x) ?_ (isListIL X hm) ?_
  · intro y hy
    obtain ⟨p, _, rfl⟩ := List.mem_map.mp (List.mem_toArray.mp hy)
    exact MeetsSeq.EqGives.int p.1 x p.2 t
  · have e : (ts.map vint).toArray.any (isInt x) = decide (x ∈ ts.map (·.1)) := by
      rw [List.any_toArray, any_isInt x (intsAre_vint ts), Bool.eq_iff_iff]
      simp only [List.any_eq_true, beq_iff_eq, decide_eq_true_eq]
      constructor
      · rintro ⟨y, hy, rfl⟩; exact hy
      · intro hy; exact ⟨x, hy, rfl⟩
    rw [e]; exact h
theorem minIL {ts : List (Int × Tok)} {n : Nat} {Q : Value → Shared → Prop} (X : Led h₀ L s.heap m news) (hm : (D, IL ts n) ∈ news) (hne : ts ≠ []) (hh : A.handled = none)
    (h : ∀ h' M t tk, Led h₀ L h' m news → M ∈ ts.map (·.1) → (∀ a ∈ ts.map (·.1), M ≤ a) → Q (.int M t) { s with heap := h', toks := tk }) : wpAny (model prog w) A (call (.builtin "min") [.ref D]) Q E s :=
  min_list_N hh X.fr X.nw (isListIL X hm) (intsAre_vint ts) (by cases ts with | nil => exact absurd rfl hne | cons _ _ => simp) fun h' M t tk F N a b => h h' M t tk ⟨F, N, X.nd⟩ a b
theorem lenL {its : Array Value} {n : Nat} {Q : Value → Shared → Prop} (X : Led h₀ L s.heap m news) (hm : (D, listOf its n) ∈ news) (hz : its.size ≤ sizeLine) (h : Q (.int its.size (s.toks + 1)) { s with toks := s.toks + 1 + 1 }) :
    wpAny (model prog w) A (call (.builtin "len") [.ref D]) Q E s := len_list (isListL X hm) (by rw [sizeLine_eq] at hz; omega) h
noncomputable abbrev rgOf (a b : Int) (t u v : Tok) : Obj := { cls := .type "range", data := .fields #[.int a t, .int b u, .int 1 v] }
theorem range1L {n : Int} {t : Tok} {Q : Value → Shared → Prop} (X : Led h₀ L s.heap m news)
    (h : ∀ r h' t' v tk, Led h₀ L h' m ((r, rgOf 0 n t' t v) :: news) → Q (.ref r) { s with heap := h', toks := tk }) : wpAny (model prog w) A (call (.type "range") [.int n t]) Q E s :=
  call_range_1 (h _ _ _ _ _ (X.more (fun _ _ e => Heap.get?_push_of_some _ e) (Heap.get?_push_size _ rfl)))
theorem range2L {a b : Int} {t u : Tok} {Q : Value → Shared → Prop} (X : Led h₀ L s.heap m news)
    (h : ∀ r h' v tk, Led h₀ L h' m ((r, rgOf a b t u v) :: news) → Q (.ref r) { s with heap := h', toks := tk }) : wpAny (model prog w) A (call (.type "range") [.int a t, .int b u]) Q E s :=
  call_range_2 (h _ _ _ _ (X.more (fun _ _ e => Heap.get?_push_of_some _ e) (Heap.get?_push_size _ rfl)))
theorem iterRg {a : Int} {k : Nat} {t u v : Tok} {r : Addr} {Q : Value → Shared → Prop} (X : Led h₀ L s.heap m news) (hm : (r, rgOf a (a + k) t u v) ∈ news) (ha : 0 ≤ a) (hb : a + k < 1000000)
    (h : ∀ I h' its, RgSt I a k 0 its → Led h₀ L h' m (its ++ news) → Q (.ref I) { s with heap := h' }) : wpAny (model prog w) A (pyIter (.ref r)) Q E s := by
  have hz : Builtin.Range.rangeSize a (a + k) 1 = (k : Int) := by rw [rangeSize_one]; split <;> omega
  refine wpAny_pyIter_range (a := a) (b := a + k) (c := 1) (X.get hm) (small_one (by omega) (by omega) (by omega) (by omega)) (h _ _ [(s.heap.objs.size, _)] ?_ (X.more (fun _ _ e => Heap.get?_push_of_some _ e) (Heap.get?_push_size _ rfl)))
  unfold RgSt
  rw [hz]; simp
theorem iterList {its : Array Value} {n : Nat} {Q : Value → Shared → Prop} (X : Led h₀ L s.heap m news) (hm : (D, listOf its n) ∈ news)
    (h : ∀ I h' ent, ItSt "list_iterator" I D 0 ent → Led h₀ L h' m (ent ++ news) → Q (.ref I) { s with heap := h' }) : wpAny (model prog w) A (pyIter (.ref D)) Q E s :=
  wpAny_pyIter_list (isListL X hm) (h _ _ [(s.heap.objs.size, _)] ⟨_, rfl, rfl, rfl⟩ (X.more (fun _ _ e => Heap.get?_push_of_some _ e) (Heap.get?_push_size _ rfl)))
theorem srcL {its : Array Value} {n : Nat} (hm : (D, listOf its n) ∈ news) : SrcIn h₀ "list" D its news := ⟨_, n, rfl, rfl, .inl hm⟩
end
end Mine
end

section
open PySem PySem.W PyProof.Rows PySem.Calls PySem.Spec
set_option maxRecDepth 100000
namespace Mine
noncomputable abbrev PR : Program := PySem.Challenge.rw_pd0045_01.prog

structure Wp (w : World) (A : Around) {α : Type} (t : Sem α) (Q : α → Shared → Prop) (s : Shared) : Prop where
  out : wpAny (model PR w) A t Q No s

namespace Wp
section
variable {w : World} {A : Around} {α : Type} {s : Shared} {env : Env}
theorem to {t : Sem α} {Q : α → Shared → Prop} {E : Value → Shared → Prop} (h : Wp w A t Q s) : wpAny (model PR w) A t Q E s := wpAny_mono h.out (fun _ _ x => x) fun _ _ x => x.elim
theorem mono {t : Sem α} {Q Q' : α → Shared → Prop} (h : Wp w A t Q s) (k : ∀ a s, Q a s → Q' a s) : Wp w A t Q' s := ⟨wpAny_mono h.out k fun _ _ x => x⟩
theorem toks {α : Type} {t : Sem α} {Q Q' : α → Shared → Prop} (h : Wp w A t Q s) (k : ∀ a s', s.toks ≤ s'.toks → Q a s' → Q' a s') : Wp w A t Q' s :=
  ⟨wpAny_mono (wpAny_toks h.out) (fun a s' x => k a s' x.1 x.2) fun _ _ x => x.2⟩
theorem seq {st : Stmt} {rest : List Stmt} {Q : Flow → Shared → Prop} (h : Wp w A (exec st env) (fun f s' => match f with | .next => Wp w A (execs rest env) Q s' | f => Q f s') s) : Wp w A (execs (st :: rest) env) Q s :=
  ⟨wpAny_execs_cons (wpAny_mono h.out (fun f s' x => by cases f <;> first | exact x.out | exact x) fun _ _ x => x)⟩
structure Out (Q K : Flow → Shared → Prop) : Prop where
  cont : ∀ s, Q .cont s → K .cont s
  brk : ∀ s, Q .brk s → K .brk s
  ret : ∀ v s, Q (.ret v) s → K (.ret v) s
theorem seqH {st : Stmt} {rest : List Stmt} {Q : Flow → Shared → Prop} (h : ∀ K : Flow → Shared → Prop, (∀ s', Wp w A (execs rest env) Q s' → K .next s') → Out Q K → Wp w A (exec st env) K s) : Wp w A (execs (st :: rest) env) Q s :=
  seq (h _ (fun _ x => x) ⟨fun _ x => x, fun _ x => x, fun _ _ x => x⟩)
theorem done {Q : Flow → Shared → Prop} (h : Q .next s) : Wp w A (execs [] env) Q s := ⟨wpAny_execs_nil h⟩
theorem assign {x : Str} {pos' : Pos} {value : Expr} {pos : Pos} {Q : Flow → Shared → Prop} (hs : swapsWith value (some (.Name x pos')) pos.line env = pure false)
    (h : Wp w A (eval value env) (fun v s₁ => Wp w A (storeName env x v) (fun _ => Q .next) s₁) s) : Wp w A (exec (.Assign [.Name x pos'] value pos) env) Q s :=
  ⟨wpAny_Assign_Name (wpAny_mono h.out (fun _ _ x => x.out) fun _ _ x => x) hs⟩
theorem assignT {elts : List Expr} {k : Nat} {tpos pos : Pos} {value : Expr} {Q : Flow → Shared → Prop} (hs : swapsWithSole [.Tuple elts k tpos] value pos.line env = pure false) (hw : swappedStores [.Tuple elts k tpos] value env = pure none)
    (h : Wp w A (eval value env) (fun v s₁ => Wp w A (PySem.assign (.Tuple elts k tpos) env v) (fun _ => Q .next) s₁) s) : Wp w A (exec (.Assign [.Tuple elts k tpos] value pos) env) Q s :=
  ⟨Assign_Tuple (wpAny_mono h.out (fun _ _ x => x.out) fun _ _ x => x) hs hw⟩
theorem assignI {o i value : Expr} {pos' pos : Pos} {Q : Flow → Shared → Prop} (hs : swapsWith value (some (.Subscript o i pos')) pos.line env = pure false)
    (h : Wp w A (eval value env) (fun v s₁ => Wp w A (eval o env) (fun ov s₂ => Wp w A (eval i env) (fun iv s₃ => Wp w A (setItem ov iv v) (fun _ => Q .next) s₃) s₂) s₁) s) : Wp w A (exec (.Assign [.Subscript o i pos'] value pos) env) Q s :=
  ⟨wpAny_Assign_Subscript (wpAny_mono h.out (fun _ _ x => wpAny_mono x.out (fun _ _ x => wpAny_mono x.out (fun _ _ x => x.out) fun _ _ x => x) fun _ _ x => x) fun _ _ x => x) hs⟩
theorem expr {e : Expr} {pos : Pos} {Q : Flow → Shared → Prop} (hi : interactive env = false) (hs : swapsWith e none pos.line env = pure false) (h : Wp w A (eval e env) (fun v s' => match v with | .ref _ => False | _ => Q .next s') s) : Wp w A (exec (.Expr e pos) env) Q s :=
  ⟨wpAny_Expr (wpAny_mono h.out (fun v s' x => x) fun _ _ x => x) hi hs⟩
theorem ret {e : Expr} {pos : Pos} {Q : Flow → Shared → Prop} (h : Wp w A (eval e env) (fun v => Q (.ret v)) s) : Wp w A (exec (.Return (some e) pos) env) Q s := ⟨wpAny_Return_some h.out⟩
theorem iff {test : Expr} {body orelse : List Stmt} {pos : Pos} {Q : Flow → Shared → Prop} (h : Wp w A (isTrue test env (eval test env)) (fun b s₂ => if b then Wp w A (execs body env) Q s₂ else Wp w A (execs orelse env) Q s₂) s) : Wp w A (exec (.If test body orelse pos) env) Q s :=
  ⟨wpAny_If (wpAny_mono h.out (fun b s' x => by cases b <;> exact x.out) fun _ _ x => x)⟩
theorem ifExp {test body orelse : Expr} {pos : Pos} {Q : Value → Shared → Prop} (h : Wp w A (isTrue test env (eval test env)) (fun b s₂ => if b then Wp w A (eval body env) Q s₂ else Wp w A (eval orelse env) Q s₂) s) : Wp w A (eval (.IfExp test body orelse pos) env) Q s :=
  ⟨wpAny_IfExp (wpAny_mono h.out (fun b s' x => by cases b <;> exact x.out) fun _ _ x => x)⟩
theorem brk {pos : Pos} {Q : Flow → Shared → Prop} (h : Q .brk s) : Wp w A (exec (.Break pos) env) Q s := ⟨wpAny_Break h⟩
theorem try_ {body orelse : List Stmt} {h₀ : ExceptHandler} {hs : List ExceptHandler} {pos : Pos} {Q : Flow → Shared → Prop}
    (h : Wp w A (execs body env) (fun f s₁ => match f with | .next => Wp w A (execs orelse env) Q s₁ | f => Q f s₁) s) : Wp w A (exec (.Try body (h₀ :: hs) orelse [] pos) env) Q s :=
  ⟨wpAny_Try_except (wpAny_mono h.out (fun f s' x => by cases f <;> first | exact x.out | exact x) fun _ _ x => x.elim)⟩
theorem truthOf {e : Expr} {whole : Sem Value} {Q : Bool → Shared → Prop} (he : isTrue e env whole = (do let v ← whole; standAt e.pos; holding [v] (truthy v))) (h : Wp w A whole (fun v s₁ => Wp w A (truthy v) Q s₁) s) : Wp w A (isTrue e env whole) Q s :=
  ⟨wpAny_isTrue_value (wpAny_mono h.out (fun _ _ x => x.out) fun _ _ x => x) he⟩
theorem truthCmp {l r : Expr} {op : CmpOp} {pos : Pos} {whole : Sem Value} {Q : Bool → Shared → Prop} (hm : behindInMarks op r = false)
    (h : Wp w A (eval l env) (fun a s₁ => Wp w A (eval r env) (fun b s₂ => Wp w A (compareOp op a b) (fun c s₃ => Wp w A (truthy c) Q s₃) s₂) s₁) s) : Wp w A (isTrue (.Compare l [op] [r] pos) env whole) Q s :=
  ⟨wpAny_isTrue_Compare1 (wpAny_mono h.out (fun _ _ x => wpAny_mono x.out (fun _ _ x => wpAny_mono x.out (fun _ _ x => x.out) fun _ _ x => x) fun _ _ x => x) fun _ _ x => x) hm⟩
theorem truthNot {x : Expr} {pos : Pos} {whole : Sem Value} {Q : Bool → Shared → Prop} (h : Wp w A (isTrue x env (eval x env)) (fun b s₁ => Q (!b) s₁) s) : Wp w A (isTrue (.UnaryOp .Not x pos) env whole) Q s := ⟨wpAny_isTrue_Not h.out⟩
theorem truthAnd2 {x y : Expr} {pos : Pos} {whole : Sem Value} {Q : Bool → Shared → Prop} (h : Wp w A (isTrue x env (eval x env)) (fun b s₁ => if b then Wp w A (isTrue y env (eval y env)) Q s₁ else Q false s₁) s) : Wp w A (isTrue (.BoolOp .And [x, y] pos) env whole) Q s :=
  ⟨wpAny_isTrue_BoolOp (wpAny_allTrue_And_cons (wpAny_mono h.out (fun b s' x => by
    cases b
    · exact x
    · refine wpAny_allTrue_And_cons (wpAny_mono x.out (fun b s'' y => ?_) fun _ _ x => x)
      cases b
      · exact y
      · exact wpAny_allTrue_And_nil y) fun _ _ x => x))⟩
theorem truthOr2 {x y : Expr} {pos : Pos} {whole : Sem Value} {Q : Bool → Shared → Prop} (h : Wp w A (isTrue x env (eval x env)) (fun b s₁ => if b then Q true s₁ else Wp w A (isTrue y env (eval y env)) Q s₁) s) : Wp w A (isTrue (.BoolOp .Or [x, y] pos) env whole) Q s :=
  ⟨wpAny_isTrue_BoolOp (wpAny_allTrue_Or_cons (wpAny_mono h.out (fun b s' x => by
    cases b
    · refine wpAny_allTrue_Or_cons (wpAny_mono x.out (fun b s'' y => ?_) fun _ _ x => x)
      cases b
      · exact wpAny_allTrue_Or_nil y
      · exact y
    · exact x) fun _ _ x => x))⟩
theorem truthB {b : Bool} {Q : Bool → Shared → Prop} (h : Q b s) : Wp w A (truthy (.bool b)) Q s := ⟨wpAny_truthy_bool h⟩
theorem cmp {l r : Expr} {op : CmpOp} {pos : Pos} {Q : Value → Shared → Prop} (hm : behindInMarks op r = false)
    (h : Wp w A (eval l env) (fun a s₁ => Wp w A (eval r env) (fun b s₂ => Wp w A (compareOp op a b) Q s₂) s₁) s) : Wp w A (eval (.Compare l [op] [r] pos) env) Q s :=
  ⟨wpAny_Compare1 (wpAny_mono h.out (fun _ _ x => wpAny_mono x.out (fun _ _ x => x.out) fun _ _ x => x) fun _ _ x => x) hm⟩
theorem bin {l r : Expr} {op : Operator} {pos : Pos} {Q : Value → Shared → Prop} (h : Wp w A (eval l env) (fun a s₁ => Wp w A (eval r env) (fun b s₂ => Wp w A (binaryOp op a b) Q s₂) s₁) s) : Wp w A (eval (.BinOp l op r pos) env) Q s :=
  ⟨wpAny_BinOp (wpAny_mono h.out (fun _ _ x => wpAny_mono x.out (fun _ _ x => x.out) fun _ _ x => x) fun _ _ x => x)⟩
theorem sub {value slice : Expr} {pos : Pos} {Q : Value → Shared → Prop} (h : Wp w A (eval value env) (fun o s₁ => Wp w A (eval slice env) (fun i s₂ => Wp w A (subscriptTail value slice o i) Q s₂) s₁) s) : Wp w A (eval (.Subscript value slice pos) env) Q s :=
  ⟨Subscript_ (wpAny_mono h.out (fun _ _ x => wpAny_mono x.out (fun _ _ x => x.out) fun _ _ x => x) fun _ _ x => x)⟩
theorem cInt {hp0 : Heap} {tk0 : Nat} {i : Int} {k : Nat} {pos : Pos} {Q : Value → Shared → Prop} (h : Q (.int i tk0) { s with heap := hp0, toks := tk0 + 1 }) : Wp w A (eval (.Constant (.int i) k pos) env) Q { s with heap := hp0, toks := tk0 } := ⟨wpAny_Constant_int h⟩
theorem cStr {hp0 : Heap} {tk0 : Nat} {x : Str} {k : Nat} {pos : Pos} {Q : Value → Shared → Prop} (h : Q (.str x tk0) { s with heap := hp0, toks := tk0 + 1 }) : Wp w A (eval (.Constant (.str x) k pos) env) Q { s with heap := hp0, toks := tk0 } := ⟨wpAny_Constant_str h⟩
theorem call_ {func : Expr} {args : List Expr} {pos : Pos} {Q : Value → Shared → Prop} (he : eval (.Call func args [] pos) env = (do callWith pos (← eval func env) [] (backTo pos (starEach args env)) (backToKw pos (keywordEach [] env))))
    (h : Wp w A (eval func env) (fun f s₁ => Wp w A (callWith pos f [] (backTo pos (starEach args env)) []) Q s₁) s) : Wp w A (eval (.Call func args [] pos) env) Q s :=
  ⟨Call_ (wpAny_mono h.out (fun _ _ x => x.out) fun _ _ x => x) he⟩
theorem callN {f : Str} {p : Pos} {args : List Expr} {pos : Pos} {Q : Value → Shared → Prop}
    (h : Wp w A (eval (.Name f p) env) (fun f s₁ => Wp w A (callWith pos f [] (backTo pos (starEach args env)) []) Q s₁) s) : Wp w A (eval (.Call (.Name f p) args [] pos) env) Q s := call_ rfl h
theorem mcall {o : Expr} {name : Str} {apos pos : Pos} {args : List Expr} {pl : Sem Bool} {Q : Value → Shared → Prop}
    (he : eval (.Call (.Attribute o name apos) args [] pos) env = (do
      let ov ← eval o env
      standAt apos.atName
      let (f, first) ← holding [ov] (getMethod ov name pl)
      callWith pos f first (backTo pos (starEach args env)) []))
    (h : Wp w A (eval o env) (fun ov s₁ => Wp w A (getMethod ov name pl) (fun fx s₂ => Wp w A (callWith pos fx.1 fx.2 (backTo pos (starEach args env)) []) Q s₂) s₁) s) : Wp w A (eval (.Call (.Attribute o name apos) args [] pos) env) Q s :=
  ⟨MethodCall_ (wpAny_mono h.out (fun _ _ x => wpAny_mono x.out (fun _ _ x => x.out) fun _ _ x => x) fun _ _ x => x) he⟩
theorem withM {pos : Pos} {id : String} {first : List Value} {e : Expr} {rest : List Expr} {Q : Value → Shared → Prop} (he : starEach (e :: rest) env = (false, eval e env) :: starEach rest env) (hp : (backTo pos (starEach rest env)).any (·.1) = false)
    (h : Wp w A (spliced (backTo pos (starEach (e :: rest) env))) (fun vs s₁ => Wp w A (PySem.call (.builtin id) (first ++ vs)) Q s₁) s) : Wp w A (callWith pos (.builtin id) first (backTo pos (starEach (e :: rest) env)) []) Q s :=
  ⟨callWith_method1 (wpAny_mono h.out (fun _ _ x => x.out) fun _ _ x => x) he hp⟩
theorem withB {pos : Pos} {id : String} {e : Expr} {rest : List Expr} {Q : Value → Shared → Prop} (he : starEach (e :: rest) env = (false, eval e env) :: starEach rest env) (hp : (backTo pos (starEach rest env)).any (·.1) = false)
    (h : Wp w A (spliced (backTo pos (starEach (e :: rest) env))) (fun vs s₁ => Wp w A (PySem.call (.builtin id) vs) Q s₁) s) : Wp w A (callWith pos (.builtin id) [] (backTo pos (starEach (e :: rest) env)) []) Q s :=
  ⟨callWith_builtin1 (wpAny_mono h.out (fun _ _ x => x.out) fun _ _ x => x) he hp⟩
theorem withT {pos : Pos} {T : String} {e : Expr} {rest : List Expr} {Q : Value → Shared → Prop} (he : starEach (e :: rest) env = (false, eval e env) :: starEach rest env) (hp : (backTo pos (starEach rest env)).any (·.1) = false)
    (h : Wp w A (spliced (backTo pos (starEach (e :: rest) env))) (fun vs s₁ => Wp w A (PySem.call (.type T) vs) Q s₁) s) : Wp w A (callWith pos (.type T) [] (backTo pos (starEach (e :: rest) env)) []) Q s :=
  ⟨PyProof.Rows.callWith_type1 (wpAny_mono h.out (fun _ _ x => x.out) fun _ _ x => x) he hp⟩
theorem withD {K : Frag} {h₀ : Heap} {pos : Pos} {f : Addr} {e : Expr} {rest : List Expr} {Q : Value → Shared → Prop} (KX : K.In h₀) (hk : keepIn K (.ref f) = true) (he : starEach (e :: rest) env = (false, eval e env) :: starEach rest env) (hp : (backTo pos (starEach rest env)).any (·.1) = false)
    (h : Wp w A (spliced (backTo pos (starEach (e :: rest) env))) (fun vs s₁ => (∀ b o, h₀.get? b = some o → s₁.heap.get? b = some o) ∧ Wp w A (PySem.call (.ref f) vs) Q s₁) s) : Wp w A (callWith pos (.ref f) [] (backTo pos (starEach (e :: rest) env)) []) Q s :=
  ⟨callWith_K KX hk (wpAny_mono h.out (fun _ _ x => ⟨KX.keeps x.1, x.2.out⟩) fun _ _ x => x) he hp⟩
theorem arg {e : Expr} {rest : List Expr} {pos : Pos} {Q : List Value → Shared → Prop} (he : starEach (e :: rest) env = (false, eval e env) :: starEach rest env)
    (h : Wp w A (eval e env) (fun v s₁ => Wp w A (spliced (backTo pos (starEach rest env))) (fun vs s₂ => Q (v :: vs) s₂) s₁) s) : Wp w A (spliced (backTo pos (starEach (e :: rest) env))) Q s :=
  ⟨spliced_more (wpAny_mono h.out (fun _ _ x => x.out) fun _ _ x => x) he⟩
theorem args {pos : Pos} {Q : List Value → Shared → Prop} (h : Q [] s) : Wp w A (spliced (backTo pos (starEach [] env))) Q s := ⟨spliced_none h⟩
theorem eList {elts : List Expr} {pos : Pos} {Q : Value → Shared → Prop} (h : Wp w A (spliced (backTo pos (starEach elts env))) (fun vs s₁ => Wp w A (newList vs) Q s₁) s) : Wp w A (eval (.List elts pos) env) Q s := ⟨List_ (wpAny_mono h.out (fun _ _ x => x.out) fun _ _ x => x)⟩
theorem eTuple {elts : List Expr} {k : Nat} {pos : Pos} {Q : Value → Shared → Prop} (h : Wp w A (spliced (backTo pos (starEach elts env))) (fun vs s₁ => Wp w A (newTuple vs) Q s₁) s) : Wp w A (eval (.Tuple elts k pos) env) Q s := ⟨Tuple_ (wpAny_mono h.out (fun _ _ x => x.out) fun _ _ x => x)⟩
theorem aug {x : Str} {pos' pos : Pos} {op : Operator} {value : Expr} {Q : Flow → Shared → Prop}
    (h : Wp w A (loadName env x) (fun old s₁ => Wp w A (eval value env) (fun v s₂ => Wp w A (inplaceOp op old v) (fun r s₃ => Wp w A (storeName env x r) (fun _ => Q .next) s₃) s₂) s₁) s) : Wp w A (exec (.AugAssign (.Name x pos') op value pos) env) Q s :=
  ⟨wpAny_AugAssign_Name (wpAny_mono h.out (fun _ _ x => wpAny_mono x.out (fun _ _ x => wpAny_mono x.out (fun _ _ x => x.out) fun _ _ x => x) fun _ _ x => x) fun _ _ x => x)⟩
end

section
variable {w : World} {A : Around} {s : Shared} {h₀ : Heap} {L D : Addr} {m : Str → Option Value} {env : Env} {news news' : List (Addr × Obj)} {K : Frag} {p : Program} {loose : List Str} {mean : ExcName → Option Value} {mg mb : Str → Option Value}
theorem nL {x : Str} {pos : Pos} {v : Value} {Q : Value → Shared → Prop} (hk : env.scope.kind = .function) (hx : env.kindOf x = some .local) (hd : (x == ("__debug__" : Str)) = false) (X : Led h₀ env.locals s.heap m news) (hv : m x = some v) (h : Q v s) : Wp w A (eval (.Name x pos) env) Q s := ⟨nameL X hv h hk hx hd⟩
theorem lL {x : Str} {v : Value} {Q : Value → Shared → Prop} (hk : env.scope.kind = .function) (hx : env.kindOf x = some .local) (X : Led h₀ env.locals s.heap m news) (hv : m x = some v) (h : Q v s) : Wp w A (loadName env x) Q s := ⟨wpAny_loadName_local hk hx X.fr.ns hv h⟩
theorem sL {hp0 : Heap} {tk0 : Nat} {x : Str} {v : Value} {Q : Unit → Shared → Prop} (hk : env.scope.kind = .function) (hx : env.kindOf x = some .local) (X : Led h₀ env.locals hp0 m news) (h : ∀ h', Led h₀ env.locals h' (fun y => if y = x then some v else m y) news → Q () { s with heap := h', toks := tk0 + 1 }) : Wp w A (storeName env x v) Q { s with heap := hp0, toks := tk0 } := ⟨storeL X h hk hx⟩
theorem nC {x : Str} {pos : Pos} {v : Value} {c : Addr} {o : Obj} {Q : Value → Shared → Prop} (hk : env.scope.kind = .function) (hx : env.kindOf x = some .cell) (hb : (x == ("__debug__" : Str)) = false) (hc : env.cells.lookup x = some c) (X : Led h₀ L s.heap m news) (hm : (c, o) ∈ news) (hd : o.data = .cell (some v)) (h : Q v s) : Wp w A (eval (.Name x pos) env) Q s := ⟨nameC X hc hm hd h hk hx hb⟩
theorem sC {hp0 : Heap} {tk0 : Nat} {x : Str} {v : Value} {v₀ : Option Value} {c : Addr} {o : Obj} {Q : Unit → Shared → Prop} {g : Obj → List (Addr × Obj)} (hk : env.scope.kind = .function) (hx : env.kindOf x = some .cell) (hc : env.cells.lookup x = some c) (X : Led h₀ L hp0 m news) (u : ∀ o', UpdAt c o o' news (g o')) (hd : o.data = .cell v₀)
    (h : ∀ h' o', o'.data = .cell (some v) → Led h₀ L h' m (g o') → Q () { s with heap := h', toks := tk0 }) : Wp w A (storeName env x v) Q { s with heap := hp0, toks := tk0 } := ⟨storeC X hc u hd h hk hx⟩
theorem nG {x : Str} {pos : Pos} {v : Value} {Q : Value → Shared → Prop} (hg : env.globals = mainGlobals) (hk : env.scope.kind = .function) (hx : env.kindOf x = some .globalImplicit) (hd : (x == ("__debug__" : Str)) = false) (X : Led h₀ L s.heap m news) (KX : K.In h₀) (T : Top p loose mean mg mb h₀) (e : nsIn K mainGlobals x = some (some v)) (h : Q v s) : Wp w A (eval (.Name x pos) env) Q s := ⟨nameGl X KX T e h hg hk hx hd⟩
theorem nB {x : Str} {pos : Pos} {v : Value} {Q : Value → Shared → Prop} (hn : x ≠ "__name__") (hg : env.globals = mainGlobals) (hb : env.builtins = builtinsNs) (hk : env.scope.kind = .function) (hx : env.kindOf x = some .globalImplicit) (hd : (x == ("__debug__" : Str)) = false) (X : Led h₀ L s.heap m news) (KX : K.In h₀) (T : Top p loose mean mg mb h₀) (e : nsIn K mainGlobals x = some none) (hv : bootBuiltins x = some v) (h : Q v s) : Wp w A (eval (.Name x pos) env) Q s := ⟨nameBl X KX T e hv h hn hg hb hk hx hd⟩
theorem strM {x : Str} {t : Tok} {name : Str} {id : String} {pl : Sem Bool} {Q : Value × List Value → Shared → Prop} (slot : Slot "str" name id) (hty : typeOf (.builtin id) = pure (.type "method_descriptor")) (h : Q (.builtin id, [.str x t]) s) : Wp w A (getMethod (.str x t) name pl) Q s := ⟨strMeth slot hty h⟩
theorem listM {its : Array Value} {n : Nat} {name : Str} {id : String} {pl : Sem Bool} {Q : Value × List Value → Shared → Prop} (X : Led h₀ L s.heap m news) (hm : (D, listOf its n) ∈ news) (slot : Slot "list" name id) (hty : typeOf (.builtin id) = pure (.type "method_descriptor")) (h : Q (.builtin id, [.ref D]) s) : Wp w A (getMethod (.ref D) name pl) Q s := ⟨methL X hm slot hty h⟩
theorem nwList {hp0 : Heap} {tk0 : Nat} {vs : List Value} {Q : Value → Shared → Prop} (X : Led h₀ L hp0 m news) (hsz : vs.length ≤ 1000) (h : ∀ a h', Led h₀ L h' m ((a, listOf vs.toArray 0) :: news) → Q (.ref a) { s with heap := h', toks := tk0 }) : Wp w A (newList vs) Q { s with heap := hp0, toks := tk0 } := ⟨newListL X h (by rw [sizeLine_eq]; omega)⟩
theorem nwTuple {hp0 : Heap} {tk0 : Nat} {vs : List Value} {Q : Value → Shared → Prop} (X : Led h₀ L hp0 m news) (hsz : vs.length ≤ 1000) (h : ∀ a h', Led h₀ L h' m ((a, tupOf vs.toArray 0) :: news) → Q (.ref a) { s with heap := h', toks := tk0 }) : Wp w A (newTuple vs) Q { s with heap := hp0, toks := tk0 } := ⟨newTupleL X h (by rw [sizeLine_eq]; omega)⟩
theorem nwDict {hp0 : Heap} {tk0 : Nat} {pos : Pos} {Q : Value → Shared → Prop} (X : Led h₀ L hp0 m news) (T : Top p loose mean mg mb h₀) (k : ∀ d h' o, Led h₀ L h' m ((d, o) :: news) → (d == sysModules) = false → SD PR w o [] → Q (.ref d) { s with heap := h', toks := tk0 }) : Wp w A (eval (.Dict [] [] pos) env) Q { s with heap := hp0, toks := tk0 } := ⟨newDictL X T k⟩
theorem appendS {hp0 : Heap} {tk0 : Nat} {ts : List (Str × Tok)} {x : Str} {t : Tok} {n : Nat} {Q : Value → Shared → Prop} (X : Led h₀ L hp0 m news) (u : UpdAt D (SL ts n) (SL (ts ++ [(x, t)]) (n + 1)) news news') (hsz : ts.length ≤ 1000) (h : ∀ h', Led h₀ L h' m news' → Q .none { s with heap := h', toks := tk0 }) : Wp w A (PySem.call (.builtin "list.append") [.ref D, .str x t]) Q { s with heap := hp0, toks := tk0 } := ⟨appendSL X u h (by rw [sizeLine_eq]; omega)⟩
theorem appendI {hp0 : Heap} {tk0 : Nat} {ts : List (Int × Tok)} {x : Int} {t : Tok} {n : Nat} {Q : Value → Shared → Prop} (X : Led h₀ L hp0 m news) (u : UpdAt D (IL ts n) (IL (ts ++ [(x, t)]) (n + 1)) news news') (hsz : ts.length ≤ 1000) (h : ∀ h', Led h₀ L h' m news' → Q .none { s with heap := h', toks := tk0 }) : Wp w A (PySem.call (.builtin "list.append") [.ref D, .int x t]) Q { s with heap := hp0, toks := tk0 } := ⟨appendIL X u h (by rw [sizeLine_eq]; omega)⟩
theorem sorted {hp0 : Heap} {tk0 : Nat} {ts : List (Str × Tok)} {n : Nat} {Q : Value → Shared → Prop} (X : Led h₀ L hp0 m news) (hm : (D, SL ts n) ∈ news) (h64 : ts.length < 64)
    (h : ∀ a h' ts' e, Led h₀ L h' m ((a, SL ts' e) :: news) → (ts'.map (·.1)).Perm (ts.map (·.1)) → sortedS (ts'.map (·.1)) = true → Q (.ref a) { s with heap := h', toks := tk0 }) : Wp w A (PySem.call (.builtin "sorted") [.ref D]) Q { s with heap := hp0, toks := tk0 } := ⟨sortedL X hm h64 h⟩
theorem join {hp0 : Heap} {tk0 : Nat} {ts : List (Str × Tok)} {n : Nat} {x : Str} {t : Tok} {Q : Value → Shared → Prop} (X : Led h₀ L hp0 m news) (hm : (D, SL ts n) ∈ news) (hok : ((ts.map (·.1)).map (·.length)).sum + ts.length * x.length ≤ 16777216) (h : ∀ t' k, Q (.str (Txt.join x (ts.map (·.1))) t') { s with heap := hp0, toks := k }) : Wp w A (PySem.call (.builtin "str.join") [.str x t, .ref D]) Q { s with heap := hp0, toks := tk0 } := ⟨joinL X hm hok h⟩
theorem copy {hp0 : Heap} {tk0 : Nat} {its : Array Value} {n : Nat} {Q : Value → Shared → Prop} (X : Led h₀ L hp0 m news) (hm : (D, listOf its n) ∈ news) (hsz : its.size ≤ 1000) (h : ∀ a c h', Led h₀ L h' m ((a, listOf its c) :: news) → Q (.ref a) { s with heap := h', toks := tk0 }) : Wp w A (PySem.call (.type "list") [.ref D]) Q { s with heap := hp0, toks := tk0 } := ⟨copyL X hm h (by rw [sizeLine_eq]; omega)⟩
theorem dNotIn {hp0 : Heap} {tk0 : Nat} {o : Obj} {kvs : List (Str × Value)} {k : Str} {t : Tok} {Q : Value → Shared → Prop} (X : Led h₀ L hp0 m news) (hm : (D, o) ∈ news) (hd : SD PR w o kvs) (lo : (D == sysModules) = false) (h : Q (.bool (!(valueAt kvs k).isSome)) { s with heap := hp0, toks := tk0 + 1 }) : Wp w A (compareOp .NotIn (.str k t) (.ref D)) Q { s with heap := hp0, toks := tk0 } := ⟨notInD X hm hd lo h⟩
theorem dSet {hp0 : Heap} {tk0 : Nat} {o : Obj} {kvs : List (Str × Value)} {k : Str} {t : Tok} {v : Value} {g : Obj → List (Addr × Obj)} {Q : Unit → Shared → Prop} (X : Led h₀ L hp0 m news) (u : ∀ o', UpdAt D o o' news (g o')) (hd : SD PR w o kvs) (hsz : kvs.length ≤ 1000)
    (h : ∀ h' o', SD PR w o' (stored kvs k v) → Led h₀ L h' m (g o') → Q () { s with heap := h', toks := tk0 + 1 }) : Wp w A (setItem (.ref D) (.str k t) v) Q { s with heap := hp0, toks := tk0 } := ⟨setD X u hd h (by rw [sizeLine_eq]; omega)⟩
theorem dGet {hp0 : Heap} {tk0 : Nat} {o : Obj} {kvs : List (Str × Value)} {k : Str} {t : Tok} {v : Value} {value slice : Expr} {Q : Value → Shared → Prop} (hs : subscripted slice false (.ref D) (.str k t) = operate [.ref D, .str k t] (getItem (.ref D) (.str k t))) (X : Led h₀ L hp0 m news) (hm : (D, o) ∈ news) (hd : SD PR w o kvs) (hv : valueAt kvs k = some v)
    (h : Q v { s with heap := hp0, toks := tk0 + 1 }) : Wp w A (subscriptTail value slice (.ref D) (.str k t)) Q { s with heap := hp0, toks := tk0 } := ⟨tailD X hm hd hv h hs⟩
theorem notInS {ts : List (Str × Tok)} {n : Nat} {x : Str} {t : Tok} {Q : Value → Shared → Prop} (X : Led h₀ L s.heap m news) (hm : (D, SL ts n) ∈ news) (h : Q (.bool (!decide (x ∈ ts.map (·.1)))) s) : Wp w A (compareOp .NotIn (.str x t) (.ref D)) Q s := ⟨notInSL X hm h⟩
theorem notInI {ts : List (Int × Tok)} {n : Nat} {x : Int} {t : Tok} {Q : Value → Shared → Prop} (X : Led h₀ L s.heap m news) (hm : (D, IL ts n) ∈ news) (h : Q (.bool (!decide (x ∈ ts.map (·.1)))) s) : Wp w A (compareOp .NotIn (.int x t) (.ref D)) Q s := ⟨notInIL X hm h⟩
theorem pair {hp0 : Heap} {tk0 : Nat} {t : Addr} {a b : Value} {n : Nat} {x y : Str} {px py : Pos} {k : Nat} {pos : Pos} {Q : Unit → Shared → Prop} (hk : env.scope.kind = .function) (hx : env.kindOf x = some .local) (hy : env.kindOf y = some .local) (X : Led h₀ env.locals hp0 m news) (hm : (t, tupOf #[a, b] n) ∈ news) (hh : A.handled = none)
    (h : ∀ h' tk, Led h₀ env.locals h' (fun z => if z = y then some b else if z = x then some a else m z) news → Q () { s with heap := h', toks := tk }) : Wp w A (PySem.assign (.Tuple [.Name x px, .Name y py] k pos) env (.ref t)) Q { s with heap := hp0, toks := tk0 } := ⟨assignPair X hm hh h hk hx hy⟩
theorem neS {a b : Addr} {ts us : List (Str × Tok)} {n k : Nat} {Q : Value → Shared → Prop} (X : Led h₀ L s.heap m news) (ha : (a, SL ts n) ∈ news) (hb : (b, SL us k) ∈ news) (ht : (ts.map (·.1)).all PyData.strOk = true) (hu' : (us.map (·.1)).all PyData.strOk = true)
    (hu : A.units + 64 < cLine) (h : Q (.bool (!decide (ts.map (·.1) = us.map (·.1)))) s) : Wp w A (compareOp .NotEq (.ref a) (.ref b)) Q s := ⟨neStrs X ha hb ht hu' hu h⟩
theorem minI {hp0 : Heap} {tk0 : Nat} {ts : List (Int × Tok)} {n : Nat} {Q : Value → Shared → Prop} (X : Led h₀ L hp0 m news) (hm : (D, IL ts n) ∈ news) (hne : ts ≠ []) (hh : A.handled = none)
    (h : ∀ h' M t tk, Led h₀ L h' m news → M ∈ ts.map (·.1) → (∀ a ∈ ts.map (·.1), M ≤ a) → Q (.int M t) { s with heap := h', toks := tk }) : Wp w A (PySem.call (.builtin "min") [.ref D]) Q { s with heap := hp0, toks := tk0 } := ⟨minIL X hm hne hh h⟩
theorem len {hp0 : Heap} {tk0 : Nat} {its : Array Value} {n : Nat} {Q : Value → Shared → Prop} (X : Led h₀ L hp0 m news) (hm : (D, listOf its n) ∈ news) (hz : its.size ≤ 1000) (h : Q (.int its.size (tk0 + 1)) { s with heap := hp0, toks := tk0 + 1 + 1 }) : Wp w A (PySem.call (.builtin "len") [.ref D]) Q { s with heap := hp0, toks := tk0 } := ⟨lenL X hm (by rw [sizeLine_eq]; omega) h⟩
theorem range1 {hp0 : Heap} {tk0 : Nat} {n : Int} {t : Tok} {Q : Value → Shared → Prop} (X : Led h₀ L hp0 m news) (h : ∀ r h' t' v tk, Led h₀ L h' m ((r, rgOf 0 n t' t v) :: news) → Q (.ref r) { s with heap := h', toks := tk }) : Wp w A (PySem.call (.type "range") [.int n t]) Q { s with heap := hp0, toks := tk0 } := ⟨range1L X h⟩
theorem range2 {hp0 : Heap} {tk0 : Nat} {a b : Int} {t u : Tok} {Q : Value → Shared → Prop} (X : Led h₀ L hp0 m news) (h : ∀ r h' v tk, Led h₀ L h' m ((r, rgOf a b t u v) :: news) → Q (.ref r) { s with heap := h', toks := tk }) : Wp w A (PySem.call (.type "range") [.int a t, .int b u]) Q { s with heap := hp0, toks := tk0 } := ⟨range2L X h⟩
theorem itRg {hp0 : Heap} {tk0 : Nat} {a : Int} {k : Nat} {t u v : Tok} {r : Addr} {b : Int} {Q : Value → Shared → Prop} (X : Led h₀ L hp0 m news) (hm : (r, rgOf a b t u v) ∈ news) (hb : b = a + k) (ha : 0 ≤ a) (hb' : a + k < 1000000)
    (h : ∀ I h' its, RgSt I a k 0 its → Led h₀ L h' m (its ++ news) → Q (.ref I) { s with heap := h', toks := tk0 }) : Wp w A (pyIter (.ref r)) Q { s with heap := hp0, toks := tk0 } := by subst hb; exact ⟨iterRg X hm ha hb' h⟩
theorem itLs {hp0 : Heap} {tk0 : Nat} {its : Array Value} {n : Nat} {Q : Value → Shared → Prop} (X : Led h₀ L hp0 m news) (hm : (D, listOf its n) ∈ news) (h : ∀ I h' ent, ItSt "list_iterator" I D 0 ent → Led h₀ L h' m (ent ++ news) → Q (.ref I) { s with heap := h', toks := tk0 }) : Wp w A (pyIter (.ref D)) Q { s with heap := hp0, toks := tk0 } := ⟨iterList X hm h⟩
theorem addI {hp0 : Heap} {tk0 : Nat} {a b : Int} {t u : Tok} {Q : Value → Shared → Prop} (h : Q (.int (a + b) tk0) { s with heap := hp0, toks := tk0 + 1 }) : Wp w A (binaryOp .Add (.int a t) (.int b u)) Q { s with heap := hp0, toks := tk0 } := ⟨PyProof.Rows.add_int h⟩
theorem item {its : Array Value} {n : Nat} {k : Int} {u : Tok} {v : Value} {value slice : Expr} {Q : Value → Shared → Prop} (hs : subscripted slice false (.ref D) (.int k u) = operate [.ref D, .int k u] (getItem (.ref D) (.int k u))) (X : Led h₀ L s.heap m news) (hm : (D, listOf its n) ∈ news) (h0 : 0 ≤ k) (hhi : k < 2 ^ 63) (hx : its[k.toNat]? = some v) (h : Q v s) :
    Wp w A (subscriptTail value slice (.ref D) (.int k u)) Q s := ⟨tail_any (isListL X hm).typeIs slot_list_getitem.lookup (wpAny_getItem_list (isListL X hm) h0 hhi hx h) hs⟩

structure Exits (Q K : Flow → Shared → Prop) : Prop where
  cont : ∀ s, K .next s → K .cont s
  brk : ∀ s, Q .next s → K .brk s
  ret : ∀ v s, Q (.ret v) s → K (.ret v) s

noncomputable def ForAsk (w : World) (A : Around) (h₀ : Heap) (env : Env) (target : Expr) (body : List Stmt) (Q : Flow → Shared → Prop) (it : Value) (s₂ : Shared) : Prop :=
  ∃ n At St Src its news m J, ItL PR w A h₀ it n At St Src ∧ Led h₀ env.locals s₂.heap m (its ++ news) ∧ St 0 its ∧ J 0 m news ∧ (∀ i m news, J i m news → Src news) ∧
      (∀ i v its extra m₁ news₁ h₁ tk₁, i < n → At i v extra → St (i + 1) its → J i m₁ news₁ → Led h₀ env.locals h₁ m₁ (its ++ (extra ++ news₁)) →
        Wp w A (letOwnedTupleGo target it v) (fun _ s₁ => Wp w A (PySem.assign target env v) (fun _ s₂' => Wp w A (execs body env) (fun f s₃ => match f with
          | .next | .cont => TurnEnd h₀ env.locals s₂ St J i s₃
          | .brk => Q .next s₃
          | .ret v => Q (.ret v) s₃) s₂') s₁) { s₂ with heap := h₁, toks := tk₁ }) ∧
      (∀ m₁ news₁ h₁ tk₁, J n m₁ news₁ → Led h₀ env.locals h₁ m₁ news₁ → Q .next { s₂ with heap := h₁, toks := tk₁ })
theorem ForAsk.mk {hp : Heap} {tk : Nat} {target : Expr} {body : List Stmt} {Q : Flow → Shared → Prop} {it : Value} {n : Nat} {At : Nat → Value → List (Addr × Obj) → Prop} {St : Nat → List (Addr × Obj) → Prop} {Src : List (Addr × Obj) → Prop} {its : List (Addr × Obj)}
    (J : Nat → (Str → Option Value) → List (Addr × Obj) → Prop) (I : ItL PR w A h₀ it n At St Src) (X : Led h₀ env.locals hp m (its ++ news)) (hst : St 0 its) (h0 : J 0 m news) (hsrc : ∀ i m news, J i m news → Src news)
    (turn : ∀ i (K : Flow → Shared → Prop), (∀ h' tk m₂ its' news₂, St (i + 1) its' → Led h₀ env.locals h' m₂ (its' ++ news₂) → J (i + 1) m₂ news₂ → K .next { s with heap := h', toks := tk }) → Exits Q K →
      ∀ v its extra m₁ news₁ h₁ tk₁, i < n → At i v extra → St (i + 1) its → J i m₁ news₁ → Led h₀ env.locals h₁ m₁ (its ++ (extra ++ news₁)) →
        Wp w A (letOwnedTupleGo target it v) (fun _ s₁ => Wp w A (PySem.assign target env v) (fun _ s₂' => Wp w A (execs body env) K s₂') s₁) { s with heap := h₁, toks := tk₁ })
    (fin : ∀ m₁ news₁ h₁ tk₁, J n m₁ news₁ → Led h₀ env.locals h₁ m₁ news₁ → Q .next { s with heap := h₁, toks := tk₁ }) : ForAsk w A h₀ env target body Q it { s with heap := hp, toks := tk } :=
  ⟨n, At, St, Src, its, news, m, J, I, X, hst, h0, hsrc, fun i v its extra m₁ news₁ h₁ tk₁ a b c d e =>
    turn i (fun f s₃ => match f with | .next | .cont => TurnEnd h₀ env.locals { s with heap := hp, toks := tk } St J i s₃ | .brk => Q .next s₃ | .ret v => Q (.ret v) s₃) (fun h' tk m₂ its' news₂ a b c => ⟨h', tk, m₂, its', news₂, rfl, a, b, c⟩) ⟨fun _ x => x, fun _ x => x, fun _ _ x => x⟩ v its extra m₁ news₁ h₁ tk₁ a b c d e, fin⟩
theorem for_ {target iter : Expr} {body : List Stmt} {pos : Pos} {Q : Flow → Shared → Prop} (hs : ∀ x, foldedSetIterable iter env x = pure x)
    (h : Wp w A (eval iter env) (fun v s₁ => Wp w A (pyIter v) (ForAsk w A h₀ env target body Q) s₁) s) :
    Wp w A (exec (.For target iter body [] pos) env) Q s := by
  refine ⟨wpAny_For (wpAny_mono h.out (fun v s₁ h₁ => wpAny_mono h₁.out (fun it s₂ h₂ => ?_) fun _ _ x => x) fun _ _ x => x) hs⟩
  obtain ⟨n, At, St, Src, its, news, m, J, I, X, hst, h0, hsrc, turn, fin⟩ := h₂
  exact forIt I J X hst h0 hsrc (fun i v its extra m₁ news₁ h₁ tk₁ a b c d e => wpAny_mono (turn i v its extra m₁ news₁ h₁ tk₁ a b c d e).out (fun _ _ x => wpAny_mono x.out (fun _ _ x => wpAny_mono x.out (fun f s₃ y => by cases f <;> exact y) fun _ _ x => x) fun _ _ x => x) fun _ _ x => x) fin
theorem owned {x : Str} {px : Pos} {it v : Value} {Q : Unit → Shared → Prop} (h : Q () s) : Wp w A (letOwnedTupleGo (.Name x px) it v) Q s := ⟨wpAny_pure h⟩
theorem asgN {x : Str} {px : Pos} {v : Value} {Q : Unit → Shared → Prop} (h : Wp w A (storeName env x v) Q s) : Wp w A (PySem.assign (.Name x px) env v) Q s := ⟨wpAny_assign_Name h.out⟩
noncomputable abbrev Tests (env : Env) (ifs : List Expr) : Sem Bool := forIn ifs true fun c r => if r = true then do let ok ← isTrue c env (eval c env); pure (ForInStep.yield ok) else pure (ForInStep.yield r)
theorem test0 {Q : Bool → Shared → Prop} (h : Q true s) : Wp w A (Tests env []) Q s := ⟨wpAny_tests_nil h⟩
theorem test1 {c : Expr} {Q : Bool → Shared → Prop} (h : Wp w A (isTrue c env (eval c env)) Q s) : Wp w A (Tests env [c]) Q s := ⟨wpAny_tests_one h.out⟩

noncomputable def CompAsk (w : World) (A : Around) (h₀ : Heap) (L : Addr) (m : Str → Option Value) (env : Env) (elt : Expr) (x : Str) (ifs : List Expr) (scope : Scope) (cl : List (Str × Addr)) (Fin : Addr → List Value → List (Addr × Obj) → Heap → Shared → Prop) (it : Value) (s₂ : Shared) : Prop :=
  ∃ n At St Src its news J, ItL PR w A h₀ it n At St Src ∧ Led h₀ L s₂.heap m (its ++ news) ∧ St 0 its ∧ J 0 [] news ∧ (∀ i ys news, J i ys news → Src news) ∧ n ≤ 1000 ∧ (∀ i v extra, At i v extra → extra = []) ∧
      (∀ i v its₁ ys news₁ h₁ tk₁ mC C D oL, i < n → s₂.toks ≤ tk₁ → At i v [] → St (i + 1) its₁ → J i ys news₁ → mC x = some v → TI.Caller h₀ L m oL → Led h₀ C h₁ mC ((L, oL) :: (D, lst ys) :: (its₁ ++ news₁)) →
        Wp w A (Tests (compEnvC scope cl C env) ifs)
          (fun ok s₃ => if ok = true then Wp w A (eval elt (compEnvC scope cl C env)) (fun y s₄ => CompTurn h₀ C s₂ L oL D ys St J i (ys ++ [y]) s₄) s₃ else CompTurn h₀ C s₂ L oL D ys St J i ys s₃) { s₂ with heap := h₁, toks := tk₁ }) ∧
      (∀ D ys news₁ h₁ tk₁, J n ys news₁ → Fin D ys news₁ h₁ { s₂ with heap := h₁, toks := tk₁ })
theorem CompAsk.mk {hp : Heap} {tk : Nat} {elt : Expr} {x : Str} {ifs : List Expr} {scope : Scope} {cl : List (Str × Addr)} {Fin : Addr → List Value → List (Addr × Obj) → Heap → Shared → Prop} {it : Value} {n : Nat} {At : Nat → Value → List (Addr × Obj) → Prop} {St : Nat → List (Addr × Obj) → Prop} {Src : List (Addr × Obj) → Prop} {its : List (Addr × Obj)}
    (J : Nat → List Value → List (Addr × Obj) → Prop) (I : ItL PR w A h₀ it n At St Src) (X : Led h₀ L hp m (its ++ news)) (hst : St 0 its) (h0 : J 0 [] news) (hsrc : ∀ i ys news, J i ys news → Src news) (hn : n ≤ 1000) (hext : ∀ i v extra, At i v extra → extra = [])
    (turn : ∀ i ys C D oL (K : Value → Shared → Prop) (K' : Shared → Prop), (∀ y h' tk mC its' news₂, St (i + 1) its' → Led h₀ C h' mC ((L, oL) :: (D, lst ys) :: (its' ++ news₂)) → J (i + 1) (ys ++ [y]) news₂ → K y { s with heap := h', toks := tk }) →
      (∀ h' tk mC its' news₂, St (i + 1) its' → Led h₀ C h' mC ((L, oL) :: (D, lst ys) :: (its' ++ news₂)) → J (i + 1) ys news₂ → K' { s with heap := h', toks := tk }) →
      ∀ v its₁ news₁ h₁ tk₁ mC, i < n → tk ≤ tk₁ → At i v [] → St (i + 1) its₁ → J i ys news₁ → mC x = some v → TI.Caller h₀ L m oL → Led h₀ C h₁ mC ((L, oL) :: (D, lst ys) :: (its₁ ++ news₁)) →
        Wp w A (Tests (compEnvC scope cl C env) ifs) (fun ok s₃ => if ok = true then Wp w A (eval elt (compEnvC scope cl C env)) K s₃ else K' s₃) { s with heap := h₁, toks := tk₁ })
    (fin : ∀ D ys news₁ h₁ tk₁, J n ys news₁ → Fin D ys news₁ h₁ { s with heap := h₁, toks := tk₁ }) : CompAsk w A h₀ L m env elt x ifs scope cl Fin it { s with heap := hp, toks := tk } :=
  ⟨n, At, St, Src, its, news, J, I, X, hst, h0, hsrc, hn, hext, fun i v its₁ ys news₁ h₁ tk₁ mC C D oL a z b c d e f g =>
    turn i ys C D oL _ _ (fun y h' tk mC its' news₂ a b c => ⟨h', tk, mC, its', news₂, rfl, a, b, c⟩) (fun h' tk mC its' news₂ a b c => ⟨h', tk, mC, its', news₂, rfl, a, b, c⟩) v its₁ news₁ h₁ tk₁ mC a z b c d e f g, fin⟩
theorem CompAsk.block {elt iter : Expr} {x : Str} {px : Pos} {ifs : List Expr} {scope : Scope} {cl : List (Str × Addr)} {pos : Pos} {Fin : Addr → List Value → List (Addr × Obj) → Heap → Shared → Prop} {it : Value} {RR : Value → Addr → Result → Shared → Prop} (h : CompAsk w A h₀ L m env elt x ifs scope cl Fin it s)
    (hkind : scope.kind = .function) (hcell : ∀ y ∈ scope.names, y.2 ≠ .cell) (hx : scope.names.lookup x = some .local)
    (fin : ∀ D C oC mC ys news₁ h₁ tk₁, (∀ h' tk', Fin D ys news₁ h' { s with heap := h', toks := tk' }) → LCg.NsObj oC mC → Led h₀ L h₁ m ((C, oC) :: (D, lst ys) :: news₁) → RR (.ref D) C (.ok .next) { s with heap := h₁, toks := tk₁ }) :
    wpAny (model PR w) A (newList []) (fun acc s₃ => wpAny (model PR w) A (newFunctionEnv scope env.globals cl [] env.qual none .none (some env)) (fun cenv s₄ =>
      codeAny (model PR w) A (.compStart (.ListComp elt [⟨.Name x px, iter, ifs, 0⟩] scope pos) 0 it acc { cenv with scope := relabel scope env }) (RR acc cenv.locals) s₄) No s₃) No s := by
  obtain ⟨n, At, St, Src, its, news, J, I, X, hst, h0, hsrc, hn, hext, turn, fn⟩ := h
  exact compBlockT I J X hst h0 hsrc (by rw [sizeLine_eq]; omega) hcell hkind hx hext (fun i v its₁ ys news₁ h₁ tk₁ mC C D oL a z b c d e f g =>
    wpAny_mono (turn i v its₁ ys news₁ h₁ tk₁ mC C D oL a z b c d e f g).out (fun ok s₃ h₃ => by cases ok <;> first | exact h₃ | exact h₃.out) fun _ _ x => x)
    (fun D C oC mC ys news₁ h₁ tk₁ hJ hC X₁ => fin D C oC mC ys news₁ h₁ tk₁ (fun h' tk' => fn D ys news₁ h' tk' hJ) hC X₁)
theorem comp {elt iter : Expr} {x : Str} {px : Pos} {ifs : List Expr} {scope : Scope} {cl : List (Str × Addr)} {pos : Pos} {Q : Value → Shared → Prop}
    (hclos : closureFor scope env = pure cl) (hkind : scope.kind = .function) (hnames : ∀ y ∈ scope.names, y.2 = .local → scope.names.lookup y.1 = some .local)
    (hcell : ∀ y ∈ scope.names, y.2 ≠ .cell) (hx : scope.names.lookup x = some .local) (hs : ∀ x, foldedSetIterable iter env x = pure x) (_ : Led h₀ L s.heap m news)
    (h : Wp w A (eval iter env) (fun v s₁ => Wp w A (pyIter v) (CompAsk w A h₀ L m env elt x ifs scope cl (fun D ys news₁ h₁ s' => Led h₀ L h₁ m ((D, lst ys) :: news₁) → Q (.ref D) s')) s₁) s) :
    Wp w A (eval (.ListComp elt [⟨.Name x px, iter, ifs, 0⟩] scope pos) env) Q s := by
  refine ⟨?_⟩
  rw [eval_ListComp]
  exact wpAny_comprehension_free (use := none) rfl hs hclos hkind hnames (wpAny_mono h.out (fun xv s₁ h₁ => wpAny_mono h₁.out (fun it s₂ h₂ =>
    h₂.block hkind hcell hx (fun D C oC mC ys news₁ h₁ tk₁ fn hC X₁ => ⟨mC, hC.ns (X₁.get (.head _)), fun h' hs' => fn h' tk₁ (X₁.but hs'.extBut)⟩)) fun _ _ e => e) fun _ _ e => e)
theorem assignComp {elt iter : Expr} {x y : Str} {px py : Pos} {ifs : List Expr} {scope : Scope} {cl : List (Str × Addr)} {pos spos : Pos} {Q : Flow → Shared → Prop}
    (hsw : swapsWith (.ListComp elt [⟨.Name x px, iter, ifs, 0⟩] scope pos) (some (.Name y py)) spos.line env = pure true)
    (hclos : closureFor scope env = pure cl) (hkind : scope.kind = .function) (hnames : ∀ y ∈ scope.names, y.2 = .local → scope.names.lookup y.1 = some .local)
    (hcell : ∀ y ∈ scope.names, y.2 ≠ .cell) (hx : scope.names.lookup x = some .local) (hs : ∀ x, foldedSetIterable iter env x = pure x) (_ : Led h₀ env.locals s.heap m news) (hek : env.scope.kind = .function) (hy : env.kindOf y = some .local)
    (h : Wp w A (eval iter env) (fun v s₁ => Wp w A (pyIter v) (CompAsk w A h₀ env.locals m env elt x ifs scope cl (fun D ys news₁ h₁ s' => Led h₀ env.locals h₁ (fun z => if z = y then some (.ref D) else m z) ((D, lst ys) :: news₁) → Q .next s')) s₁) s) :
    Wp w A (exec (.Assign [.Name y py] (.ListComp elt [⟨.Name x px, iter, ifs, 0⟩] scope pos) spos) env) Q s := by
  refine ⟨?_⟩
  rw [exec_Assign_Name_used _ _ _ _ hsw]
  refine wpAny_bind (wpAny_standAt (wpAny_bind ?_))
  show wpAny _ A (do let _ ← comprehension (.ListComp elt [⟨.Name x px, iter, ifs, 0⟩] scope pos) scope env _ (newList []) false (eval iter env) (some (PySem.assign (.Name y py) env))) _ _ s
  refine wpAny_bind (wpAny_mono (wpAny_comprehension_free (use := some (PySem.assign (.Name y py) env)) (Q := fun _ s' => Q .next s') rfl hs hclos hkind hnames
    (wpAny_mono h.out (fun xv s₁ h₁ => wpAny_mono h₁.out (fun it s₂ h₂ => h₂.block hkind hcell hx (fun D C oC mC ys news₁ h₁ tk₁ fn hC X₁ => ?_)) fun _ _ e => e) fun _ _ e => e)) (fun _ s' hq => wpAny_pure (wpAny_pure hq)) fun _ _ e => e)
  show wpAny _ A (PySem.assign (.Name y py) env (.ref D)) _ _ _
  exact wpAny_assign_Name (storeL X₁ (fun h₂ X₂ => ⟨mC, hC.ns (X₂.get (.head _)), fun h' hs' => fn h' _ (X₂.but hs'.extBut)⟩) hek hy)
end
end Wp
end Mine
end

section
open PySem PySem.W PyProof.Rows PySem.Calls PySem.Spec
set_option maxRecDepth 100000
set_option linter.unusedVariables false
namespace Mine
theorem st2_a {m : Str → Option Value} {x y : Str} {a b : Value} (h1 : x ≠ y := by decide) : (fun z => if z = y then some b else if z = x then some a else m z) x = some a := (if_neg h1).trans (if_pos rfl)
theorem st2_b {m : Str → Option Value} {x y : Str} {a b : Value} : (fun z => if z = y then some b else if z = x then some a else m z) y = some b := if_pos rfl

structure Under (A A' : Around) (e : Env) : Prop where
  handled : A'.handled = A.handled
  frames : ∀ l, A.frames = some l → A'.frames = some (e :: l)
  depth : A'.depth = A.depth + 1
  units : A'.units = A.units + 3
theorem Under.mk' (A : Around) (e : Env) : Under A (A.deeper e) e := ⟨rfl, fun l h => by show A.frames.map _ = _; rw [h]; rfl, rfl, rfl⟩

theorem Wp.intoC {hp0 : Heap} {tk0 : Nat} {w : World} {A : Around} {s : Shared} {h₀ : Heap} {L : Addr} {m : Str → Option Value} {news : List (Addr × Obj)} {K : Frag} {p : Program} {loose : List Str} {mean : ExcName → Option Value} {mg mb : Str → Option Value}
    {Q : Value → Shared → Prop} {name qual : Str} {params : Arguments} {body : List Stmt} {scope : Scope} {dV kV doc pm cdv ct oc : Value} {an od : Option Addr} {osl : Array (Option Value)} {f : Addr} {args : List Value} {binds : List (Str × Value)}
    (hco : scope.isCoroutine = false) (hgen : scope.isGenerator = false) (hk : scope.kind = .function) (X : Led h₀ L hp0 m news) (KX : K.In h₀) (T : Top p loose mean mg mb h₀)
    (ho : K.lookup f = some ⟨oc, od, .func (fnOf name qual params body scope dV kV doc pm an cdv ct), osl⟩) (hcd : codeIn K cdv qual = true) (hroom : A.depth < recursionLimit)
    (hbind : BindsTo { s with heap := hp0, toks := tk0 } (fnOf name qual params body scope dV kV doc pm an cdv ct) ⟨args, []⟩ binds)
    (hkind : (binds.all fun y => scope.names.lookup y.1 == some .local || scope.names.lookup y.1 == some .cell) = true)
    (hnd : ((cellsFrom 0 scope.names []).map (·.1)).Nodup)
    (h : ∀ A' oL h₁ tk cells, Under A A' (envOfC qual scope hp0.objs.size f cdv) → TI.Caller h₀ L m oL → CellsAre (bindC (envOfC qual scope hp0.objs.size f cdv).kindOf binds fun _ => none) (cellsFrom (hp0.objs.size + 1) scope.names []) cells →
      (cells.map (·.1) = (cellsFrom (hp0.objs.size + 1) scope.names []).map (·.2) → (cells.map (·.1)).Nodup → Led h₀ hp0.objs.size h₁ (bindL (envOfC qual scope hp0.objs.size f cdv).kindOf binds fun _ => none) (cells ++ (L, oL) :: news)) →
      Wp w A' (execs body (envOfC qual scope hp0.objs.size f cdv))
        (fun fl s' => Q (match fl with | .ret v => v | _ => .none) s') { s with heap := h₁, toks := tk }) : Wp w A (PySem.call (.ref f) args) Q { s with heap := hp0, toks := tk0 } := by
  refine ⟨wpAny_call ?_⟩
  exact enterC X KX T ho hcd hroom hbind hkind hnd (fun oL h₁ tk cells a b c => (h _ oL h₁ tk cells (Under.mk' _ _) a b c).out) hco hgen hk


section
variable {w : World} {A : Around} {s : Shared} {h₀ : Heap} {L : Addr} {m : Str → Option Value} {news : List (Addr × Obj)} {K : Frag} {p : Program} {loose : List Str} {mean : ExcName → Option Value} {mg mb : Str → Option Value}
    {Q : Value → Shared → Prop} {name qual : Str} {params : Arguments} {body : List Stmt} {scope : Scope} {dV kV doc pm cdv ct oc : Value} {an od : Option Addr} {osl : Array (Option Value)} {f : Addr} {args : List Value}
theorem Wp.intoD {hp0 : Heap} {tk0 : Nat} {binds : List (Str × Value)} (hco : scope.isCoroutine = false) (hgen : scope.isGenerator = false) (hk : scope.kind = .function) (X : Led h₀ L hp0 m news) (KX : K.In h₀) (T : Top p loose mean mg mb h₀)
    (ho : K.lookup f = some ⟨oc, od, .func (fnOf name qual params body scope dV kV doc pm an cdv ct), osl⟩) (hcd : codeIn K cdv qual = true) (hroom : A.depth < recursionLimit)
    (hbind : BindsTo { s with heap := hp0, toks := tk0 } (fnOf name qual params body scope dV kV doc pm an cdv ct) ⟨args, []⟩ binds) (hloc : ∀ y ∈ binds, scope.names.lookup y.1 = some .local) (hcell : ∀ x ∈ scope.names, x.2 ≠ .cell)
    (h : ∀ A' oL h₁ tk, Under A A' (envOf qual scope hp0.objs.size f cdv) → TI.Caller h₀ L m oL → Led h₀ hp0.objs.size h₁ (fun y => binds.reverse.lookup y) ((L, oL) :: news) →
      Wp w A' (execs body (envOf qual scope hp0.objs.size f cdv)) (fun fl s' => Q (match fl with | .ret v => v | _ => .none) s') { s with heap := h₁, toks := tk }) : Wp w A (PySem.call (.ref f) args) Q { s with heap := hp0, toks := tk0 } := by
  refine ⟨wpAny_call ?_⟩
  exact enterD X KX T ho hcd hroom hbind hloc (fun oL h₁ a b => (h _ oL h₁ _ (Under.mk' _ _) a b).out) hco hgen hk hcell
theorem Wp.intoV {hp0 : Heap} {tk0 : Nat} {binds : Addr → List (Str × Value)} {vs : List Value} {g₁ : Addr → Option (List (Str × Value))} (hco : scope.isCoroutine = false) (hgen : scope.isGenerator = false) (hk : scope.kind = .function) (X : Led h₀ L hp0 m news) (KX : K.In h₀) (T : Top p loose mean mg mb h₀)
    (ho : K.lookup f = some ⟨oc, od, .func (fnOf name qual params body scope dV kV doc pm an cdv ct), osl⟩) (hcd : codeIn K cdv qual = true) (hroom : A.depth < recursionLimit)
    (hp : peek1 K ⟨PR, w.params⟩ (bindArgs (fnOf name qual params body scope dV kV doc pm an cdv ct) ⟨args, []⟩) = some (({ cls := .type "tuple", data := .seq vs.toArray } : Obj), g₁))
    (hg : ∀ D, g₁ D = some (binds D)) (hloc : ∀ D, ∀ y ∈ binds D, scope.names.lookup y.1 = some .local) (hcell : ∀ x ∈ scope.names, x.2 ≠ .cell)
    (h : ∀ A' D L' oL h₁ tk, Under A A' (envOf qual scope L' f cdv) → TI.Caller h₀ L m oL → Led h₀ L' h₁ (fun y => (binds D).reverse.lookup y) ((L, oL) :: (D, tupOf vs.toArray 0) :: news) →
      Wp w A' (execs body (envOf qual scope L' f cdv)) (fun fl s' => Q (match fl with | .ret v => v | _ => .none) s') { s with heap := h₁, toks := tk }) : Wp w A (PySem.call (.ref f) args) Q { s with heap := hp0, toks := tk0 } := by
  refine ⟨wpAny_call ?_⟩
  have KS := KX.keeps X.fr.keep
  refine codeAny_call_function (fd := fnOf name qual params body scope dV kV doc pm an cdv ct) (body := body) hroom (KS _ _ ho) rfl hco hgen rfl (codeRec_of KS hcd) ?_
  refine wp_of_peek1 (o := ({ cls := .type "tuple", data := .seq vs.toArray } : Obj)) X.fr X.nw KS rfl (r := binds) (fun D h' F' N' l => ?_) _ g₁ hp hg
  have X' : Led h₀ L h' m ((D, tupOf vs.toArray 0) :: news) := ⟨F', N', by
    refine List.nodup_cons.mpr ⟨fun hm => ?_, X.nd⟩
    obtain ⟨p, hp, e⟩ := List.mem_map.mp hm
    exact absurd (l p hp) (by rw [e]; exact Nat.lt_irrefl _)⟩
  obtain ⟨oL, es, ep, hL, hLd, hLk, hLf⟩ := X'.fr.ns
  have hLt := Heap.lt_size hL
  refine wpAny_newFunctionEnv hcell (hloc D) (fun h₁ hns hsb => ?_) hk
  have hk₁ : ∀ b o, h'.get? b = some o → h₁.get? b = some o := fun b o e => hsb.extBut b o (Nat.ne_of_lt (Heap.lt_size e)) (Heap.get?_push_of_some _ e)
  refine ⟨((T.nolimit.keeps F'.keep)).keeps hk₁, codeAny_func ?_⟩
  refine wpAny_mono (h _ D _ oL h₁ _ (Under.mk' _ _) ⟨fun h' sl e => ⟨_, es, ep, e, hLd, hLk, hLf⟩, ⟨es, ep, hLd⟩, X'.fr.above⟩ ⟨⟨hns, fun b o e => hk₁ b o (X'.fr.keep b o e), Nat.le_trans X'.fr.above (Nat.le_of_lt hLt)⟩, fun p hp => ?_, ?_⟩).out (fun _ _ x => x) fun _ _ x => x.elim
  · rcases List.mem_cons.mp hp with rfl | hp
    · exact ⟨hk₁ _ _ hL, Nat.ne_of_lt hLt, Heap.get?_none_of_le X'.fr.above⟩
    · obtain ⟨h1, h2, h3⟩ := X'.nw p hp
      exact ⟨hk₁ _ _ h1, Nat.ne_of_lt (Heap.lt_size h1), h3⟩
  · refine List.nodup_cons.mpr ⟨fun hm => ?_, X'.nd⟩
    obtain ⟨p, hp, e⟩ := List.mem_map.mp hm
    exact (X'.nw p hp).2.1 e
end
end Mine
end

section
open PySem PySem.W PyProof.Rows PySem.Calls PySem.Spec
set_option maxRecDepth 100000
set_option linter.unusedVariables false
namespace Mine
section
variable {prog : Program} {w : World} {A : Around} {E : Value → Shared → Prop} {s : Shared}
theorem isu_kind : builtinKind "issubclass.nested" = none := by decide +kernel
theorem isu_plain : plainId "issubclass.nested" = true := by decide +kernel
theorem isu_args (a b c : Value) : argsOk "issubclass.nested" ⟨[a, b, c], []⟩ := by unfold argsOk; kernel_rfl
theorem isu_nested {dep : Int} {tk : Tok} {Q : Fin → Shared → Prop} (hq : Q (.done (.ret (.bool true))) s) :
    wpAny (model prog w) A (Builtin.«issubclass.nested» ⟨[.type "str", .type "str", .int dep tk], []⟩) Q E s := by
  have hm : (typeOf (.type "str")) = pure (.type "type") := by kernel_rfl
  have hself : isSubtype (.type "str") (.type "str") = pure true := by rw [isSubtype_type]; kernel_rfl
  repeat (any_goals (first | assumption | (rw [hm]) | (rw [hself]) | wp_step))
theorem isu_items {cs : List Value} {Q : Option PySem.Fin × Unit → Shared → Prop} (h : ∀ tk, Q (some (.done (.ret (.bool true))), ()) { s with toks := tk }) :
    wpAny (model prog w) A (forIn (.type "str" :: cs) ((none, ()) : Option PySem.Fin × Unit) fun c _ => do
      if ← truthy (← call (.builtin "issubclass.nested") [.type "str", c, rawInt (0 + 1)]) then do
        let r ← ret (.bool true)
        pure (ForInStep.done (some r, ()))
      else pure (ForInStep.yield (none, ()))) Q E s := by
  rw [List.forIn_cons]
  refine wpAny_bind (wpAny_bind (call_function_meets isu_kind isu_plain F.entry_issubclass_nested (isu_args _ _ _) (S := fun _ R s => R (.ok (.ret (.bool true))) s) (fun _ _ _ _ _ hs => isu_nested hs) ?_))
  show wpAny _ _ (truthy (.bool true) >>= _) _ _ _
  refine wpAny_bind (m := truthy (.bool true)) (wpAny_pure ?_)
  exact wpAny_bind (wpAny_pure (wpAny_pure (wpAny_pure (h _))))
theorem isu_tuple {tp : Addr} {cs : List Value} {tk : Tok} {Q : Fin → Shared → Prop} (htp : s.heap.get? tp = some (tupOf cs.toArray 0)) (hcs : cs = [.type "str", .type "bytes"])
    (hq : ∀ tk', Q (.done (.ret (.bool true))) { s with toks := tk' }) : wpAny (model prog w) A (Builtin.«issubclass.nested» ⟨[.type "str", .ref tp, .int 0 tk], []⟩) Q E s := by
  obtain ⟨h, g, d, t, os⟩ := s
  have hT2 : (⟨h, g, d, t, os⟩ : Shared).TypeIs (.ref tp) "tuple" := ⟨_, htp, rfl⟩
  have f1 := F.isi_sub_tuple
  repeat (any_goals (first | assumption | wp_step))
  refine wpAny_arrayLoop ?_
  simp only [Option.getD_some, List.toList_toArray]
  subst hcs
  refine isu_items fun tk' => ?_
  dsimp only
  exact wpAny_pure (hq _)
theorem Wp.isu {hp0 : Heap} {tk0 : Nat} {tp : Addr} {Q : Value → Shared → Prop} (htp : hp0.get? tp = some (tupOf #[.type "str", .type "bytes"] 0)) (hq : ∀ tk', Q (.bool true) { s with heap := hp0, toks := tk' }) :
    Wp w A (PySem.call (.builtin "issubclass") [.type "str", .ref tp]) Q { s with heap := hp0, toks := tk0 } :=
  ⟨call_issubclass (S := fun _ R s => s.heap.get? tp = some (tupOf #[.type "str", .type "bytes"] 0) ∧ ∀ tk', R (.ok (.ret (.bool true))) { s with toks := tk' }) (fun _ _ _ _ _ hs => issubclass_outer (isu_tuple (cs := [.type "str", .type "bytes"]) hs.1 rfl hs.2)) ⟨htp, hq⟩⟩
theorem Wp.typeStr {x : Str} {t : Tok} {Q : Value → Shared → Prop} (hq : Q (.type "str") s) : Wp w A (PySem.call (.type "type") [.str x t]) Q s :=
  ⟨call_type_of (Tx := "str") (typeIs_str _ _ _) (by decide +kernel) hq⟩
theorem Wp.notBytes {hp0 : Heap} {tk0 : Nat} {x : Str} {t : Tok} {Q : Value → Shared → Prop} (hq : Q (.bool false) { s with heap := hp0, toks := tk0 + 1 }) : Wp w A (PySem.call (.builtin "isinstance") [.str x t, .type "bytes"]) Q { s with heap := hp0, toks := tk0 } :=
  ⟨call_isinstance (isinstance_false_str (T := "bytes") (by decide +kernel) (by kernel_rfl) (by rw [isSubtype_type]; kernel_rfl)) hq⟩
end
end Mine
end

section
open PySem PySem.W PyProof.Rows PySem.Calls PySem.Spec
set_option maxRecDepth 100000
namespace Mine

theorem eraseS_filter {x : Str} : ∀ {ys : List (Str × Tok)}, (ys.map (·.1)).Nodup → eraseS x ys = ys.filter (fun q => q.1 ≠ x)
  | [], _ => rfl
  | p :: r, h => by
    rw [List.map_cons, List.nodup_cons] at h
    by_cases e : p.1 = x
    · have : r.filter (fun q => decide (q.1 ≠ x)) = r := by
        rw [List.filter_eq_self]
        intro q hq
        have : q.1 ≠ x := fun e' => h.1 (List.mem_map.mpr ⟨q, hq, by rw [e', e]⟩)
        simpa using this
      rw [List.filter_cons_of_neg (by simpa using e), this, eraseS_same e]
    · rw [eraseS_diff e, eraseS_filter h.2]; exact (List.filter_cons_of_pos (p := fun q : Str × Tok => decide (q.1 ≠ x)) (decide_eq_true e)).symm
theorem uldR_eq : ∀ (zs ys acc : List (Str × Tok)), (zs.map (·.1)).Nodup → (ys.map (·.1)).Nodup →
    uldR zs ys acc = (acc ++ zs.filter (fun p => p.1 ∉ ys.map (·.1)), ys.filter (fun q => q.1 ∉ zs.map (·.1)))
  | [], ys, acc, _, _ => by
    rw [List.filter_nil, List.append_nil, List.filter_eq_self.mpr fun q _ => decide_eq_true (List.not_mem_nil : q.1 ∉ ([] : List (Str × Tok)).map (·.1))]; rfl
  | x :: r, ys, acc, hz, hy => by
    rw [List.map_cons, List.nodup_cons] at hz
    by_cases e : x.1 ∈ ys.map (·.1)
    · have ef := eraseS_filter (x := x.1) hy
      have hy' : ((eraseS x.1 ys).map (·.1)).Nodup := by rw [ef]; exact hy.sublist (List.filter_sublist.map _)
      rw [uldR_in e, uldR_eq r _ acc hz.2 hy']
      congr 1
      · congr 1
        rw [List.filter_cons_of_neg (by simpa using e)]
        apply List.filter_congr
        intro q hq
        have hne : q.1 ≠ x.1 := fun e' => hz.1 (List.mem_map.mpr ⟨q, hq, e'⟩)
        rw [ef]
        have : (q.1 ∈ (ys.filter fun q => q.1 ≠ x.1).map (·.1)) ↔ q.1 ∈ ys.map (·.1) := by
          constructor
          · intro h
            obtain ⟨z, hz', ez⟩ := List.mem_map.mp h
            exact List.mem_map.mpr ⟨z, (List.mem_filter.mp hz').1, ez⟩
          · intro h
            obtain ⟨z, hz', ez⟩ := List.mem_map.mp h
            refine List.mem_map.mpr ⟨z, List.mem_filter.mpr ⟨hz', ?_⟩, ez⟩
            simpa [ez] using hne
        simp only [this]
      · rw [ef, List.filter_filter]
        apply List.filter_congr
        intro q _
        simp only [List.map_cons, List.mem_cons, not_or]
        by_cases h1 : q.1 = x.1 <;> by_cases h2 : q.1 ∈ r.map (·.1) <;> simp [h1, h2]
    · rw [uldR_out e, uldR_eq r ys _ hz.2 hy]
      congr 1
      · rw [List.filter_cons_of_pos (by simpa using e)]; simp
      · apply List.filter_congr
        intro q hq
        have hne : q.1 ≠ x.1 := fun e' => e (List.mem_map.mpr ⟨q, hq, e'⟩)
        simp [hne]

noncomputable def leS (a b : Str) : Bool := !ltCps b.cps.toList a.cps.toList
noncomputable def sortS (ss : List Str) : List Str := ss.mergeSort leS
noncomputable def nl : Str := Str.ofString "\n"
noncomputable def keyOf (ss : List Str) : Str := Txt.join nl (sortS ss)
theorem ltCps_iff (a b : List Nat) : ltCps a b = decide (a < b) := by rw [ltCps_eq]
theorem leS_iff (a b : Str) : leS a b = true ↔ ¬ b.cps.toList < a.cps.toList := by
  unfold leS; rw [ltCps_iff]; simp
theorem leS_trans (a b c : Str) (h1 : leS a b = true) (h2 : leS b c = true) : leS a c = true := by
  rw [leS_iff] at *
  have h1' : a.cps.toList ≤ b.cps.toList := h1
  have h2' : b.cps.toList ≤ c.cps.toList := h2
  exact List.le_trans h1' h2'
theorem leS_total (a b : Str) : (leS a b || leS b a) = true := by
  rw [Bool.or_eq_true, leS_iff, leS_iff]
  exact List.le_total a.cps.toList b.cps.toList
theorem leS_anti (a b : Str) (h1 : leS a b = true) (h2 : leS b a = true) : a = b := by
  rw [leS_iff] at *
  have e : a.cps.toList = b.cps.toList := List.le_antisymm h1 h2
  exact Str.ext' (Array.toList_inj.mp e)
theorem sorted_unique : ∀ {l l' : List Str}, l.Perm l' → l.Pairwise (fun a b => leS a b = true) → l'.Pairwise (fun a b => leS a b = true) → l = l'
  | [], l', hp, _, _ => (List.nil_perm.mp hp).symm
  | a :: r, l', hp, h1, h2 => by
    cases l' with
    | nil => exact absurd hp.symm (by simp)
    | cons b t =>
      rw [List.pairwise_cons] at h1 h2
      have hab : a = b := by
        have hb : b ∈ a :: r := hp.mem_iff.mpr (.head _)
        have ha : a ∈ b :: t := hp.mem_iff.mp (.head _)
        rcases List.mem_cons.mp hb with e | hb
        · exact e.symm
        · rcases List.mem_cons.mp ha with e | ha
          · exact e
          · exact leS_anti a b (h1.1 b hb) (h2.1 a ha)
      subst hab
      rw [sorted_unique (List.perm_cons a |>.mp hp) h1.2 h2.2]
theorem risingS_pw : ∀ (p : Str) (l : List Str), risingS p l = true → (p :: l).Pairwise (fun a b => leS a b = true)
  | p, [], _ => by simp
  | p, x :: r, h => by
    have h' : (leS p x && risingS x r) = true := h
    rw [Bool.and_eq_true] at h'
    have ih := risingS_pw x r h'.2
    rw [List.pairwise_cons]
    refine ⟨fun y hy => ?_, ih⟩
    rcases List.mem_cons.mp hy with rfl | hy
    · exact h'.1
    · exact leS_trans p x y h'.1 ((List.pairwise_cons.mp ih).1 y hy)
theorem sortedS_pw {l : List Str} (h : sortedS l = true) : l.Pairwise (fun a b => leS a b = true) := by
  cases l with
  | nil => exact .nil
  | cons x r => exact risingS_pw x r h
theorem sortS_perm (l : List Str) : (sortS l).Perm l := List.mergeSort_perm l leS
theorem sortS_pw (l : List Str) : (sortS l).Pairwise (fun a b => leS a b = true) := List.pairwise_mergeSort leS_trans leS_total l
theorem sortS_of {ss l : List Str} (hp : ss.Perm l) (hs : sortedS ss = true) : ss = sortS l :=
  sorted_unique (hp.trans (sortS_perm l).symm) (sortedS_pw hs) (sortS_pw l)
theorem keyOf_perm {l l' : List Str} (h : l.Perm l') : keyOf l = keyOf l' := by
  unfold keyOf
  rw [sorted_unique (((sortS_perm l).trans h).trans (sortS_perm l').symm) (sortS_pw l) (sortS_pw l')]
end Mine
end

section
open PySem PySem.W PyProof.Rows PySem.Calls PySem.Spec
set_option maxRecDepth 100000
set_option maxHeartbeats 4000000
namespace Mine

structure Game where
  B : Str → List (Str × Tok)
  Ps : List Str → Prop
  g : List Str → Int
  keys : List Str
noncomputable def Game.stay (G : Game) (ps : List Str) (x : Str) : List Str := (ps.filter (fun y => y ∉ (G.B x).map (·.1))).reverse
structure Game.Ok (G : Game) : Prop where
  nodup : ∀ ps, G.Ps ps → ps.Nodup
  len : ∀ ps, G.Ps ps → ps.length ≤ 5
  txt : ∀ ps, G.Ps ps → ∀ x ∈ ps, x.length ≤ 1000
  bnd : ∀ ps, G.Ps ps → ∀ x ∈ ps, ((G.B x).map (·.1)).Nodup ∧ (G.B x).length ≤ 5 ∧ ((G.B x).map (·.1)).all PyData.strOk = true
  step : ∀ ps, G.Ps ps → ∀ x ∈ ps, G.Ps (G.stay ps x) ∧ (G.stay ps x).length < ps.length
  low : ∀ ps, G.Ps ps → 0 ≤ G.g ps
  gle : ∀ ps, G.Ps ps → G.g ps ≤ ps.length
  mexN : ∀ ps, G.Ps ps → ∀ x ∈ ps, G.g (G.stay ps x) ≠ G.g ps
  mexY : ∀ ps, G.Ps ps → ∀ k, 0 ≤ k → k < G.g ps → ∃ x ∈ ps, G.g (G.stay ps x) = k
  inj : ∀ ps qs, G.Ps ps → G.Ps qs → keyOf ps = keyOf qs → ps.Perm qs
  gperm : ∀ ps qs, ps.Perm qs → G.g ps = G.g qs
  inKeys : ∀ ps, G.Ps ps → keyOf ps ∈ G.keys
  few : G.keys.length ≤ 1000

noncomputable def DGood (G : Game) (kvs : List (Str × Value)) : Prop := ∀ kv ∈ kvs, ∃ ps t, G.Ps ps ∧ kv.1 = keyOf ps ∧ kv.2 = .int (G.g ps) t
noncomputable def DClosed (G : Game) (kvs : List (Str × Value)) : Prop := ∀ ps, G.Ps ps → keyOf ps ∈ kvs.map (·.1) → ∀ x ∈ ps, keyOf (G.stay ps x) ∈ kvs.map (·.1)

theorem stay_perm (G : Game) {ps qs : List Str} (h : ps.Perm qs) (x : Str) : (G.stay ps x).Perm (G.stay qs x) :=
  (List.reverse_perm _).trans ((h.filter _).trans (List.reverse_perm _).symm)

theorem valueAt_none {kvs : List (Str × Value)} {k : Str} : valueAt kvs k = none ↔ k ∉ kvs.map (·.1) := by
  unfold valueAt
  rw [Option.map_eq_none_iff, List.find?_eq_none]
  simp only [decide_eq_true_eq, List.mem_map, not_exists, not_and]
theorem valueAt_good {G : Game} (ok : G.Ok) {kvs : List (Str × Value)} {ps : List Str} (hg : DGood G kvs) (hp : G.Ps ps) (hk : keyOf ps ∈ kvs.map (·.1)) : ∃ t, valueAt kvs (keyOf ps) = some (.int (G.g ps) t) := by
  cases e : valueAt kvs (keyOf ps) with
  | none => exact absurd hk (valueAt_none.mp e)
  | some v =>
    unfold valueAt at e
    obtain ⟨kv, h1, rfl⟩ := Option.map_eq_some_iff.mp e
    obtain ⟨qs, t, hq, e1, e2⟩ := hg kv (List.mem_of_find?_eq_some h1)
    have h2 := List.find?_some h1
    have h3 : kv.1 = keyOf ps := by simpa using h2
    refine ⟨t, ?_⟩
    rw [e2, ok.gperm qs ps (ok.inj qs ps hq hp (e1.symm.trans h3))]
theorem nodup_len : ∀ {l k : List Str}, l.Nodup → (∀ x ∈ l, x ∈ k) → l.length ≤ k.length
  | [], _, _, _ => Nat.zero_le _
  | a :: r, k, h, hs => by
    rw [List.nodup_cons] at h
    have ha := hs a (.head _)
    have h1 : r.length ≤ (k.erase a).length := nodup_len h.2 fun x hx => by
      refine (List.mem_erase_of_ne ?_).mpr (hs x (.tail _ hx))
      intro e; rw [e] at hx; exact h.1 hx
    rw [List.length_erase_of_mem ha] at h1
    have : 0 < k.length := List.length_pos_of_mem ha
    rw [List.length_cons]; omega
theorem DGood.len {G : Game} (ok : G.Ok) {kvs : List (Str × Value)} (hg : DGood G kvs) (hn : (kvs.map (·.1)).Nodup) : kvs.length ≤ 1000 := by
  have : ∀ k ∈ kvs.map (·.1), k ∈ G.keys := fun k hk => by
    obtain ⟨kv, hm, rfl⟩ := List.mem_map.mp hk
    obtain ⟨ps, t, hp, e, _⟩ := hg kv hm
    rw [e]; exact ok.inKeys ps hp
  have h1 := nodup_len hn this
  rw [List.length_map] at h1
  exact Nat.le_trans h1 ok.few
theorem DGood.put {G : Game} {kvs : List (Str × Value)} {ps : List Str} {t : Tok} (hg : DGood G kvs) (hp : G.Ps ps) : DGood G (kvs ++ [(keyOf ps, .int (G.g ps) t)]) := fun kv hm => by
  rcases List.mem_append.mp hm with hm | hm
  · exact hg kv hm
  · rw [List.mem_singleton.mp hm]; exact ⟨ps, t, hp, rfl, rfl⟩
noncomputable def BelowIs (prog : Program) (w : World) (G : Game) (bA : Addr) (U : List Str) (rest : List (Addr × Obj)) : Prop :=
  ∃ oB bkvs, (bA, oB) ∈ rest ∧ SD prog w oB bkvs ∧ ∀ x ∈ U, ∃ a k, valueAt bkvs x = some (.ref a) ∧ (a, SL (G.B x) k) ∈ rest
theorem BelowIs.mono {prog : Program} {w : World} {G : Game} {bA : Addr} {U V : List Str} {r r' : List (Addr × Obj)} (h : BelowIs prog w G bA U r) (hr : ∀ p ∈ r, p ∈ r') (hV : ∀ x ∈ V, x ∈ U) : BelowIs prog w G bA V r' := by
  obtain ⟨oB, bkvs, h1, h2, h3⟩ := h
  refine ⟨oB, bkvs, hr _ h1, h2, fun x hx => ?_⟩
  obtain ⟨a, k, h4, h5⟩ := h3 x (hV x hx)
  exact ⟨a, k, h4, hr _ h5⟩


noncomputable def WorthC (w : World) (G : Game) (n : Nat) : Prop :=
  ∀ {A : Around} {h₀ : Heap} {L : Addr} {m : Str → Option Value} {env : Env} {outer : List Env} {p : Program} {loose : List Str} {mean : ExcName → Option Value} {mg mb : Str → Option Value} {s : Shared} {Q : Value → Shared → Prop}
   {pA bA wA : Addr} {ps : List (Str × Tok)} {pn : Nat} {rest frs : List (Addr × Obj)} {oW : Obj} {kvs : List (Str × Value)},
   ps.length ≤ n → G.Ps (ps.map (·.1)) → Led h₀ L s.heap m ((wA, oW) :: (rest ++ frs)) → SD PR w oW kvs → DGood G kvs → DClosed G kvs → (wA == sysModules) = false → (pA, SL ps pn) ∈ rest → BelowIs PR w G bA (ps.map (·.1)) rest →
   (hd.heap_39 w.params).In h₀ → Top p loose mean mg mb h₀ → A.frames = some (env :: outer) → env.frame = some L → env.scope.kind = .function → TI.Frs outer frs → A.handled = none → A.depth + ps.length + 2 < recursionLimit → A.units + 3 * ps.length + 100 < cLine →
   (∀ t h' tk' oW' kvs' frs', SD PR w oW' kvs' → DGood G kvs' → DClosed G kvs' → (∀ k ∈ kvs.map (·.1), k ∈ kvs'.map (·.1)) → keyOf (ps.map (·.1)) ∈ kvs'.map (·.1) → TI.SameUp frs frs' → TI.Frs outer frs' → Led h₀ L h' m ((wA, oW') :: (rest ++ frs')) →
     Q (.int (G.g (ps.map (·.1))) t) { s with heap := h', toks := tk' }) →
   Wp w A (call (.ref 151) [.ref pA, .ref bA, .ref wA]) Q s


end Mine
end

section
open PySem PySem.W PyProof.Rows PySem.Calls PySem.Spec
set_option maxRecDepth 100000
set_option maxHeartbeats 4000000
set_option linter.unusedVariables false
namespace Mine

theorem worth_fin {w : World} {A : Around} {G : Game} (ok : G.Ok) {h₀ : Heap} {L : Addr} {m m' : Str → Option Value} {e : Env} {outer : List Env} {h' : Heap} {s : Shared} {Q : Value → Shared → Prop} {wA : Addr} {ps : List Str} {rest frs frs₁ junk : List (Addr × Obj)} {oW' oL : Obj} {kvs kvs' : List (Str × Value)} {t : Tok} {tk' : Nat} {pos pos1 pos2 pos3 : Pos}
    (hk : e.scope.kind = .function) (k1 : e.kindOf "worths" = some .local) (k2 : e.kindOf "key" = some .local) (C : TI.Caller h₀ L m oL) (hP : G.Ps ps)
    (hW : SD PR w oW' kvs') (hG : DGood G kvs') (hC : DClosed G kvs') (hsub : ∀ k ∈ kvs.map (·.1), k ∈ kvs'.map (·.1)) (hin : keyOf ps ∈ kvs'.map (·.1))
    (SU : TI.SameUp ((L, oL) :: frs) frs₁) (Fs : TI.Frs outer frs) (X : Led h₀ e.locals h' m' ((wA, oW') :: (junk ++ (rest ++ frs₁)))) (hm1 : m' "worths" = some (.ref wA)) (hm2 : m' "key" = some (.str (keyOf ps) t))
    (hQ : ∀ t h' tk' oW' kvs' frs', SD PR w oW' kvs' → DGood G kvs' → DClosed G kvs' → (∀ k ∈ kvs.map (·.1), k ∈ kvs'.map (·.1)) → keyOf ps ∈ kvs'.map (·.1) → TI.SameUp frs frs' → TI.Frs outer frs' → Led h₀ L h' m ((wA, oW') :: (rest ++ frs')) →
     Q (.int (G.g ps) t) { s with heap := h', toks := tk' }) :
    Wp w A (execs [.Return (some (.Subscript (.Name "worths" pos1) (.Name "key" pos2) pos3)) pos] e) (fun fl s' => Q (match fl with | .ret v => v | _ => .none) s') { s with heap := h', toks := tk' } := by
  refine Wp.seq (Wp.ret (Wp.sub ?_))
  refine Wp.nL hk k1 rfl X hm1 ?_
  refine Wp.nL hk k2 rfl X hm2 ?_
  obtain ⟨t', hv⟩ := valueAt_good ok hG hP hin
  refine Wp.dGet (by with_unfolding_all rfl) X (.head _) hW hv ?_
  first | refine nk _ ?_ | refine ni _ ?_ | refine nt _ ?_ | (try dsimp only)
  cases frs₁ with
  | nil => exact SU.elim
  | cons q frs₂ =>
    obtain ⟨q1, ⟨sl, q2⟩, SU2⟩ := SU
    have hq : q = (L, { oL with slots := sl }) := by
      cases q; dsimp only at q1 q2; rw [q1, q2]
    subst hq
    refine hQ _ _ _ oW' kvs' frs₂ hW hG hC hsub hin SU2 (Fs.up SU2) ?_
    refine Led.back C (L' := e.locals) (m' := m') (sl := sl) ?_
    refine (X.sub (n' := (wA, oW') :: (rest ++ (L, { oL with slots := sl }) :: frs₂)) (.cons_cons _ (List.sublist_append_right _ _))).perm ?_
    exact (List.Perm.cons _ List.perm_middle).trans (List.Perm.swap _ _ _)

theorem stored_keys {kvs : List (Str × Value)} {k : Str} {v : Value} : ∀ z, z ∈ (stored kvs k v).map (·.1) ↔ z ∈ kvs.map (·.1) ∨ z = k := by
  intro z
  unfold stored
  split
  · rename_i h
    have e : (kvs.map (fun kv => if kv.1 = k then (kv.1, v) else kv)).map (·.1) = kvs.map (·.1) := by
      rw [List.map_map]
      refine List.map_congr_left fun kv _ => ?_
      show (if kv.1 = k then (kv.1, v) else kv).1 = kv.1
      split <;> rfl
    rw [e]
    simp only [List.any_eq_true, decide_eq_true_eq] at h
    obtain ⟨kv, h1, h2⟩ := h
    constructor
    · exact .inl
    · rintro (h | rfl)
      · exact h
      · exact List.mem_map.mpr ⟨kv, h1, h2⟩
  · simp
theorem DGood.stored {G : Game} {kvs : List (Str × Value)} {ps : List Str} {t : Tok} (hg : DGood G kvs) (hp : G.Ps ps) : DGood G (PySem.stored kvs (keyOf ps) (.int (G.g ps) t)) := by
  unfold PySem.stored
  split
  · intro kv hm
    obtain ⟨kv', h1, rfl⟩ := List.mem_map.mp hm
    by_cases e : kv'.1 = keyOf ps
    · rw [if_pos e]; exact ⟨ps, t, hp, e, rfl⟩
    · rw [if_neg e]; exact hg kv' h1
  · exact hg.put hp
theorem DClosed.stored {G : Game} (ok : G.Ok) {kvs : List (Str × Value)} {ps : List Str} {v : Value} (hc : DClosed G kvs) (hp : G.Ps ps) (hs : ∀ x ∈ ps, keyOf (G.stay ps x) ∈ kvs.map (·.1)) : DClosed G (PySem.stored kvs (keyOf ps) v) := fun qs hq hk x hx => by
  rw [stored_keys] at hk ⊢
  rcases hk with hk | e
  · exact .inl (hc qs hq hk x hx)
  · have pm := ok.inj qs ps hq hp e
    rw [keyOf_perm (stay_perm G pm x)]
    exact .inl (hs x (pm.mem_iff.mp hx))
theorem sum_len : ∀ l : List Str, (∀ x ∈ l, x.length ≤ 1000) → (l.map (·.length)).sum ≤ 1000 * l.length
  | [], _ => by simp
  | a :: r, h => by
    have h1 := sum_len r fun x hx => h x (.tail _ hx)
    have h2 := h a (.head _)
    simp only [List.map_cons, List.sum_cons, List.length_cons]
    omega

noncomputable def WJ (prog : Program) (w : World) (G : Game) (bA wA L' : Addr) (ps : List (Str × Tok)) (rest : List (Addr × Obj)) (o2 : Obj) (kvs : List (Str × Value)) (L : Addr) (oL : Obj) (frs : List (Addr × Obj)) (t : Tok) (i : Nat) (m₁ : Str → Option Value) (news₁ : List (Addr × Obj)) : Prop :=
  ∃ oW₁ kvs₁ o1 ra rs rn frs₁, news₁ = (ra, IL rs rn) :: (wA, oW₁) :: (L' + 2, o1) :: (L' + 1, o2) :: (rest ++ frs₁) ∧ SD prog w oW₁ kvs₁ ∧ DGood G kvs₁ ∧ DClosed G kvs₁ ∧ (∀ k ∈ kvs.map (·.1), k ∈ kvs₁.map (·.1)) ∧
    (∀ x ∈ (ps.take i).map (·.1), keyOf (G.stay (ps.map (·.1)) x) ∈ kvs₁.map (·.1)) ∧ rs.map (·.1) = ((ps.take i).map (·.1)).map (fun x => G.g (G.stay (ps.map (·.1)) x)) ∧ o1.data = .cell (some (.ref ra)) ∧ TI.SameUp ((L, oL) :: frs) frs₁ ∧
    m₁ "below" = some (.ref bA) ∧ m₁ "worths" = some (.ref wA) ∧ m₁ "key" = some (.str (keyOf (ps.map (·.1))) t)

theorem worth_step {w : World} {G : Game} (ok : G.Ok) (n : Nat) (IH : ∀ k, k < n → WorthC w G k) : WorthC w G n := by
  have hfill : (hd.heap_39 w.params).length = (hd.heap_39 w.params).length ∧ PySem.Challenge.rw_pd0045_01.foot = PySem.Challenge.rw_pd0045_01.foot := by k_fill; exact ⟨rfl, rfl⟩
  clear hfill
  intro A h₀ L m env outer p loose mean mg mb s Q pA bA wA ps pn rest frs oW kvs hn hP X hW hG hC lo hpos hB KX T hA hf hke Fs hh hdep huni hQ
  have hlen := ok.len _ hP
  rw [List.length_map] at hlen
  refine Wp.intoC rfl rfl rfl (binds := [("position", .ref pA), ("below", .ref bA), ("worths", .ref wA)]) X KX T (by k_is) (by k_is) (by omega) (BindsTo.of_eq rfl) (by rfl) (by decide +kernel) ?_
  intro A' oL h₁ tk₁ cells U C Y X1
  have hh' : A'.handled = none := U.handled.trans hh
  have hA' := U.frames _ hA
  have hdep' : A'.depth + ps.length + 1 < recursionLimit := by rw [U.depth]; omega
  have huni' : A'.units + 3 * ps.length + 97 < cLine := by rw [U.units]; omega
  obtain ⟨o1, o2, rfl, d1, d2⟩ := CellsAre.two Y
  replace X1 := X1 rfl (by simp)
  clear Y
  generalize hL' : s.heap.objs.size = L' at X1 d1 d2
  have d1' : o1.data = .cell none := d1
  have d2' : o2.data = .cell (some (.ref pA)) := d2
  clear d1 d2
  refine Led.gen2 (nw := ((wA, oW) :: (L' + 2, o1) :: (L' + 1, o2) :: (rest ++ (L, oL) :: frs))) (x1 := "below") (v1 := (.ref bA)) (x2 := "worths") (v2 := (.ref wA)) (X1.perm (by
    refine List.Perm.trans ?_ (List.Perm.swap _ _ _)
    refine .cons _ ?_
    refine List.Perm.trans ?_ (List.Perm.swap _ _ _)
    refine .cons _ ?_
    refine (List.Perm.swap _ _ _).trans (.cons _ List.perm_middle.symm))) (rfl) (rfl) ?_
  intro m₁ X2 hm1 hm2
  clear X1
  have hFs : TI.Frs (env :: outer) ((L, oL) :: frs) := ⟨by rw [hke]; decide, hf, C.dict, Fs⟩
  subst hL'
  refine Wp.seqH (fun kK nk xk => Wp.assign rfl ?_)
  refine Wp.mcall rfl (Wp.cStr ?_)
  refine Wp.strM PySem.F.slot_str_join PySem.F.type_str_join ?_
  refine Wp.withM rfl rfl (Wp.arg rfl ?_)
  refine Wp.callN (Wp.nB (by decide) rfl rfl rfl rfl rfl X2 KX T (by k_is) PyProof.Rows.Boot.«sorted» ?_)
  refine Wp.withB rfl rfl (Wp.arg rfl ?_)
  refine Wp.nC rfl rfl rfl (c := s.heap.objs.size + 1) rfl X2 (.tail _ (.tail _ (.head _))) d2' ?_
  refine Wp.args ?_
  have hpos' : (pA, SL ps pn) ∈ (wA, oW) :: (s.heap.objs.size + 2, o1) :: (s.heap.objs.size + 1, o2) :: (rest ++ (L, oL) :: frs) := .tail _ (.tail _ (.tail _ (List.mem_append_left _ hpos)))
  refine Wp.sorted X2 hpos' (by omega) (fun a1 h2 ts' e1 X3 hpm hso => ?_)
  refine Wp.args ?_
  dsimp only [List.append_nil, List.cons_append, List.nil_append]
  have hts : ts'.map (·.1) = sortS (ps.map (·.1)) := sortS_of hpm hso
  refine Wp.join X3 (.head _) ?_ (fun t1 k1 => ?_)
  · have h1 := sum_len (ts'.map (·.1)) fun x hx => ok.txt _ hP x (hpm.mem_iff.mp hx)
    have h2 := hpm.length_eq
    rw [List.length_map, List.length_map] at h2
    rw [List.length_map] at h1
    have h3 : (Str.ofString "\n").length = 1 := by decide
    rw [h3]; omega
  have hkey : Txt.join (Str.ofString "\n") (ts'.map (·.1)) = keyOf (ps.map (·.1)) := by rw [hts]; rfl
  rw [hkey]
  refine Wp.sL rfl rfl X3 (fun h3 X4 => ?_)
  first | refine nk _ ?_ | refine ni _ ?_ | refine nt _ ?_ | (try dsimp only)
  clear X3
  replace X4 := X4.sub (n' := (wA, oW) :: (s.heap.objs.size + 2, o1) :: (s.heap.objs.size + 1, o2) :: (rest ++ (L, oL) :: frs)) (.cons _ (List.Sublist.refl _))
  refine Wp.seqH (fun kI ni xi => Wp.iff (Wp.truthCmp rfl ?_))
  refine Wp.nL rfl rfl rfl X4 st_eq ?_
  refine Wp.nL rfl rfl rfl X4 (st_ne hm2) ?_
  refine Wp.dNotIn X4 (.head _) hW lo ?_
  refine Wp.truthB ?_
  cases hv : (valueAt kvs (keyOf (ps.map (·.1)))).isSome with
  | true =>
    refine Wp.done ?_
    have hin : keyOf (ps.map (·.1)) ∈ kvs.map (·.1) := Classical.byContradiction fun hc => by rw [valueAt_none.mpr hc] at hv; cases hv
    refine ni _ ?_
    exact worth_fin (junk := [_, _]) ok rfl rfl rfl C hP hW hG hC (fun _ h => h) hin (TI.SameUp.refl _) Fs X4 (st_ne hm2) st_eq hQ
  | false =>
    have hnin : keyOf (ps.map (·.1)) ∉ kvs.map (·.1) := by
      intro hc
      obtain ⟨t, h⟩ := valueAt_good ok hG hP hc
      rw [h] at hv; cases hv
    show Wp _ _ (execs _ _) _ _
    refine Wp.seqH (fun kK nk xk => Wp.assign rfl (Wp.eList (Wp.args ?_)))
    refine Wp.nwList X4 (by simp) (fun ra h4 X5 => ?_)
    refine Wp.sC (g := fun o' => (ra, listOf ([] : List Value).toArray 0) :: (wA, oW) :: (s.heap.objs.size + 2, o') :: (s.heap.objs.size + 1, o2) :: (rest ++ (L, oL) :: frs)) rfl rfl rfl X5 (fun o' => .tail (.tail .head)) d1' (fun h5 o3 d3 X6 => ?_)
    first | refine nk _ ?_ | refine ni _ ?_ | refine nt _ ?_ | (try dsimp only)
    refine Wp.seqH (fun kK nk xk => Wp.for_ (h₀ := h₀) (fun _ => rfl) ?_)
    refine Wp.nC rfl rfl rfl (c := s.heap.objs.size + 1) rfl X6 (.tail _ (.tail _ (.tail _ (.head _)))) d2' ?_
    refine Wp.itLs (its := (ps.map vstr).toArray) (n := pn) X6 (.tail _ (.tail _ (.tail _ (.tail _ (List.mem_append_left _ hpos))))) (fun I h6 ent hI X7 => ?_)
    refine Wp.ForAsk.mk (its := ent) (WJ PR w G bA wA (s.heap.objs.size) ps rest o2 kvs L oL frs t1) (itList hh' I pA (ps.map vstr).toArray) X7 hI ?_ ?_ ?_ ?_
    · exact ⟨oW, kvs, o3, ra, [], 0, _, rfl, hW, hG, hC, fun _ h => h, by simp, rfl, d3, TI.SameUp.refl _, st_ne hm1, st_ne hm2, st_eq⟩
    · rintro i m₂ news₂ ⟨_, _, _, _, _, _, frs₁, rfl, _⟩
      exact srcL (.tail _ (.tail _ (.tail _ (.tail _ (List.mem_append_left _ hpos)))))
    · clear X2 X4 X5 X6 X7 hI d3 hnin hv hW hG hC
      rintro i K kN kX v its extra m₂ news₂ h7 tk7 hi ⟨hat, rfl⟩ ⟨oI, rfl, cI, dI⟩ hJ X
      revert X
      refine ex7a12 hJ ?_
      clear hJ
      rintro oW₁ kvs₁ o4 ra₁ rs rn frs₁ rfl hW hG hC hsub hdone hrs d4 SU k1 k2 k3 X
      obtain ⟨x, hx, rfl⟩ : ∃ x, ps[i]? = some x ∧ v = vstr x := by
        rw [List.getElem?_toArray, List.getElem?_map] at hat
        obtain ⟨x, h1, h2⟩ := Option.map_eq_some_iff.mp hat
        exact ⟨x, h1, h2.symm⟩
      have hxm : x ∈ ps := List.mem_of_getElem? hx
      have hxm' : x.1 ∈ ps.map (·.1) := List.mem_map.mpr ⟨x, hxm, rfl⟩
      obtain ⟨oB, bkvs, hb1, hb2, hb3⟩ := hB
      obtain ⟨a, ka, hb4, hb5⟩ := hb3 x.1 hxm'
      refine Wp.owned (Wp.asgN (Wp.sL rfl rfl X (fun h8 X8 => ?_)))
      clear X
      first | refine nk _ ?_ | refine ni _ ?_ | refine nt _ ?_ | (try dsimp only)
      dsimp only [List.append_nil, List.cons_append, List.nil_append] at X8
      refine Wp.seqH (fun kK nk xk => Wp.assignT rfl rfl ?_)
      refine Wp.callN (Wp.nG rfl rfl rfl rfl X8 KX T (by k_is) ?_)
      refine Wp.withD KX (by k_is) rfl rfl (Wp.arg rfl ?_)
      refine Wp.callN (Wp.nB (by decide) rfl rfl rfl rfl rfl X8 KX T (by k_is) PyProof.Rows.Boot.«list» ?_)
      refine Wp.withT rfl rfl (Wp.arg rfl ?_)
      refine Wp.nC rfl rfl rfl (c := s.heap.objs.size + 1) rfl X8 (.tail _ (.tail _ (.tail _ (.tail _ (.head _))))) d2' ?_
      refine Wp.args ?_
      refine Wp.copy X8 (.tail _ (.tail _ (.tail _ (.tail _ (.tail _ (List.mem_append_left _ hpos)))))) (by simp; omega) (fun aE c1 h9 X9 => ?_)
      refine Wp.arg rfl ?_
      refine Wp.callN (Wp.nB (by decide) rfl rfl rfl rfl rfl X9 KX T (by k_is) PyProof.Rows.Boot.«list» ?_)
      refine Wp.withT rfl rfl (Wp.arg rfl ?_)
      refine Wp.sub (Wp.nL rfl rfl rfl X9 (st_ne k1) ?_)
      refine Wp.nL rfl rfl rfl X9 st_eq ?_
      refine Wp.dGet (by with_unfolding_all rfl) X9 (.tail _ (.tail _ (.tail _ (.tail _ (.tail _ (.tail _ (List.mem_append_left _ hb1))))))) hb2 hb4 ?_
      refine Wp.args ?_
      have hbnd := ok.bnd _ hP x.1 hxm'
      refine Wp.copy X9 (.tail _ (.tail _ (.tail _ (.tail _ (.tail _ (.tail _ (List.mem_append_left _ hb5))))))) (by simp; omega) (fun aB c2 h10 X10 => ?_)
      refine Wp.args ?_
      refine ⟨X10.fr.keep, ?_⟩
      have hFs1 := hFs.up SU
      refine ⟨uld_call (rest := (I, oI) :: (ra₁, IL rs rn) :: (wA, oW₁) :: (s.heap.objs.size + 2, o4) :: (s.heap.objs.size + 1, o2) :: rest) (X10.perm (.swap _ _ _)) KX T hA' rfl rfl hFs1 hh' (by omega) (by omega) (by omega) ?_⟩
      intro tup mis h11 tk11 n' na' frs₂ SU2 Fs2 X11
      clear X8 X9 X10
      rw [uldR_eq _ _ _ (by rw [List.map_reverse]; exact (List.reverse_perm _).nodup_iff.mpr (ok.nodup _ hP)) hbnd.1] at X11
      dsimp only [List.cons_append, List.nil_append] at X11
      refine Wp.pair rfl rfl rfl X11 (.head _) hh' (fun h12 tk12 X12 => ?_)
      clear X11
      first | refine nk _ ?_ | refine ni _ ?_ | refine nt _ ?_ | (try dsimp only)
      have e1 : (fun p : Str × Tok => decide (p.1 ∉ (ps.reverse).map (·.1))) = (fun p => decide (p.1 ∉ ps.map (·.1))) := by
        funext p; simp
      rw [e1] at X12
      refine Led.gen6 (nw := ((mis, SL (ps.reverse.filter (fun q => decide (q.1 ∉ (G.B x.1).map (·.1)))) n') :: (aB, SL ((G.B x.1).filter (fun q => decide (q.1 ∉ ps.map (·.1)))) na') :: (I, oI) :: (ra₁, IL rs rn) :: (wA, oW₁) :: (s.heap.objs.size + 2, o4) :: (s.heap.objs.size + 1, o2) :: (rest ++ frs₂))) (x1 := "below") (v1 := (.ref bA)) (x2 := "worths") (v2 := (.ref wA)) (x3 := "key") (v3 := (.str (keyOf (ps.map (·.1))) t1)) (x4 := "spot") (v4 := (vstr x)) (x5 := "stays") (v5 := (.ref mis)) (x6 := "lacking") (v6 := (.ref aB)) (X12.sub (.cons _ (List.Sublist.refl _))) (((if_neg (by decide)).trans ((if_neg (by decide)).trans ((if_neg (by decide)).trans (k1))))) (((if_neg (by decide)).trans ((if_neg (by decide)).trans ((if_neg (by decide)).trans (k2))))) (((if_neg (by decide)).trans ((if_neg (by decide)).trans ((if_neg (by decide)).trans (k3))))) (((if_neg (by decide)).trans ((if_neg (by decide)).trans (if_pos rfl)))) (st2_a) (st2_b) ?_
      intro m₃ X13 q1 q2 q3 q4 q5 q6
      clear X12
      refine Wp.seqH (fun kI ni xi => Wp.iff (Wp.truthCmp rfl ?_))
      refine Wp.nL rfl rfl rfl X13 q6 ?_
      refine Wp.comp (cl := [("position", s.heap.objs.size + 1)]) rfl rfl (by decide +kernel) (by decide +kernel) rfl (fun _ => rfl) X13 ?_
      refine Wp.sub (Wp.nL rfl rfl rfl X13 q1 ?_)
      refine Wp.nL rfl rfl rfl X13 q4 ?_
      refine Wp.dGet (by with_unfolding_all rfl) X13 (.tail _ (.tail _ (.tail _ (.tail _ (.tail _ (.tail _ (.tail _ (List.mem_append_left _ hb1)))))))) hb2 hb4 ?_
      refine Wp.itLs (its := ((G.B x.1).map vstr).toArray) (n := ka) X13 (.tail _ (.tail _ (.tail _ (.tail _ (.tail _ (.tail _ (.tail _ (List.mem_append_left _ hb5)))))))) (fun I2 h13 ent hI2 X14 => ?_)
      refine Wp.CompAsk.mk (its := ent) (fun j ys nw => ys = (((G.B x.1).take j).filter (fun q => decide (q.1 ∉ ps.map (·.1)))).map vstr ∧ nw = (mis, SL (ps.reverse.filter (fun q => decide (q.1 ∉ (G.B x.1).map (·.1)))) n') :: (aB, SL ((G.B x.1).filter (fun q => decide (q.1 ∉ ps.map (·.1)))) na') :: (I, oI) :: (ra₁, IL rs rn) :: (wA, oW₁) :: (s.heap.objs.size + 2, o4) :: (s.heap.objs.size + 1, o2) :: (rest ++ frs₂)) (itList hh' I2 a ((G.B x.1).map vstr).toArray) X14 hI2 ⟨by simp, rfl⟩ ?_ (by simp; omega) (fun _ _ _ h => h.2) ?_ ?_
      · rintro _ _ _ ⟨_, rfl⟩
        exact srcL (.tail _ (.tail _ (.tail _ (.tail _ (.tail _ (.tail _ (.tail _ (List.mem_append_left _ hb5))))))))
      · rintro j ys Ca Da oL' K1 K2 g1 g2 v its₁ news₁ h₁' tk₁' mC hj _ ⟨hat', _⟩ ⟨oJ, rfl, cJ, dJ⟩ ⟨rfl, rfl⟩ hmC KL X15
        obtain ⟨y, hy, rfl⟩ : ∃ y, (G.B x.1)[j]? = some y ∧ v = vstr y := by
          rw [List.getElem?_toArray, List.getElem?_map] at hat'
          obtain ⟨y, h1, h2⟩ := Option.map_eq_some_iff.mp hat'
          exact ⟨y, h1, h2.symm⟩
        have htake : (G.B x.1).take (j + 1) = (G.B x.1).take j ++ [y] := by
          rw [List.take_add_one, hy]; rfl
        refine Wp.test1 (Wp.truthCmp rfl ?_)
        refine Wp.nL rfl rfl rfl X15 hmC ?_
        refine Wp.nC rfl rfl rfl (c := s.heap.objs.size + 1) rfl X15 (.tail _ (.tail _ (.tail _ (.tail _ (.tail _ (.tail _ (.tail _ (.tail _ (.tail _ (.head _)))))))))) d2' ?_
        refine Wp.notInS X15 (.tail _ (.tail _ (.tail _ (.tail _ (.tail _ (.tail _ (.tail _ (.tail _ (.tail _ (.tail _ (List.mem_append_left _ hpos))))))))))) ?_
        refine Wp.truthB ?_
        by_cases hyin : y.1 ∈ ps.map (·.1)
        · rw [decide_eq_true hyin]
          refine g2 _ _ _ [(I2, oJ)] _ ⟨oJ, rfl, cJ, dJ⟩ X15 ⟨?_, rfl⟩
          rw [htake, List.filter_append]
          simp only [List.filter_cons, hyin, not_true_eq_false, decide_false, Bool.false_eq_true, if_false, List.filter_nil, List.append_nil]
        · rw [decide_eq_false hyin]
          refine Wp.nL rfl rfl rfl X15 hmC ?_
          refine g1 _ _ _ _ [(I2, oJ)] _ ⟨oJ, rfl, cJ, dJ⟩ X15 ⟨?_, rfl⟩
          rw [htake, List.filter_append, List.map_append]
          simp only [List.filter_cons, hyin, not_false_eq_true, decide_true, if_true, List.filter_nil, List.map_cons, List.map_nil]
      · rintro Da ys news₁ h14 tk14 ⟨rfl, rfl⟩ X15
        clear X14 X13
        have hlt : (G.B x.1).take ((G.B x.1).map vstr).toArray.size = G.B x.1 := by simp
        rw [hlt] at X15
        have hall : ((((G.B x.1).filter (fun q => decide (q.1 ∉ ps.map (·.1)))).map (·.1)).all PyData.strOk) = true := by
          have h1 := hbnd.2.2
          rw [List.all_eq_true] at h1 ⊢
          intro z hz
          obtain ⟨q, hq, rfl⟩ := List.mem_map.mp hz
          exact h1 _ (List.mem_map.mpr ⟨q, (List.mem_filter.mp hq).1, rfl⟩)
        refine Wp.neS X15 (.tail _ (.tail _ (.head _))) (.head _) hall hall (by omega) ?_
        rw [decide_eq_true rfl]
        refine Wp.truthB ?_
        refine Wp.done ?_
        first | refine nk _ ?_ | refine ni _ ?_ | refine nt _ ?_ | (try dsimp only)
        -- reached.append(_law_worth(stays, below, worths))
        refine Wp.seqH (fun kK nk xk => Wp.expr rfl rfl ?_)
        refine Wp.mcall rfl (Wp.nC rfl rfl rfl (c := s.heap.objs.size + 2) rfl X15 (.tail _ (.tail _ (.tail _ (.tail _ (.tail _ (.tail _ (.head _))))))) d4 ?_)
        refine Wp.listM (its := (rs.map vint).toArray) (n := rn) X15 (.tail _ (.tail _ (.tail _ (.tail _ (.head _))))) PySem.F.slot_list_append PySem.F.type_list_append ?_
        refine Wp.withM rfl rfl (Wp.arg rfl ?_)
        refine Wp.callN (Wp.nG rfl rfl rfl rfl X15 KX T (by k_is) ?_)
        refine Wp.withD KX (by k_is) rfl rfl (Wp.arg rfl ?_)
        refine Wp.nL rfl rfl rfl X15 q5 (Wp.arg rfl ?_)
        refine Wp.nL rfl rfl rfl X15 q1 (Wp.arg rfl ?_)
        refine Wp.nL rfl rfl rfl X15 q2 (Wp.args ?_)
        refine ⟨X15.fr.keep, ?_⟩
        have hstay : (ps.reverse.filter (fun q => decide (q.1 ∉ (G.B x.1).map (·.1)))).map (·.1) = G.stay (ps.map (·.1)) x.1 := by
          unfold Game.stay
          rw [List.filter_map, ← List.map_reverse, ← List.filter_reverse]
          rfl
        have hstep := ok.step _ hP x.1 hxm'
        have hslen : (ps.reverse.filter (fun q => decide (q.1 ∉ (G.B x.1).map (·.1)))).length < ps.length := by
          have h1 := hstep.2
          rw [← hstay, List.length_map, List.length_map] at h1; exact h1
        generalize ps.reverse.filter (fun q => decide (q.1 ∉ (G.B x.1).map (·.1))) = st at X15 hstay hslen
        have X16 : Led h₀ s.heap.objs.size h14 m₃ ((wA, oW₁) :: ((mis, SL st n') :: (I, oI) :: (ra₁, IL rs rn) :: (s.heap.objs.size + 2, o4) :: (s.heap.objs.size + 1, o2) :: rest) ++ frs₂) := by
          refine (X15.sub (n' := ((mis, SL st n') :: (I, oI) :: (ra₁, IL rs rn) :: (wA, oW₁) :: (s.heap.objs.size + 2, o4) :: (s.heap.objs.size + 1, o2) :: (rest ++ frs₂))) (.cons _ (.cons_cons _ (.cons _ (List.Sublist.refl _))))).perm ?_
          exact (List.Perm.cons _ ((List.Perm.cons _ (List.Perm.swap _ _ _)).trans (List.Perm.swap _ _ _))).trans (List.Perm.swap _ _ _)
        clear X15
        refine IH st.length (by omega) (ps := st) (rest := (mis, SL st n') :: (I, oI) :: (ra₁, IL rs rn) :: (s.heap.objs.size + 2, o4) :: (s.heap.objs.size + 1, o2) :: rest) (frs := frs₂) (outer := env :: outer) (Nat.le_refl _) (by rw [hstay]; exact hstep.1) X16 hW hG hC lo (.head _) ?_ KX T hA' rfl rfl Fs2 hh' (by omega) (by omega) ?_
        · refine BelowIs.mono (U := ps.map (·.1)) (r := rest) ⟨oB, bkvs, hb1, hb2, hb3⟩ (fun q hq => .tail _ (.tail _ (.tail _ (.tail _ (.tail _ hq))))) (fun z hz => ?_)
          rw [hstay] at hz
          unfold Game.stay at hz
          rw [List.mem_reverse, List.mem_filter] at hz
          exact hz.1
        intro t2 h15 tk15 oW₂ kvs₂ frs₃ hW2 hG2 hC2 hsub2 hin2 SU3 Fs3 X17
        rw [hstay] at hin2
        clear X16
        refine Wp.args ?_
        dsimp only [List.append_nil, List.cons_append, List.nil_append]
        rw [hstay]
        have hrl : rs.length ≤ 5 := by
          have h1 := congrArg List.length hrs
          simp at h1; omega
        refine Wp.appendI X17 (.tail (.tail (.tail .head))) (by omega) (fun h16 X18 => ?_)
        first | refine nk _ ?_ | refine ni _ ?_ | refine nt _ ?_ | (try dsimp only)
        refine Wp.done ?_
        refine kN h16 tk15 m₃ [(I, oI)] ((ra₁, IL (rs ++ [(G.g (G.stay (ps.map (·.1)) x.1), t2)]) (rn + 1)) :: (wA, oW₂) :: (s.heap.objs.size + 2, o4) :: (s.heap.objs.size + 1, o2) :: (rest ++ frs₃)) ⟨oI, rfl, cI, dI⟩ ?_ ?_
        · refine (X18.sub (n' := (wA, oW₂) :: (I, oI) :: (ra₁, IL (rs ++ [(G.g (G.stay (ps.map (·.1)) x.1), t2)]) (rn + 1)) :: (s.heap.objs.size + 2, o4) :: (s.heap.objs.size + 1, o2) :: (rest ++ frs₃)) (.cons_cons _ (.cons _ (List.Sublist.refl _)))).perm ?_
          exact (List.Perm.swap _ _ _).trans (.cons _ (List.Perm.swap _ _ _))
        have htake : ps.take (i + 1) = ps.take i ++ [x] := by rw [List.take_add_one, hx]; rfl
        refine ⟨oW₂, kvs₂, o4, ra₁, _, _, frs₃, rfl, hW2, hG2, hC2, fun k hk => hsub2 k (hsub k hk), ?_, ?_, d4, SU.trans (SU2.trans SU3), q1, q2, q3⟩
        · intro z hz
          rw [htake, List.map_append] at hz
          rcases List.mem_append.mp hz with hz | hz
          · exact hsub2 _ (hdone z hz)
          · have : z = x.1 := by simpa using hz
            rw [this]; exact hin2
        · rw [htake, List.map_append, List.map_append, List.map_append, hrs]; rfl
    · clear X2 X4 X5 X6 X7 hI d3 hW hG hC
      rintro m₂ news₂ h7 tk7 hJ X
      revert X
      refine ex7a12 hJ ?_
      clear hJ
      rintro oW₁ kvs₁ o4 ra₁ rs rn frs₁ rfl hW hG hC hsub hdone hrs d4 SU k1 k2 k3 X
      have htk : ps.take (ps.map vstr).toArray.size = ps := by simp
      rw [htk] at hdone hrs
      have hrl : rs.length = ps.length := by
        have h1 := congrArg List.length hrs
        simpa using h1
      first | refine nk _ ?_ | refine ni _ ?_ | refine nt _ ?_ | (try dsimp only)
      refine Wp.seqH (fun kK nk xk => Wp.assignI rfl ?_)
      refine Wp.callN (Wp.nB (by decide) rfl rfl rfl rfl rfl X KX T (by k_is) PyProof.Rows.Boot.«min» ?_)
      refine Wp.withB rfl rfl (Wp.arg rfl ?_)
      refine Wp.comp (cl := [("reached", s.heap.objs.size + 2)]) rfl rfl (by decide +kernel) (by decide +kernel) rfl (fun _ => rfl) X ?_
      refine Wp.callN (Wp.nB (by decide) rfl rfl rfl rfl rfl X KX T (by k_is) PyProof.Rows.Boot.«range» ?_)
      refine Wp.withT rfl rfl (Wp.arg rfl ?_)
      refine Wp.bin (Wp.callN (Wp.nB (by decide) rfl rfl rfl rfl rfl X KX T (by k_is) PyProof.Rows.Boot.«len» ?_))
      refine Wp.withB rfl rfl (Wp.arg rfl ?_)
      refine Wp.nC rfl rfl rfl (c := s.heap.objs.size + 2) rfl X (.tail _ (.tail _ (.head _))) d4 ?_
      refine Wp.args ?_
      refine Wp.len X (.head _) (by simp; omega) ?_
      refine Wp.cInt ?_
      refine Wp.addI ?_
      refine Wp.args ?_
      refine Wp.range1 X (fun r h8 t8 v8 tk8 X8 => ?_)
      refine Wp.itRg (k := ps.length + 1) X8 (.head _) (by simp [hrl]) (by omega) (by omega) (fun I2 h9 its9 hI2 X9 => ?_)
      have X9' := X9.sub (n' := its9 ++ ((ra₁, IL rs rn) :: (wA, oW₁) :: (s.heap.objs.size + 2, o4) :: (s.heap.objs.size + 1, o2) :: (rest ++ frs₁))) (List.Sublist.append_left (.cons _ (List.Sublist.refl _)) _)
      refine Wp.CompAsk.mk (its := its9) (fun j ys nw => ∃ ts : List (Int × Tok), ys = ts.map vint ∧ ts.map (·.1) = ((List.range j).map Int.ofNat).filter (fun z => decide (z ∉ rs.map (·.1))) ∧ nw = (ra₁, IL rs rn) :: (wA, oW₁) :: (s.heap.objs.size + 2, o4) :: (s.heap.objs.size + 1, o2) :: (rest ++ frs₁)) (itRange hh' I2 0 (ps.length + 1)) X9' hI2 ⟨[], rfl, by simp, rfl⟩ (fun _ _ _ _ => trivial) (by omega) (fun _ _ _ h => h.2) ?_ ?_
      · rintro j ys Ca Da oL' K1 K2 g1 g2 v its₁ news₁ h₁' tk₁' mC hj _ ⟨⟨tv, rfl⟩, _⟩ hst hJ hmC KL X15
        revert hmC KL X15
        refine ex1a3 hJ ?_
        clear hJ
        rintro ts rfl hts' rfl hmC KL X15
        unfold RgSt at hst
        subst hst
        have hr : (List.range (j + 1)).map Int.ofNat = (List.range j).map Int.ofNat ++ [(j : Int)] := by
          rw [List.range_succ, List.map_append]; rfl
        refine Wp.test1 (Wp.truthCmp rfl ?_)
        refine Wp.nL rfl rfl rfl X15 hmC ?_
        refine Wp.nC rfl rfl rfl (c := s.heap.objs.size + 2) rfl X15 (.tail _ (.tail _ (.tail _ (.tail _ (.tail _ (.head _)))))) d4 ?_
        refine Wp.notInI X15 (.tail _ (.tail _ (.tail _ (.head _)))) ?_
        refine Wp.truthB ?_
        have e0 : (0 : Int) + (j : Int) = (j : Int) := zi j
        by_cases hyin : (j : Int) ∈ rs.map (·.1)
        · rw [e0, decide_eq_true hyin]
          refine g2 _ _ _ _ _ rfl X15 ⟨ts, rfl, ?_, rfl⟩
          rw [hr, List.filter_append, hts', List.filter_cons, if_neg (by simp only [not_true_eq_false, hyin, decide_false]; decide), List.filter_nil, List.append_nil]
        · rw [e0, decide_eq_false hyin]
          refine Wp.nL rfl rfl rfl X15 hmC ?_
          refine g1 _ _ _ _ _ _ rfl X15 ⟨ts ++ [(0 + (j : Int), tv)], by rw [List.map_append]; rfl, ?_, rfl⟩
          rw [hr, List.filter_append, List.map_append, hts', List.filter_cons, if_pos (by simp only [hyin, not_false_eq_true, decide_true]), List.filter_nil]
          simp
      · rintro Da ys news₁ h10 tk10 hJ X15
        revert X15
        refine ex1a3 hJ ?_
        clear hJ
        rintro ts rfl hts' rfl X15
        clear X9 X9' X8
        refine Wp.args ?_
        have hle := ok.gle _ hP
        rw [List.length_map] at hle
        have hlow := ok.low _ hP
        have hgin : G.g (ps.map (·.1)) ∈ ts.map (·.1) := by
          rw [hts', List.mem_filter]
          refine ⟨?_, ?_⟩
          · refine List.mem_map.mpr ⟨(G.g (ps.map (·.1))).toNat, List.mem_range.mpr (by omega), ?_⟩
            show ((G.g (ps.map (·.1))).toNat : Int) = _
            omega
          · refine decide_eq_true ?_
            rw [hrs]
            intro hc
            obtain ⟨z, hz, e⟩ := List.mem_map.mp hc
            exact ok.mexN _ hP z hz e
        refine Wp.minI X15 (.head _) (by intro e; rw [e] at hgin; simp at hgin) hh' (fun h11 M tM tk11 X16 hM1 hM2 => ?_)
        have hM : M = G.g (ps.map (·.1)) := by
          have h1 := hM2 _ hgin
          rw [hts', List.mem_filter] at hM1
          obtain ⟨z, hz, rfl⟩ := List.mem_map.mp hM1.1
          have h2 := of_decide_eq_true hM1.2
          refine Int.le_antisymm h1 (Int.not_lt.mp fun h3 => h2 ?_)
          obtain ⟨y, hy, e⟩ := ok.mexY _ hP (Int.ofNat z) (Int.natCast_nonneg z) h3
          rw [hrs]
          exact List.mem_map.mpr ⟨y, hy, e⟩
        subst hM
        clear X15
        refine Wp.nL rfl rfl rfl X16 k2 ?_
        refine Wp.nL rfl rfl rfl X16 k3 ?_
        refine Wp.dSet (g := fun o' => (Da, lst (ts.map vint)) :: (ra₁, IL rs rn) :: (wA, o') :: (s.heap.objs.size + 2, o4) :: (s.heap.objs.size + 1, o2) :: (rest ++ frs₁)) X16 (fun o' => .tail (.tail .head)) hW (hG.len ok (keysNodup_of_isDictOf hW)) (fun h12 oW₂ hW2 X17 => ?_)
        first | refine nk _ ?_ | refine ni _ ?_ | refine nt _ ?_ | (try dsimp only)
        refine Wp.done ?_
        first | refine nk _ ?_ | refine ni _ ?_ | refine nt _ ?_ | (try dsimp only)
        first | refine ni _ ?_ | skip
        refine worth_fin (junk := [(s.heap.objs.size + 2, o4), (s.heap.objs.size + 1, o2)]) ok rfl rfl rfl C hP hW2 (hG.stored hP) (hC.stored ok hP hdone) (fun k hk => ?_) ?_ SU Fs (X17.sub (.cons _ (.cons _ (List.Sublist.refl _)))) k2 k3 hQ
        · rw [stored_keys]; exact .inl (hsub k hk)
        · rw [stored_keys]; exact .inr rfl
theorem worth_call {w : World} {G : Game} (ok : G.Ok) (n : Nat) : WorthC w G n := by
  induction n using Nat.strongRecOn with
  | _ n ih => exact worth_step ok n ih
end Mine
end

section
open PySem PySem.W PyProof.Rows PySem.Calls PySem.Spec
set_option maxRecDepth 100000
set_option maxHeartbeats 4000000
set_option linter.unusedVariables false
namespace Mine
namespace Wp
section
variable {w : World} {A : Around} {s : Shared} {h₀ : Heap} {L D : Addr} {m : Str → Option Value} {env : Env} {news news' : List (Addr × Obj)}
theorem modI {hp0 : Heap} {tk0 : Nat} {a b c : Int} {t u : Tok} {Q : Value → Shared → Prop} (hb : b ≠ 0) (hc : a.fmod b = c) (h : Q (.int c tk0) { s with heap := hp0, toks := tk0 + 1 }) : Wp w A (binaryOp .Mod (.int a t) (.int b u)) Q { s with heap := hp0, toks := tk0 } := by subst hc; exact ⟨AutoIntOps.mod_1 (by simpa using hb) h⟩
theorem subI {hp0 : Heap} {tk0 : Nat} {a b : Int} {t u : Tok} {Q : Value → Shared → Prop} (h : Q (.int (a - b) tk0) { s with heap := hp0, toks := tk0 + 1 }) : Wp w A (binaryOp .Sub (.int a t) (.int b u)) Q { s with heap := hp0, toks := tk0 } := ⟨AutoIntOps.sub_0 h⟩
theorem itemT {l : List Value} {n : Nat} {k : Int} {u : Tok} {j : Nat} {x : Value} {value slice : Expr} {Q : Value → Shared → Prop} (hs : subscripted slice false (.ref D) (.int k u) = operate [.ref D, .int k u] (getItem (.ref D) (.int k u)))
    (X : Led h₀ L s.heap m news) (hm : (D, tupOf l.toArray n) ∈ news) (hlo : -(2 ^ 63) ≤ k) (hhi : k < 2 ^ 63) (hj : seqIndex? k l.length = some j) (hx : l[j]? = some x) (h : Q x s) : Wp w A (subscriptTail value slice (.ref D) (.int k u)) Q s :=
  ⟨item_tupleT (show IsTup s.heap D l.toArray from ⟨_, X.get hm, rfl, n, rfl⟩) hlo hhi hj hx h hs⟩
theorem itemTE {l : List Value} {n : Nat} {k : Nat} {u : Tok} {x : Str} {value slice : Expr} {Q : Value → Shared → Prop} (hs : subscripted slice false (.ref D) (.int (k : Int) u) = operate [.ref D, .int (k : Int) u] (getItem (.ref D) (.int (k : Int) u)))
    (X : Led h₀ L s.heap m news) (hm : (D, tupOf l.toArray n) ∈ news) (hk : k < 1000) (hx : ∃ t, l[k]? = some (.str x t)) (h : ∀ t, Q (.str x t) s) : Wp w A (subscriptTail value slice (.ref D) (.int (k : Int) u)) Q s := by
  obtain ⟨t, hx⟩ := hx
  have hl : k < l.length := by
    rcases Nat.lt_or_ge k l.length with h | h
    · exact h
    · rw [List.getElem?_eq_none h] at hx; cases hx
  exact itemT hs X hm (by omega) (by omega) (by unfold seqIndex?; simp; omega) hx (h t)
theorem itTp {hp0 : Heap} {tk0 : Nat} {its : Array Value} {n : Nat} {Q : Value → Shared → Prop} (X : Led h₀ L hp0 m news) (hm : (D, tupOf its n) ∈ news) (h : ∀ I h' ent, ItSt "tuple_iterator" I D 0 ent → Led h₀ L h' m (ent ++ news) → Q (.ref I) { s with heap := h', toks := tk0 }) : Wp w A (pyIter (.ref D)) Q { s with heap := hp0, toks := tk0 } :=
  ⟨wpAny_pyIter_tuple ⟨_, X.get hm, rfl, n, rfl⟩ (h _ _ [(hp0.objs.size, _)] ⟨_, rfl, rfl, rfl⟩ (X.more (fun _ _ e => Heap.get?_push_of_some _ e) (Heap.get?_push_size _ rfl)))⟩
theorem starts {x y : Str} {t u : Tok} {Q : Value → Shared → Prop} (h : Q (.bool (Txt.startswith x y)) s) : Wp w A (PySem.call (.builtin "str.startswith") [.str x t, .str y u]) Q s := ⟨SC.startswith h⟩
theorem ends {x y : Str} {t u : Tok} {Q : Value → Shared → Prop} (h : Q (.bool (Txt.endswith x y)) s) : Wp w A (PySem.call (.builtin "str.endswith") [.str x t, .str y u]) Q s := ⟨SC.endswith h⟩
theorem addS {hp0 : Heap} {tk0 : Nat} {x y : Str} {t u : Tok} {Q : Value → Shared → Prop} (hz : x.length + y.length ≤ 100000) (h : ∀ t' tk, Q (.str (x ++ y) t') { s with heap := hp0, toks := tk }) : Wp w A (binaryOp .Add (.str x t) (.str y u)) Q { s with heap := hp0, toks := tk0 } := ⟨PyProof.Rows.add_str h (by rw [sizeLine_eq]; omega)⟩
theorem iaddS {hp0 : Heap} {tk0 : Nat} {x y : Str} {t u : Tok} {Q : Value → Shared → Prop} (hz : x.length + y.length ≤ 100000) (h : ∀ t' tk, Q (.str (x ++ y) t') { s with heap := hp0, toks := tk }) : Wp w A (inplaceOp .Add (.str x t) (.str y u)) Q { s with heap := hp0, toks := tk0 } := ⟨PyProof.Rows.iadd_str h (by rw [sizeLine_eq]; omega)⟩
end
end Wp

section
variable {w : World} {A : Around} {s : Shared} {h₀ : Heap} {L : Addr} {m : Str → Option Value} {news : List (Addr × Obj)} {p : Program} {loose : List Str} {mean : ExcName → Option Value} {mg mb : Str → Option Value} {Q : Value → Shared → Prop}
noncomputable def lawNames : List Str := ["a", "ab", "a-", "b", "a.b", ".a", "A"]
noncomputable def nameAt (k : Nat) : Str := lawNames.getD (k % 7) Str.empty
theorem name_call {k : Nat} {u : Tok} (X : Led h₀ L s.heap m news) (KX : (hd.heap_39 w.params).In h₀) (T : Top p loose mean mg mb h₀) (hroom : A.depth < recursionLimit)
    (h : ∀ h' t tk, Led h₀ L h' m news → Q (.str (nameAt k) t) { s with heap := h', toks := tk }) : Wp w A (PySem.call (.ref 134) [.int k u]) Q s := by
  have hfill : (hd.heap_39 w.params).length = (hd.heap_39 w.params).length ∧ PySem.Challenge.rw_pd0045_01.foot = PySem.Challenge.rw_pd0045_01.foot := by k_fill; exact ⟨rfl, rfl⟩
  clear hfill
  refine Wp.intoD rfl rfl rfl (binds := [("place", .int k u)]) X KX T (by k_is) (by k_is) hroom (BindsTo.of_eq rfl) (locs rfl) (by decide +kernel) ?_
  intro A' oL h₁ tk₁ U C X1
  refine Wp.seq (Wp.ret (Wp.sub ?_))
  refine Wp.eTuple (Wp.arg rfl (Wp.cStr (Wp.arg rfl (Wp.cStr (Wp.arg rfl (Wp.cStr (Wp.arg rfl (Wp.cStr (Wp.arg rfl (Wp.cStr (Wp.arg rfl (Wp.cStr (Wp.arg rfl (Wp.cStr (Wp.args ?_)))))))))))))))
  refine Wp.nwTuple X1 (by simp) (fun a h2 X2 => ?_)
  refine Wp.bin (Wp.nL rfl rfl rfl X2 rfl ?_)
  refine Wp.cInt ?_
  have hlt : k % 7 < 7 := Nat.mod_lt _ (by decide)
  refine Wp.modI (c := ((k % 7 : Nat) : Int)) (by decide) (by rw [Int.fmod_eq_emod_of_nonneg _ (by decide)]; rfl) ?_
  refine Wp.itemTE (x := nameAt k) (by with_unfolding_all rfl) X2 (.head _) (by omega) ?_ (fun t => ?_)
  · unfold nameAt
    generalize k % 7 = j at hlt
    revert j
    exact ltS (ltS (ltS (ltS (ltS (ltS (ltS lt0 ⟨_, rfl⟩) ⟨_, rfl⟩) ⟨_, rfl⟩) ⟨_, rfl⟩) ⟨_, rfl⟩) ⟨_, rfl⟩) ⟨_, rfl⟩
  exact h _ _ _ (Led.back (sl := oL.slots) C (X2.sub (.cons _ (List.Sublist.refl _))))
theorem fspath_call {x : Str} {u : Tok} (X : Led h₀ L s.heap m news) (KX : (hd.heap_39 w.params).In h₀) (T : Top p loose mean mg mb h₀) (hroom : A.depth < recursionLimit)
    (h : ∀ h' tk, Led h₀ L h' m news → Q (.str x u) { s with heap := h', toks := tk }) : Wp w A (PySem.call (.ref 101) [.str x u]) Q s := by
  have hfill : (hd.heap_39 w.params).length = (hd.heap_39 w.params).length ∧ PySem.Challenge.rw_pd0045_01.foot = PySem.Challenge.rw_pd0045_01.foot := by k_fill; exact ⟨rfl, rfl⟩
  clear hfill
  refine Wp.intoD rfl rfl rfl (binds := [("path", .str x u)]) X KX T (by k_is) (by k_is) hroom (BindsTo.of_eq rfl) (locs rfl) (by decide +kernel) ?_
  intro A' oL h₁ tk₁ U C X1
  refine Wp.seq (Wp.assign rfl ?_)
  refine Wp.callN (Wp.nB (by decide) rfl rfl rfl rfl rfl X1 KX T (by k_is) PyProof.Rows.Boot.«type» ?_)
  refine Wp.withT rfl rfl (Wp.arg rfl (Wp.nL rfl rfl rfl X1 rfl (Wp.args ?_)))
  refine Wp.typeStr ?_
  refine Wp.sL rfl rfl X1 (fun h2 X2 => ?_)
  try dsimp only
  refine Wp.seq (Wp.iff (Wp.truthOf rfl ?_))
  refine Wp.callN (Wp.nB (by decide) rfl rfl rfl rfl rfl X2 KX T (by k_is) PyProof.Rows.Boot.«issubclass» ?_)
  refine Wp.withB rfl rfl (Wp.arg rfl (Wp.nL rfl rfl rfl X2 (if_pos rfl) (Wp.arg rfl ?_)))
  refine Wp.eTuple (Wp.arg rfl (Wp.nB (by decide) rfl rfl rfl rfl rfl X2 KX T (by k_is) PyProof.Rows.Boot.«str» ?_))
  refine Wp.arg rfl (Wp.nB (by decide) rfl rfl rfl rfl rfl X2 KX T (by k_is) PyProof.Rows.Boot.«bytes» (Wp.args ?_))
  refine Wp.nwTuple X2 (by simp) (fun a h3 X3 => ?_)
  refine Wp.args ?_
  refine Wp.isu (X3.get (.head _)) (fun tk3 => ?_)
  refine Wp.truthB ?_
  refine Wp.seq (Wp.ret (Wp.nL rfl rfl rfl X3 (v := .str x u) ((if_neg (by decide)).trans rfl) ?_))
  exact h _ _ (Led.back (sl := oL.slots) C (X3.sub (.cons _ (List.Sublist.refl _))))
theorem sep_call {x : Str} {u : Tok} (X : Led h₀ L s.heap m news) (KX : (hd.heap_39 w.params).In h₀) (T : Top p loose mean mg mb h₀) (hroom : A.depth < recursionLimit)
    (h : ∀ h' t tk, Led h₀ L h' m news → Q (.str "/" t) { s with heap := h', toks := tk }) : Wp w A (PySem.call (.ref 115) [.str x u]) Q s := by
  have hfill : (hd.heap_39 w.params).length = (hd.heap_39 w.params).length ∧ PySem.Challenge.rw_pd0045_01.foot = PySem.Challenge.rw_pd0045_01.foot := by k_fill; exact ⟨rfl, rfl⟩
  clear hfill
  refine Wp.intoD rfl rfl rfl (binds := [("path", .str x u)]) X KX T (by k_is) (by k_is) hroom (BindsTo.of_eq rfl) (locs rfl) (by decide +kernel) ?_
  intro A' oL h₁ tk₁ U C X1
  refine Wp.seq (Wp.iff (Wp.truthOf rfl ?_))
  refine Wp.callN (Wp.nB (by decide) rfl rfl rfl rfl rfl X1 KX T (by k_is) PyProof.Rows.Boot.«isinstance» ?_)
  refine Wp.withB rfl rfl (Wp.arg rfl (Wp.nL rfl rfl rfl X1 rfl (Wp.arg rfl ?_)))
  refine Wp.nB (by decide) rfl rfl rfl rfl rfl X1 KX T (by k_is) PyProof.Rows.Boot.«bytes» (Wp.args ?_)
  refine Wp.notBytes ?_
  refine Wp.truthB ?_
  refine Wp.seq (Wp.ret (Wp.cStr ?_))
  exact h _ _ _ (Led.back (sl := oL.slots) C X1)
end
end Mine
end

section
open PySem PySem.W PyProof.Rows PySem.Calls PySem.Spec
set_option maxRecDepth 100000
set_option maxHeartbeats 4000000
set_option linter.unusedVariables false
namespace Mine
theorem Wp.truthS {hp0 : Heap} {tk0 : Nat} {w : World} {A : Around} {s : Shared} {x : Str} {t : Tok} {Q : Bool → Shared → Prop} (hl : 0 < x.length) (hl' : x.length ≤ 100000) (h : Q true { s with heap := hp0, toks := tk0 + 1 + 1 }) : Wp w A (truthy (.str x t)) Q { s with heap := hp0, toks := tk0 } :=
  ⟨PySem.P.truthy_str (by omega) (by
    have : ((x.length : Int) != 0) = true := by simp; omega
    rw [this]; exact h)⟩
section
variable {w : World} {A : Around} {s : Shared} {h₀ : Heap} {L : Addr} {m : Str → Option Value} {news : List (Addr × Obj)} {p : Program} {loose : List Str} {mean : ExcName → Option Value} {mg mb : Str → Option Value} {Q : Value → Shared → Prop}
noncomputable def joinS (x y : Str) : Str := if Txt.endswith x "/" then x ++ y else x ++ ("/" ++ y)
theorem join_call {x y : Str} {t u : Tok} (X : Led h₀ L s.heap m news) (KX : (hd.heap_39 w.params).In h₀) (T : Top p loose mean mg mb h₀) (hroom : A.depth + 1 < recursionLimit) (hh : A.handled = none)
    (hx : 0 < x.length) (hx' : x.length ≤ 1000) (hy' : y.length ≤ 1000) (hy : Txt.startswith y "/" = false)
    (h : ∀ h' t tk, Led h₀ L h' m news → Q (.str (joinS x y) t) { s with heap := h', toks := tk }) : Wp w A (PySem.call (.ref 122) [.str x t, .str y u]) Q s := by
  have hfill : (hd.heap_39 w.params).length = (hd.heap_39 w.params).length ∧ PySem.Challenge.rw_pd0045_01.foot = PySem.Challenge.rw_pd0045_01.foot := by k_fill; exact ⟨rfl, rfl⟩
  clear hfill
  refine Wp.intoV rfl rfl rfl (vs := [.str y u]) (binds := fun D => [("a", .str x t), ("p", .ref D)]) X KX T (by k_is) (by k_is) (dn0 hroom) rfl (fun D => rfl) (fun D => locs rfl) (by decide +kernel) ?_
  intro A' D L' oL h₁ tk₁ U C X1
  have hh' : A'.handled = none := U.handled.trans hh
  have hroom' : A'.depth < recursionLimit := by rw [U.depth]; omega
  -- a = fspath(a)
  refine Wp.seqH (fun kK nk xk => Wp.assign rfl ?_)
  refine Wp.callN (Wp.nG rfl rfl rfl rfl X1 KX T (by k_is) ?_)
  refine Wp.withD KX (by k_is) rfl rfl (Wp.arg rfl (Wp.nL rfl rfl rfl X1 (v := .str x t) rfl (Wp.args ⟨X1.fr.keep, ?_⟩)))
  refine fspath_call X1 KX T hroom' (fun h2 tk2 X2 => ?_)
  refine Wp.sL rfl rfl X2 (fun h3 X3 => ?_)
  refine Led.gen2 (nw := ((L, oL) :: (D, tupOf [Value.str y u].toArray 0) :: news)) (x1 := "a") (v1 := (.str x t)) (x2 := "p") (v2 := (.ref D)) (X3) (if_pos rfl) ((if_neg (by decide)).trans rfl) ?_
  intro m₃ X3 a1 a2
  clear X1 X2
  first | refine nk _ ?_ | refine ni _ ?_ | refine nt _ ?_ | (try dsimp only)
  -- sep = _get_sep(a)
  refine Wp.seqH (fun kK nk xk => Wp.assign rfl ?_)
  refine Wp.callN (Wp.nG rfl rfl rfl rfl X3 KX T (by k_is) ?_)
  refine Wp.withD KX (by k_is) rfl rfl (Wp.arg rfl (Wp.nL rfl rfl rfl X3 a1 (Wp.args ⟨X3.fr.keep, ?_⟩)))
  refine sep_call X3 KX T hroom' (fun h4 t4 tk4 X4 => ?_)
  refine Wp.sL rfl rfl X4 (fun h5 X5 => ?_)
  first | refine nk _ ?_ | refine ni _ ?_ | refine nt _ ?_ | (try dsimp only)
  refine Wp.seqH (fun kK nk xk => Wp.assign rfl ?_)
  refine Wp.nL rfl rfl rfl X5 (v := .str x t) ((if_neg (by decide)).trans a1) ?_
  refine Wp.sL rfl rfl X5 (fun h6 X6 => ?_)
  refine Led.gen3 (nw := ((L, oL) :: (D, tupOf [Value.str y u].toArray 0) :: news)) (x1 := "path") (v1 := (.str x t)) (x2 := "p") (v2 := (.ref D)) (x3 := "sep") (v3 := (.str "/" t4)) (X6) (if_pos rfl) ((if_neg (by decide)).trans ((if_neg (by decide)).trans a2)) ((if_neg (by decide)).trans (if_pos rfl)) ?_
  intro m₆ X6 b1 b2 b3
  clear X3 X4 X5
  first | refine nk _ ?_ | refine ni _ ?_ | refine nt _ ?_ | (try dsimp only)
  refine Wp.seqH (fun kT nt xt => Wp.try_ (Wp.seqH (fun kK nk xk => Wp.for_ (h₀ := h₀) (fun _ => rfl) ?_)))
  refine Wp.nL rfl rfl rfl X6 b2 ?_
  refine Wp.itTp (its := #[.str y u]) X6 (.tail _ (.head _)) (fun I h7 ent hI X7 => ?_)
  refine Wp.ForAsk.mk (its := ent) (fun i m₁ nw => nw = (L, oL) :: (D, tupOf [Value.str y u].toArray 0) :: news ∧ (i = 0 → m₁ "path" = some (.str x t) ∧ m₁ "sep" = some (.str "/" t4)) ∧ (i ≠ 0 → ∃ t', m₁ "path" = some (.str (joinS x y) t'))) (itTuple hh' I D #[.str y u]) X7 hI ⟨rfl, fun _ => ⟨b1, b3⟩, fun h => absurd rfl h⟩ ?_ ?_ ?_
  · rintro _ _ _ ⟨rfl, _⟩
    exact ⟨_, 0, rfl, rfl, .inl (.tail _ (.head _))⟩
  · clear X6 X7 hI b1 b2 b3
    rintro i K kN kX v its extra m₂ news₂ h8 tk8 hi ⟨hat, rfl⟩ ⟨oI, rfl, cI, dI⟩ ⟨rfl, hj, _⟩ X8
    obtain rfl : i = 0 := by have : i < 1 := hi; omega
    obtain ⟨b1, b3⟩ := hj rfl
    obtain rfl : v = .str y u := by simpa using hat.symm
    refine Wp.owned (Wp.asgN (Wp.sL rfl rfl X8 (fun h9 X9 => ?_)))
    dsimp only [List.append_nil, List.cons_append, List.nil_append] at X9
    first | refine nk _ ?_ | refine ni _ ?_ | refine nt _ ?_ | (try dsimp only)
    refine Wp.seqH (fun kK nk xk => Wp.assign rfl ?_)
    refine Wp.callN (Wp.nG rfl rfl rfl rfl X9 KX T (by k_is) ?_)
    refine Wp.withD KX (by k_is) rfl rfl (Wp.arg rfl (Wp.nL rfl rfl rfl X9 (v := .str y u) (if_pos rfl) (Wp.args ⟨X9.fr.keep, ?_⟩)))
    refine fspath_call X9 KX T hroom' (fun h10 tk10 X10 => ?_)
    refine Wp.sL rfl rfl X10 (fun h11 X11 => ?_)
    refine Led.gen3 (nw := ((I, oI) :: (L, oL) :: (D, tupOf [Value.str y u].toArray 0) :: news)) (x1 := "path") (v1 := (.str x t)) (x2 := "sep") (v2 := (.str "/" t4)) (x3 := "b") (v3 := (.str y u)) (X11) ((if_neg (by decide)).trans ((if_neg (by decide)).trans b1)) ((if_neg (by decide)).trans ((if_neg (by decide)).trans b3)) (if_pos rfl) ?_
    intro m₃' X11 c1 c2 c3
    clear X8 X9 X10
    first | refine nk _ ?_ | refine ni _ ?_ | refine nt _ ?_ | (try dsimp only)
    refine Wp.seqH (fun kI ni xi => Wp.iff (Wp.truthOr2 (Wp.truthOf rfl ?_)))
    refine Wp.mcall rfl (Wp.nL rfl rfl rfl X11 c3 ?_)
    refine Wp.strM PySem.F.slot_str_startswith PySem.F.type_str_startswith ?_
    refine Wp.withM rfl rfl (Wp.arg rfl (Wp.nL rfl rfl rfl X11 c2 (Wp.args ?_)))
    refine Wp.starts (Wp.truthB ?_)
    rw [hy]
    refine Wp.truthNot (Wp.truthOf rfl (Wp.nL rfl rfl rfl X11 c1 (Wp.truthS hx (by omega) ?_)))
    refine Wp.seqH (fun kJ nj xj => Wp.iff (Wp.truthOf rfl ?_))
    refine Wp.mcall rfl (Wp.nL rfl rfl rfl X11 c1 ?_)
    refine Wp.strM PySem.F.slot_str_endswith PySem.F.type_str_endswith ?_
    refine Wp.withM rfl rfl (Wp.arg rfl (Wp.nL rfl rfl rfl X11 c2 (Wp.args ?_)))
    refine Wp.ends (Wp.truthB ?_)
    have fin : ∀ h12 t12 tk12, Led h₀ L' h12 (fun z => if z = "path" then some (.str (joinS x y) t12) else m₃' z) ((I, oI) :: (L, oL) :: (D, tupOf [Value.str y u].toArray 0) :: news) →
        K .next { s with heap := h12, toks := tk12 } := by
      intro h12 t12 tk12 X12
      exact kN _ _ _ [(I, oI)] _ ⟨oI, rfl, cI, dI⟩ X12 ⟨rfl, fun h => absurd h (by decide), fun _ => ⟨t12, if_pos rfl⟩⟩
    have hone : (Str.ofString "/").length = 1 := by decide
    by_cases he : Txt.endswith x (Str.ofString "/") = true
    · have hj : joinS x y = x ++ y := by unfold joinS; rw [if_pos he]
      rw [he]
      refine Wp.seqH (fun kK nk xk => Wp.aug (Wp.lL rfl rfl X11 c1 (Wp.nL rfl rfl rfl X11 c3 ?_)))
      refine Wp.iaddS (by omega) (fun t' tk => ?_)
      rw [← hj]
      refine Wp.sL rfl rfl X11 (fun h12 X12 => ?_)
      exact nk _ (Wp.done (nj _ (Wp.done (ni _ (Wp.done (fin _ _ _ X12))))))
    · have hj : joinS x y = x ++ (Str.ofString "/" ++ y) := by unfold joinS; rw [if_neg he]
      rw [Bool.not_eq_true] at he
      rw [he]
      refine Wp.seqH (fun kK nk xk => Wp.aug (Wp.lL rfl rfl X11 c1 ?_))
      refine Wp.bin (Wp.nL rfl rfl rfl X11 c2 (Wp.nL rfl rfl rfl X11 c3 ?_))
      refine Wp.addS (by omega) (fun t1' tk1' => ?_)
      refine Wp.iaddS ?_ (fun t' tk => ?_)
      · rw [Str.length_append]; omega
      rw [← hj]
      refine Wp.sL rfl rfl X11 (fun h12 X12 => ?_)
      exact nk _ (Wp.done (nj _ (Wp.done (ni _ (Wp.done (fin _ _ _ X12))))))
  · rintro m₂ news₂ h8 tk8 ⟨rfl, _, hj⟩ X8
    obtain ⟨t', hj⟩ := hj (by simp)
    first | refine nk _ ?_ | refine ni _ ?_ | refine nt _ ?_ | (try dsimp only)
    refine Wp.done ?_
    first | refine nk _ ?_ | refine ni _ ?_ | refine nt _ ?_ | (try dsimp only)
    refine Wp.done ?_
    first | refine nk _ ?_ | refine ni _ ?_ | refine nt _ ?_ | (try dsimp only)
    refine Wp.seq (Wp.ret (Wp.nL rfl rfl rfl X8 hj ?_))
    exact h _ _ _ (Led.back (sl := oL.slots) C (X8.sub (.cons_cons _ (.cons _ (List.Sublist.refl _)))))
end
end Mine
end

section
open PySem PySem.W PyProof.Rows PySem.Calls PySem.Spec
set_option maxRecDepth 100000
set_option maxHeartbeats 4000000
set_option linter.unusedVariables false
namespace Mine
namespace Wp
section
variable {w : World} {A : Around} {s : Shared} {h₀ : Heap} {L D : Addr} {m : Str → Option Value} {env : Env} {news news' : List (Addr × Obj)}
noncomputable abbrev slOf (a b c : Value) : Obj := { cls := .type "slice", data := .fields #[a, b, c] }
theorem part0 {Q : Value → Shared → Prop} (h : Q .none s) : Wp w A (evalPart none env) Q s := ⟨wpAny_evalPart_none h⟩
theorem part1 {e : Expr} {Q : Value → Shared → Prop} (h : Wp w A (eval e env) Q s) : Wp w A (evalPart (some e) env) Q s := ⟨wpAny_evalPart_some h.out⟩
theorem eSlice {lower upper step : Option Expr} {p : Pos} {Q : Value → Shared → Prop}
    (h : Wp w A (evalPart lower env) (fun l s₁ => Wp w A (evalPart upper env) (fun u s₂ => Wp w A (evalPart step env) (fun st s₃ =>
      ∃ h₀ L m news, Led h₀ L s₃.heap m news ∧ ∀ a h', Led h₀ L h' m ((a, slOf l u st) :: news) → Q (.ref a) { s₃ with heap := h' }) s₂) s₁) s) : Wp w A (eval (.Slice lower upper step p) env) Q s := by
  refine ⟨wpAny_Slice (wpAny_mono h.out (fun l s₁ h₁ => wpAny_mono h₁.out (fun u s₂ h₂ => wpAny_mono h₂.out (fun st s₃ h₃ => ?_) fun _ _ x => x) fun _ _ x => x) fun _ _ x => x)⟩
  obtain ⟨h₀, L, m, news, X, k⟩ := h₃
  exact k _ _ (X.more (fun _ _ e => Heap.get?_push_of_some _ e) (Heap.get?_push_size _ rfl))
theorem tSlice {hp0 : Heap} {tk0 : Nat} {value slice : Expr} {its : Array Value} {n : Nat} {a : Addr} {vl vu vk : Value} {lo hi st : Option Int} {zs ops : List Value} {Q : Value → Shared → Prop}
    (hs : subscripted slice false (.ref D) (.ref a) = operate ops (getItem (.ref D) (.ref a))) (X : Led h₀ L hp0 m news) (hm : (D, listOf its n) ∈ news) (ha : (a, slOf vl vu vk) ∈ news) (pl : IsPart vl lo) (pu : IsPart vu hi) (pk : IsPart vk st) (h0 : st ≠ some 0)
    (hz : its.size ≤ 1000) (e : (slicePick its lo hi st).toList = zs) (h : ∀ d h', Led h₀ L h' m ((d, listOf zs.toArray 0) :: news) → Q (.ref d) { s with heap := h', toks := tk0 }) : Wp w A (subscriptTail value slice (.ref D) (.ref a)) Q { s with heap := hp0, toks := tk0 } := by
  subst e
  refine ⟨tail_any (isListL X hm).typeIs slot_list_getitem.lookup (wpAny_getItem_list_slice (isListL X hm) (show hp0.IsSliceOf a vl vu vk from ⟨_, X.get ha, rfl, rfl⟩) pl pu pk h0 ?_ (by rw [sizeLine_eq]; omega)) hs⟩
  refine h _ _ ?_
  rw [Array.toArray_toList]
  exact X.more (fun _ _ e => Heap.get?_push_of_some _ e) (Heap.get?_push_size _ rfl)
end
end Wp
theorem at_fst {β : Type} {ts : List (β × Tok)} {l : List β} {d : β} {k : Nat} (h : ts.map (·.1) = l) (hk : k < ts.length) : ∃ q, ts[k]? = some q ∧ q.1 = l.getD k d := by
  subst h
  refine ⟨ts[k], List.getElem?_eq_getElem hk, ?_⟩
  rw [List.getD_eq_getElem?_getD, List.getElem?_map, List.getElem?_eq_getElem hk]
  rfl
end Mine
end

section
open PySem PySem.W PyProof.Rows PySem.Calls PySem.Spec
set_option maxRecDepth 100000
set_option maxHeartbeats 4000000
set_option linter.unusedVariables false
namespace Mine
noncomputable def joinedP (ups : List Nat) (t : Nat) : Nat → List Str
  | 0 => ["/"]
  | j + 1 => joinedP ups t j ++ [joinS ((joinedP ups t j).getD (ups.getD j 0) Str.empty) (nameAt (j + t))]
theorem joinedP_s {ups : List Nat} {t j : Nat} : joinedP ups t (j + 1) = joinedP ups t j ++ [joinS ((joinedP ups t j).getD (ups.getD j 0) Str.empty) (nameAt (j + t))] := rfl
theorem joinedP_length (ups : List Nat) (t : Nat) : ∀ j, (joinedP ups t j).length = j + 1
  | 0 => rfl
  | j + 1 => by rw [joinedP_s, List.length_append, joinedP_length ups t j]; rfl
theorem nameAt_len (k : Nat) : (nameAt k).length ≤ 3 ∧ Txt.startswith (nameAt k) "/" = false := by
  unfold nameAt
  have h : ∀ j, j < 7 → (lawNames.getD j Str.empty).length ≤ 3 ∧ Txt.startswith (lawNames.getD j Str.empty) "/" = false := by decide +kernel
  exact h _ (Nat.mod_lt _ (by decide))
theorem joinS_len (x y : Str) : (joinS x y).length ≤ x.length + y.length + 1 ∧ (0 < x.length → 0 < (joinS x y).length) := by
  unfold joinS
  have h1 : (Str.ofString "/").length = 1 := by decide
  split
  · rw [Str.length_append]; omega
  · rw [Str.length_append, Str.length_append, h1]; omega
theorem joinedP_ok {ups : List Nat} {t : Nat} : ∀ j, (∀ i, i < j → ups.getD i 0 ≤ i) → ∀ x ∈ joinedP ups t j, 0 < x.length ∧ x.length ≤ 1 + 4 * j
  | 0, _, x, hx => by
    have : x = Str.ofString "/" := List.mem_singleton.mp hx
    subst this; decide
  | j + 1, h, x, hx => by
    have ih := joinedP_ok (ups := ups) (t := t) j fun i hi => h i (by omega)
    rw [joinedP_s] at hx
    rcases List.mem_append.mp hx with hx | hx
    · have := ih x hx; omega
    · have e : x = joinS ((joinedP ups t j).getD (ups.getD j 0) Str.empty) (nameAt (j + t)) := List.mem_singleton.mp hx
      have hlt : ups.getD j 0 < (joinedP ups t j).length := by rw [joinedP_length]; have := h j (by omega); omega
      have hmem : (joinedP ups t j).getD (ups.getD j 0) Str.empty ∈ joinedP ups t j := by
        rw [List.getD_eq_getElem?_getD, List.getElem?_eq_getElem hlt]; exact List.getElem_mem _
      have h1 := ih _ hmem
      have h2 := joinS_len ((joinedP ups t j).getD (ups.getD j 0) Str.empty) (nameAt (j + t))
      have h3 := (nameAt_len (j + t)).1
      rw [e]
      constructor
      · exact h2.2 h1.1
      · omega
section
variable {w : World} {A : Around} {s : Shared} {h₀ : Heap} {L : Addr} {m : Str → Option Value} {news : List (Addr × Obj)} {p : Program} {loose : List Str} {mean : ExcName → Option Value} {mg mb : Str → Option Value} {Q : Value → Shared → Prop}
theorem joined_call {uA : Addr} {us : List (Int × Tok)} {un : Nat} {ups : List Nat} {t : Nat} {u : Tok} (X : Led h₀ L s.heap m news) (KX : (hd.heap_39 w.params).In h₀) (T : Top p loose mean mg mb h₀) (hroom : A.depth + 2 < recursionLimit) (hh : A.handled = none)
    (hu : (uA, IL us un) ∈ news) (hus : us.map (·.1) = ups.map Int.ofNat) (hl : ups.length = 5) (hok : ∀ i, i < 5 → ups.getD i 0 ≤ i) (ht : t < 7)
    (h : ∀ a h' ts n tk, ts.map (·.1) = (joinedP ups t 5).drop 1 → Led h₀ L h' m ((a, SL ts n) :: news) → Q (.ref a) { s with heap := h', toks := tk }) : Wp w A (PySem.call (.ref 141) [.ref uA, .int t u]) Q s := by
  have hfill : (hd.heap_39 w.params).length = (hd.heap_39 w.params).length ∧ PySem.Challenge.rw_pd0045_01.foot = PySem.Challenge.rw_pd0045_01.foot := by k_fill; exact ⟨rfl, rfl⟩
  clear hfill
  refine Wp.intoD rfl rfl rfl (binds := [("ups", .ref uA), ("turn", .int t u)]) X KX T (by k_is) (by k_is) (dn0 hroom) (BindsTo.of_eq rfl) (locs rfl) (by decide +kernel) ?_
  intro A' oL h₁ tk₁ U C X1
  have hh' : A'.handled = none := U.handled.trans hh
  have hroom' : A'.depth + 1 < recursionLimit := dnU U.depth hroom (by decide)
  refine Wp.seqH (fun kK nk xk => Wp.assign rfl (Wp.eList (Wp.arg rfl (Wp.cStr (Wp.args ?_)))))
  refine Wp.nwList X1 (by simp) (fun pa h2 X2 => ?_)
  refine Wp.sL rfl rfl X2 (fun h3 X3 => ?_)
  generalize tk₁ = tk0 at X3 ⊢
  refine Led.gen3 (nw := ((pa, SL [("/", tk0)] 0) :: (L, oL) :: news)) (x1 := "ups") (v1 := (.ref uA)) (x2 := "turn") (v2 := (.int t u)) (x3 := "paths") (v3 := (.ref pa)) (X3) ((if_neg (by decide)).trans rfl) ((if_neg (by decide)).trans rfl) (if_pos rfl) ?_
  intro m₃ X3 a1 a2 a3
  clear X1 X2
  first | refine nk _ ?_ | refine ni _ ?_ | refine nt _ ?_ | (try dsimp only)
  refine Wp.seqH (fun kK nk xk => Wp.for_ (h₀ := h₀) (fun _ => rfl) ?_)
  refine Wp.callN (Wp.nB (by decide) rfl rfl rfl rfl rfl X3 KX T (by k_is) PyProof.Rows.Boot.«range» ?_)
  refine Wp.withT rfl rfl (Wp.arg rfl (Wp.cInt (Wp.args ?_)))
  refine Wp.range1 X3 (fun r h4 t4 v4 tk4 X4 => ?_)
  refine Wp.itRg (k := 5) X4 (.head _) (by simp) (by decide) (by decide) (fun I h5 its hI X5 => ?_)
  have X6 := X5.sub (n' := its ++ ((pa, SL [("/", tk0)] 0) :: (L, oL) :: news)) (List.Sublist.append_left (.cons _ (List.Sublist.refl _)) _)
  clear X3 X4 X5
  refine Wp.ForAsk.mk (its := its) (fun i m₁ nw => ∃ ts n, nw = (pa, SL ts n) :: (L, oL) :: news ∧ ts.map (·.1) = joinedP ups t i ∧ m₁ "ups" = some (.ref uA) ∧ m₁ "turn" = some (.int t u) ∧ m₁ "paths" = some (.ref pa)) (itRange hh' I 0 5) X6 hI ⟨_, _, rfl, rfl, a1, a2, a3⟩ (fun _ _ _ _ => trivial) ?_ ?_
  · clear X6 hI a1 a2 a3
    rintro i K kN kX v its extra m₂ news₂ h8 tk8 hi ⟨⟨tv, rfl⟩, rfl⟩ hst hJ X8
    revert X8
    refine ex2a5 hJ ?_
    clear hJ
    rintro ts n rfl hts a1 a2 a3 X8
    unfold RgSt at hst
    subst hst
    refine Wp.owned (Wp.asgN (Wp.sL rfl rfl X8 (fun h9 X9 => ?_)))
    dsimp only [List.append_nil, List.cons_append, List.nil_append] at X9
    clear X8
    have hi0 : (0 : Int) + (i : Int) = ((i : Nat) : Int) := zi i
    rw [hi0] at X9
    refine Led.gen4 (x1 := "ups") (v1 := (.ref uA)) (x2 := "turn") (v2 := (.int t u)) (x3 := "paths") (v3 := (.ref pa)) (x4 := "place") (v4 := (.int (i : Nat) tv)) (X9) ((if_neg (by decide)).trans a1) ((if_neg (by decide)).trans a2) ((if_neg (by decide)).trans a3) (if_pos rfl) ?_
    intro m₄ X9 b1 b2 b3 b4
    first | refine nk _ ?_ | refine ni _ ?_ | refine nt _ ?_ | (try dsimp only)
    have hlt : ups.getD i 0 < (joinedP ups t i).length := by rw [joinedP_length]; exact Nat.lt_succ_of_le (hok i hi)
    have htl : ts.length = i + 1 := by have := congrArg List.length hts; rw [List.length_map, joinedP_length] at this; exact this
    have hul : us.length = 5 := len5 hus (by rw [List.length_map]; exact hl)
    obtain ⟨up, hup, hup'⟩ : ∃ up, us[i]? = some up ∧ up.1 = ((ups.getD i 0 : Nat) : Int) := by
      obtain ⟨up, h1, h2⟩ := at_fst (d := Int.ofNat 0) hus (hul.symm ▸ hi : i < us.length)
      refine ⟨up, h1, h2.trans ?_⟩
      rw [List.getD_eq_getElem?_getD, List.getD_eq_getElem?_getD, List.getElem?_map]; cases ups[i]? <;> rfl
    obtain ⟨q, hq, hq'⟩ : ∃ q, ts[ups.getD i 0]? = some q ∧ q.1 = (joinedP ups t i).getD (ups.getD i 0) Str.empty := at_fst hts (by rw [htl]; exact Nat.lt_succ_of_le (hok i hi))
    refine Wp.seqH (fun kK nk xk => Wp.expr rfl rfl ?_)
    refine Wp.mcall rfl (Wp.nL rfl rfl rfl X9 b3 ?_)
    refine Wp.listM (its := (ts.map vstr).toArray) (n := n) X9 (.tail _ (.head _)) PySem.F.slot_list_append PySem.F.type_list_append ?_
    refine Wp.withM rfl rfl (Wp.arg rfl ?_)
    refine Wp.callN (Wp.nG rfl rfl rfl rfl X9 KX T (by k_is) ?_)
    refine Wp.withD KX (by k_is) rfl rfl (Wp.arg rfl ?_)
    refine Wp.sub (Wp.nL rfl rfl rfl X9 b3 ?_)
    refine Wp.sub (Wp.nL rfl rfl rfl X9 b1 (Wp.nL rfl rfl rfl X9 b4 ?_))
    refine Wp.item (v := vint up) (by with_unfolding_all rfl) X9 (.tail _ (.tail _ (.tail _ hu))) (Int.natCast_nonneg _) (ns hi (by decide)) (by simp [hup]) ?_
    refine Wp.item (v := vstr q) (by with_unfolding_all rfl) X9 (.tail _ (.head _)) (nn0 hup') (ss0 hup' (Nat.le_trans (hok i hi) (Nat.le_of_lt hi))) (by rw [hup']; simpa using hq) ?_
    refine Wp.arg rfl ?_
    refine Wp.callN (Wp.nG rfl rfl rfl rfl X9 KX T (by k_is) ?_)
    refine Wp.withD KX (by k_is) rfl rfl (Wp.arg rfl ?_)
    refine Wp.bin (Wp.nL rfl rfl rfl X9 b4 (Wp.nL rfl rfl rfl X9 b2 (Wp.addI ?_)))
    refine Wp.args ⟨X9.fr.keep, ?_⟩
    refine name_call (k := i + t) X9 KX T (by omega) (fun h10 t10 tk10 X10 => ?_)
    refine Wp.args ⟨X10.fr.keep, ?_⟩
    have hmem : q.1 ∈ joinedP ups t i := by rw [← hts]; exact List.mem_map.mpr ⟨q, List.mem_of_getElem? hq, rfl⟩
    have hql := joinedP_ok (ups := ups) (t := t) i (fun k hk => hok k (Nat.lt_trans hk hi)) q.1 hmem
    have hnl := nameAt_len (i + t)
    refine join_call X10 KX T hroom' hh' hql.1 (by omega) (by omega) hnl.2 (fun h11 t11 tk11 X11 => ?_)
    refine Wp.args ?_
    dsimp only [List.append_nil, List.cons_append, List.nil_append]
    refine Wp.appendS X11 (.tail .head) (by omega) (fun h12 X12 => ?_)
    first | refine nk _ ?_ | refine ni _ ?_ | refine nt _ ?_ | (try dsimp only)
    refine Wp.done ?_
    refine kN _ _ _ _ _ rfl X12 ⟨_, _, rfl, ?_, b1, b2, b3⟩
    rw [joinedP_s, List.map_append, hts, ← hq']; rfl
  · rintro m₂ news₂ h8 tk8 hJ X8
    revert X8
    refine ex2a5 hJ ?_
    clear hJ
    rintro ts n rfl hts a1 a2 a3 X8
    first | refine nk _ ?_ | refine ni _ ?_ | refine nt _ ?_ | (try dsimp only)
    have htl : ts.length = 6 := by have := congrArg List.length hts; rw [List.length_map, joinedP_length] at this; exact this
    refine Wp.seq (Wp.ret (Wp.sub (Wp.nL rfl rfl rfl X8 a3 ?_)))
    refine Wp.eSlice (Wp.part1 (Wp.cInt (Wp.part0 (Wp.part0 ⟨_, _, _, _, X8, fun sa h9 X9 => ?_⟩))))
    refine Wp.tSlice (zs := (ts.drop 1).map vstr) (by with_unfolding_all rfl) X9 (.tail _ (.head _)) (.head _) (.int 1 _) .none .none (by decide) (by simp; omega) ?_ (fun d h10 X10 => ?_)
    · have := slicePick_from' (ts.map vstr).toArray 1
      rw [show ((1 : Nat) : Int) = 1 from rfl] at this
      rw [this]; simp
    · refine h _ _ (ts.drop 1) 0 _ (by rw [List.map_drop, hts]) ?_
      have X11 := X10.sub (n' := (d, SL (ts.drop 1) 0) :: (L, oL) :: news) (.cons_cons _ (.cons _ (.cons _ (List.Sublist.refl _))))
      exact Led.back (sl := oL.slots) C (X11.perm (List.Perm.swap _ _ _))
end
end Mine
end

section
open PySem PySem.W PyProof.Rows PySem.Calls PySem.Spec
set_option maxRecDepth 100000
set_option maxHeartbeats 4000000
set_option linter.unusedVariables false
namespace Mine
section
variable {α : Type} {a b c d e f g i j k x : α} {l : List α}
theorem mi0 : x ∈ x :: l := .head _
theorem mi1 : x ∈ a :: x :: l := .tail _ mi0
theorem mi2 : x ∈ a :: b :: x :: l := .tail _ mi1
theorem mi3 : x ∈ a :: b :: c :: x :: l := .tail _ mi2
theorem mi4 : x ∈ a :: b :: c :: d :: x :: l := .tail _ mi3
theorem mi5 : x ∈ a :: b :: c :: d :: e :: x :: l := .tail _ mi4
theorem mi6 : x ∈ a :: b :: c :: d :: e :: f :: x :: l := .tail _ mi5
theorem mi7 : x ∈ a :: b :: c :: d :: e :: f :: g :: x :: l := .tail _ mi6
theorem mi8 : x ∈ a :: b :: c :: d :: e :: f :: g :: i :: x :: l := .tail _ mi7
theorem mi9 : x ∈ a :: b :: c :: d :: e :: f :: g :: i :: j :: x :: l := .tail _ mi8
theorem mi10 : x ∈ a :: b :: c :: d :: e :: f :: g :: i :: j :: k :: x :: l := .tail _ mi9
theorem mt1 (h : x ∈ l) : x ∈ a :: l := .tail _ h
theorem mt2 (h : x ∈ l) : x ∈ a :: b :: l := .tail _ (mt1 h)
theorem mt3 (h : x ∈ l) : x ∈ a :: b :: c :: l := .tail _ (mt2 h)
theorem mt4 (h : x ∈ l) : x ∈ a :: b :: c :: d :: l := .tail _ (mt3 h)
theorem mt5 (h : x ∈ l) : x ∈ a :: b :: c :: d :: e :: l := .tail _ (mt4 h)
theorem mt6 (h : x ∈ l) : x ∈ a :: b :: c :: d :: e :: f :: l := .tail _ (mt5 h)
theorem mt7 (h : x ∈ l) : x ∈ a :: b :: c :: d :: e :: f :: g :: l := .tail _ (mt6 h)
theorem mt8 (h : x ∈ l) : x ∈ a :: b :: c :: d :: e :: f :: g :: i :: l := .tail _ (mt7 h)
theorem mt9 (h : x ∈ l) : x ∈ a :: b :: c :: d :: e :: f :: g :: i :: j :: l := .tail _ (mt8 h)
theorem mt10 (h : x ∈ l) : x ∈ a :: b :: c :: d :: e :: f :: g :: i :: j :: k :: l := .tail _ (mt9 h)
end
namespace Wp
section
variable {w : World} {A : Around} {s : Shared} {h₀ : Heap} {L D : Addr} {m : Str → Option Value} {env : Env} {news news' : List (Addr × Obj)}
theorem fdivI {hp0 : Heap} {tk0 : Nat} {a b c : Int} {t u : Tok} {Q : Value → Shared → Prop} (hb : b ≠ 0) (hg : Builtin.divisionGoesByPylong a b = false) (hc : a.fdiv b = c) (h : Q (.int c tk0) { s with heap := hp0, toks := tk0 + 1 }) : Wp w A (binaryOp .FloorDiv (.int a t) (.int b u)) Q { s with heap := hp0, toks := tk0 } := by
  subst hc; exact ⟨AutoIntOps.floordiv_1 (by simpa using hb) (by rw [hg]; decide) h⟩
theorem pow2 {hp0 : Heap} {tk0 : Nat} {e : Nat} {b : Int} {t u : Tok} {Q : Value → Shared → Prop} (he : e < 5) (hb : b = (e : Int)) (h : Q (.int ((2 ^ e : Nat) : Int) tk0) { s with heap := hp0, toks := tk0 + 1 }) : Wp w A (binaryOp .Pow (.int 2 t) (.int b u)) Q { s with heap := hp0, toks := tk0 } := by
  subst hb
  revert h
  refine ltS (P := fun e => Q (.int ((2 ^ e : Nat) : Int) tk0) { s with heap := hp0, toks := tk0 + 1 } → Wp w A (binaryOp .Pow (.int 2 t) (.int ((e : Nat) : Int) u)) Q { s with heap := hp0, toks := tk0 }) (ltS (ltS (ltS (ltS lt0 ?_) ?_) ?_) ?_) ?_ e he
  · exact fun h => ⟨AutoIntOps.pow_0 (by decide) (by decide) h⟩
  · exact fun h => ⟨AutoIntOps.pow_4 (by decide) (by decide) (by decide) (by decide) (by decide +kernel) h⟩
  · exact fun h => ⟨AutoIntOps.pow_4 (by decide) (by decide) (by decide) (by decide) (by decide +kernel) h⟩
  · exact fun h => ⟨AutoIntOps.pow_4 (by decide) (by decide) (by decide) (by decide) (by decide +kernel) h⟩
  · exact fun h => ⟨AutoIntOps.pow_4 (by decide) (by decide) (by decide) (by decide) (by decide +kernel) h⟩
theorem xorI {hp0 : Heap} {tk0 : Nat} {a b : Int} {t u : Tok} {Q : Value → Shared → Prop} (h : Q (.int (Builtin.bitXor a b) tk0) { s with heap := hp0, toks := tk0 + 1 }) : Wp w A (binaryOp .BitXor (.int a t) (.int b u)) Q { s with heap := hp0, toks := tk0 } := ⟨PyProof.Rows.xor_int h⟩
theorem eqI {a b : Int} {c : Bool} {t u : Tok} {Q : Value → Shared → Prop} (hc : (a == b) = c) (h : Q (.bool c) s) : Wp w A (compareOp .Eq (.int a t) (.int b u)) Q s := by subst hc; exact ⟨wpAny_eq_int h⟩
theorem addL {hp0 : Heap} {tk0 : Nat} {l b : Addr} {vs ws : List Value} {n k : Nat} {Q : Value → Shared → Prop} (X : Led h₀ L hp0 m news) (hl : (l, listOf vs.toArray n) ∈ news) (hb : (b, listOf ws.toArray k) ∈ news) (hz : vs.length + ws.length ≤ 1000)
    (h : ∀ d h', Led h₀ L h' m ((d, listOf (vs ++ ws).toArray 0) :: news) → Q (.ref d) { s with heap := h', toks := tk0 }) : Wp w A (binaryOp .Add (.ref l) (.ref b)) Q { s with heap := hp0, toks := tk0 } :=
  ⟨add_lists X.fr X.nw (isListL X hl) (isListL X hb) (fun h' F N => h _ h' ⟨F, N, by
    refine List.nodup_cons.mpr ⟨fun hm => ?_, X.nd⟩
    obtain ⟨p, hp, e⟩ := List.mem_map.mp hm
    exact absurd (X.lt hp) (by rw [e]; exact Nat.lt_irrefl _)⟩) (by rw [sizeLine_eq]; omega)⟩
theorem eqIL {a b : Addr} {ts us : List (Int × Tok)} {n k : Nat} {Q : Value → Shared → Prop} (X : Led h₀ L s.heap m news) (ha : (a, IL ts n) ∈ news) (hb : (b, IL us k) ∈ news) (hu : A.units + 64 < cLine) (h : Q (.bool (decide (ts.map (·.1) = us.map (·.1)))) s) : Wp w A (compareOp .Eq (.ref a) (.ref b)) Q s :=
  ⟨ke_eq_ints (isListIL X ha) (isListIL X hb) (intsAre_vint _) (intsAre_vint _) hu h⟩
theorem truthBI {b : Bool} {Q : Bool → Shared → Prop} (hf : b = false → Q false s) (ht : b = true → Q true s) : Wp w A (truthy (.bool b)) Q s := by
  cases b
  · exact Wp.truthB (hf rfl)
  · exact Wp.truthB (ht rfl)
theorem unary {op : UnaryOp} {x : Expr} {pos : Pos} {Q : Value → Shared → Prop} (h : Wp w A (eval x env) (fun v s₁ => Wp w A (unaryOp op v) Q s₁) s) : Wp w A (eval (.UnaryOp op x pos) env) Q s :=
  ⟨PySem.wpAny_UnaryOp (wpAny_mono h.out (fun _ _ x => x.out) fun _ _ x => x)⟩
theorem negI {hp0 : Heap} {tk0 : Nat} {a : Int} {t : Tok} {Q : Value → Shared → Prop} (h : Q (.int (-a) tk0) { s with heap := hp0, toks := tk0 + 1 }) : Wp w A (unaryOp .USub (.int a t)) Q { s with heap := hp0, toks := tk0 } := ⟨PyProof.Rows.neg_int h⟩
noncomputable def LsO (o : Obj) (its : Array Value) : Prop := o.cls = .type "list" ∧ ∃ n, o.data = .seq its n
theorem itemO {o : Obj} {its : Array Value} {k : Int} {u : Tok} {v : Value} {value slice : Expr} {Q : Value → Shared → Prop} (hs : subscripted slice false (.ref D) (.int k u) = operate [.ref D, .int k u] (getItem (.ref D) (.int k u))) (X : Led h₀ L s.heap m news) (hm : (D, o) ∈ news) (ho : LsO o its) (h0 : 0 ≤ k) (hhi : k < 2 ^ 63) (hx : its[k.toNat]? = some v) (h : Q v s) :
    Wp w A (subscriptTail value slice (.ref D) (.int k u)) Q s := by
  have hl : s.heap.IsList D its := ⟨o, X.get hm, ho.1, ho.2⟩
  exact ⟨tail_any hl.typeIs slot_list_getitem.lookup (wpAny_getItem_list hl h0 hhi hx h) hs⟩
theorem setO {hp0 : Heap} {tk0 : Nat} {o : Obj} {its : Array Value} {k : Int} {t : Tok} {v : Value} {g : Obj → List (Addr × Obj)} {Q : Unit → Shared → Prop} (X : Led h₀ L hp0 m news) (u : ∀ o', UpdAt D o o' news (g o')) (ho : LsO o its) (h0 : 0 ≤ k) (hhi : k < 2 ^ 63) (hn : k < its.size)
    (h : ∀ h' o', LsO o' (its.setIfInBounds k.toNat v) → Led h₀ L h' m (g o') → Q () { s with heap := h', toks := tk0 }) : Wp w A (setItem (.ref D) (.int k t) v) Q { s with heap := hp0, toks := tk0 } := by
  have hm : (D, o) ∈ news := by obtain ⟨a, b, e, _⟩ := (u o).split; rw [e]; simp
  have hl : hp0.IsList D its := ⟨o, X.get hm, ho.1, ho.2⟩
  refine ⟨wpAny_setItem_list hl h0 hhi hn fun h' hi hs => ?_⟩
  obtain ⟨o', ho', hc', hd'⟩ := hi
  exact h h' o' ⟨hc', hd'⟩ (X.turn (u o') hs ho')
theorem pairC {hp0 : Heap} {tk0 : Nat} {t : Addr} {a b : Value} {n : Nat} {x y : Str} {px py : Pos} {k : Nat} {pos : Pos} {c : Addr} {o : Obj} {v₀ : Option Value} {g : Obj → List (Addr × Obj)} {Q : Unit → Shared → Prop} (hk : env.scope.kind = .function) (hx : env.kindOf x = some .cell) (hy : env.kindOf y = some .local) (hc : env.cells.lookup x = some c)
    (X : Led h₀ env.locals hp0 m news) (hm : (t, tupOf #[a, b] n) ∈ news) (hh : A.handled = none) (u : ∀ o', UpdAt c o o' news (g o')) (hd : o.data = .cell v₀)
    (h : ∀ h' o' tk, o'.data = .cell (some a) → Led h₀ env.locals h' (fun z => if z = y then some b else m z) (g o') → Q () { s with heap := h', toks := tk }) : Wp w A (PySem.assign (.Tuple [.Name x px, .Name y py] k pos) env (.ref t)) Q { s with heap := hp0, toks := tk0 } := by
  refine ⟨?_⟩
  show wpAny _ A (do standAt pos; unpack (.ref t) (assignEach [.Name x px, .Name y py] env)) Q No _
  refine wpAny_bind (wpAny_standAt ?_)
  unfold unpack
  refine wpAny_bind (wpAny_holding ?_)
  show wpAny _ A (unpackItems (.ref t) 2 none) _ _ _
  refine unpackT (its := #[a, b]) X hm hh (fun h₁ X₁ => ?_)
  show wpAny _ A (do holding [b] (PySem.assign (.Name x px) env a); assignInOrder [PySem.assign (.Name y py) env] [b]) Q No _
  refine wpAny_bind (wpAny_holding (wpAny_assign_Name (storeC X₁ hc u hd (fun h₂ o' hd' X₂ => ?_) hk hx)))
  show wpAny _ A (do holding [] (PySem.assign (.Name y py) env b); assignInOrder [] []) Q No _
  refine wpAny_bind (wpAny_holding (wpAny_assign_Name (storeL X₂ (fun h₃ X₃ => ?_) hk hy)))
  exact wpAny_pure (h h₃ _ _ hd' X₃)
theorem assignSw {x y : Str} {px py : Pos} {k : Nat} {tpos pos : Pos} {value : Expr} {Q : Flow → Shared → Prop} (hs : swapsWithSole [.Tuple [.Name x px, .Name y py] k tpos] value pos.line env = pure false) (hw : swappedStores [.Tuple [.Name x px, .Name y py] k tpos] value env = pure (some [x, y]))
    (hk : env.scope.kind = .function) (hx : env.kindOf x = some .local) (hy : env.kindOf y = some .local) (hh : A.handled = none)
    (h : Wp w A (eval value env) (fun v s₁ => ∃ t a b n m news, v = .ref t ∧ Led h₀ env.locals s₁.heap m news ∧ (t, tupOf #[a, b] n) ∈ news ∧
      ∀ h' tk, Led h₀ env.locals h' (fun z => if z = x then some a else if z = y then some b else m z) news → Q .next { s₁ with heap := h', toks := tk }) s) : Wp w A (exec (.Assign [.Tuple [.Name x px, .Name y py] k tpos] value pos) env) Q s := by
  refine ⟨Assign_Tuple_swapped (names := [x, y]) (wpAny_mono h.out (fun v s₁ h₁ => ?_) fun _ _ x => x) hs hw⟩
  obtain ⟨t, a, b, n, m, news, rfl, X, hm, fin⟩ := h₁
  refine unpackT (its := #[a, b]) X hm hh (fun h₁ X₁ => ?_)
  show wpAny _ A (do holding [a] (bindName env y b); assignInOrder [bindName env x] [a]) _ No _
  refine wpAny_bind (wpAny_holding (bindName_ (storeL X₁ (fun h₂ X₂ => ?_) hk hy)))
  show wpAny _ A (do holding [] (bindName env x a); assignInOrder [] []) _ No _
  refine wpAny_bind (wpAny_holding (bindName_ (storeL X₂ (fun h₃ X₃ => ?_) hk hx)))
  exact wpAny_pure (fin h₃ _ X₃)
end
end Wp
end Mine
end

section
open PySem PySem.W PyProof.Rows PySem.Calls PySem.Spec
set_option maxRecDepth 100000
set_option maxHeartbeats 4000000
set_option linter.unusedVariables false
namespace Mine
noncomputable def keptM (mask : Nat) : List Nat := [1, 2, 3, 4, 5].filter (fun i => mask / 2 ^ (i - 1) % 2 == 1)
noncomputable def okUp (ups : List Nat) (mask i : Nat) : Bool := ups.getD (i - 1) 0 == 0 || (keptM mask).contains (ups.getD (i - 1) 0)
noncomputable def closedM (ups : List Nat) (mask : Nat) : Bool := (keptM mask).all (okUp ups mask)
noncomputable def worthL (ups : List Nat) (w : List Int) : List Nat → List Int
  | [] => w
  | i :: r => worthL ups (w.set (ups.getD (i - 1) 0) (Builtin.bitXor (w.getD (ups.getD (i - 1) 0) 0) (w.getD i 0 + 1))) r
theorem worthL_s {ups : List Nat} {w : List Int} {i : Nat} {r : List Nat} : worthL ups w (i :: r) = worthL ups (w.set (ups.getD (i - 1) 0) (Builtin.bitXor (w.getD (ups.getD (i - 1) 0) 0) (w.getD i 0 + 1))) r := rfl
noncomputable def nimM (ups : List Nat) (mask : Nat) : Int := (worthL ups [0, 0, 0, 0, 0, 0] (keptM mask).reverse).getD 0 0
noncomputable def textsP (ups : List Nat) (t : Nat) : Nat → List Str
  | 0 => [""]
  | j + 1 => textsP ups t j ++ [((textsP ups t j).getD (ups.getD j 0) Str.empty ++ "/") ++ nameAt (j + t)]
theorem textsP_s {ups : List Nat} {t j : Nat} : textsP ups t (j + 1) = textsP ups t j ++ [((textsP ups t j).getD (ups.getD j 0) Str.empty ++ "/") ++ nameAt (j + t)] := rfl
theorem textsP_length (ups : List Nat) (t : Nat) : ∀ j, (textsP ups t j).length = j + 1
  | 0 => rfl
  | j + 1 => by rw [textsP_s, List.length_append, textsP_length ups t j]; rfl
theorem textsP_ok {ups : List Nat} {t : Nat} : ∀ j, (∀ i, i < j → ups.getD i 0 ≤ i) → ∀ x ∈ textsP ups t j, x.length ≤ 4 * j
  | 0, _, x, hx => by
    have : x = Str.ofString "" := List.mem_singleton.mp hx
    subst this; decide
  | j + 1, h, x, hx => by
    have ih := textsP_ok (ups := ups) (t := t) j fun i hi => h i (by omega)
    rw [textsP_s] at hx
    rcases List.mem_append.mp hx with hx | hx
    · have := ih x hx; omega
    · have e : x = ((textsP ups t j).getD (ups.getD j 0) Str.empty ++ "/") ++ nameAt (j + t) := List.mem_singleton.mp hx
      have hlt : ups.getD j 0 < (textsP ups t j).length := by rw [textsP_length]; have := h j (by omega); omega
      have hmem : (textsP ups t j).getD (ups.getD j 0) Str.empty ∈ textsP ups t j := by
        rw [List.getD_eq_getElem?_getD, List.getElem?_eq_getElem hlt]; exact List.getElem_mem _
      have h1 := ih _ hmem
      have h3 := (nameAt_len (j + t)).1
      have h4 : (Str.ofString "/").length = 1 := by decide
      rw [e, Str.length_append, Str.length_append, h4]
      omega
noncomputable def textsOf (ups : List Nat) (t mask : Nat) : List Str := (keptM mask).map (fun i => (textsP ups t 5).getD i Str.empty)
noncomputable def DueInv (ups : List Nat) (t i : Nat) (kvs : List (Str × Value)) : Prop :=
  (∀ kv ∈ kvs, ∃ mask tk, mask < i ∧ closedM ups mask = true ∧ kv.1 = keyOf (textsOf ups t mask) ∧ kv.2 = .int (nimM ups mask) tk) ∧ ∀ mask, mask < i → closedM ups mask = true → keyOf (textsOf ups t mask) ∈ kvs.map (·.1)
theorem dgp : ∀ i, i < 32 → ∀ j, j < 5 → Builtin.divisionGoesByPylong ((i : Nat) : Int) ((2 ^ j : Nat) : Int) = false := by decide +kernel
theorem fdiv_nat (a b : Nat) : ((a : Int)).fdiv (b : Int) = ((a / b : Nat) : Int) := by rw [Int.fdiv_eq_ediv_of_nonneg _ (Int.natCast_nonneg _)]; rfl
theorem fmod_nat (a b : Nat) : ((a : Int)).fmod (b : Int) = ((a % b : Nat) : Int) := by rw [Int.fmod_eq_emod_of_nonneg _ (Int.natCast_nonneg _)]; rfl
noncomputable def keptTo (mask j : Nat) : List Nat := ((List.range j).map (· + 1)).filter (fun i => mask / 2 ^ (i - 1) % 2 == 1)
theorem keptTo_succ (mask j : Nat) : keptTo mask (j + 1) = keptTo mask j ++ (if mask / 2 ^ j % 2 == 1 then [j + 1] else []) := by
  unfold keptTo
  rw [List.range_succ, List.map_append, List.filter_append]
  congr 1
  show List.filter _ [j + 1] = _
  rw [List.filter_cons, Nat.add_sub_cancel]
  rfl
theorem keptM_mem {mask i : Nat} (h : i ∈ keptM mask) : 1 ≤ i ∧ i ≤ 5 := by
  unfold keptM at h
  have := (List.mem_filter.mp h).1
  simp at this; omega
theorem keptM_len (mask : Nat) : (keptM mask).length ≤ 5 := List.length_filter_le _ _
theorem worthL_append (ups : List Nat) : ∀ (l r : List Nat) (w : List Int), worthL ups w (l ++ r) = worthL ups (worthL ups w l) r
  | [], _, _ => rfl
  | i :: l, r, w => by rw [List.cons_append, worthL_s, worthL_s, worthL_append ups l r]
theorem worthL_length (ups : List Nat) : ∀ (l : List Nat) (w : List Int), (worthL ups w l).length = w.length
  | [], _ => rfl
  | i :: l, w => by rw [worthL_s, worthL_length ups l, List.length_set]
theorem at_nat {ts : List (Int × Tok)} {l : List Nat} (h : ts.map (·.1) = l.map Int.ofNat) {j : Nat} {y : Int × Tok} (hy : ts[j]? = some y) : ∃ k, l[j]? = some k ∧ y.1 = (k : Int) := by
  have h1 := congrArg (fun z => z[j]?) h
  simp only [List.getElem?_map, hy, Option.map_some] at h1
  cases e : l[j]? with
  | none => rw [e] at h1; simp at h1
  | some k => rw [e] at h1; simp at h1; exact ⟨k, rfl, h1⟩
theorem up_at {us : List (Int × Tok)} {ups : List Nat} (hus : us.map (·.1) = ups.map Int.ofNat) (hl : ups.length = 5) {i : Nat} (hi : i < 5) : ∃ up, us[i]? = some up ∧ up.1 = ((ups.getD i 0 : Nat) : Int) := by
  have hul : us.length = 5 := by have := congrArg List.length hus; rw [List.length_map, List.length_map] at this; omega
  obtain ⟨up, h1, h2⟩ := at_fst (d := Int.ofNat 0) hus (by omega : i < us.length)
  refine ⟨up, h1, h2.trans ?_⟩
  rw [List.getD_eq_getElem?_getD, List.getD_eq_getElem?_getD, List.getElem?_map]; cases ups[i]? <;> rfl
theorem okUp_eq {ups : List Nat} {i k : Nat} {up : Int} {t : Tok} {ks : List (Int × Tok)} (hks : ks.map (·.1) = (keptM i).map Int.ofNat) (hup : up = ((ups.getD (k - 1) 0 : Nat) : Int)) : decide (up ∈ (((0 : Int), t) :: ks).map (·.1)) = okUp ups i k := by
  rw [List.map_cons, hks, hup]
  unfold okUp
  generalize ups.getD (k - 1) 0 = z
  rw [Bool.eq_iff_iff]
  simp only [decide_eq_true_eq, List.mem_cons, List.mem_map, Bool.or_eq_true, beq_iff_eq, List.contains_iff_mem]
  constructor
  · rintro (h | ⟨a, ha, h⟩)
    · exact .inl (by omega)
    · have : a = z := by exact Int.ofNat.inj h
      exact .inr (this ▸ ha)
  · rintro (h | h)
    · exact .inl (by omega)
    · exact .inr ⟨z, h, rfl⟩
theorem closed_eq {ups : List Nat} {i : Nat} {bs : List (Int × Tok)} (h : bs.map (·.1) = ((keptM i).filter (fun k => !okUp ups i k)).map Int.ofNat) : decide (bs.map (·.1) = (([] : List (Int × Tok)).map (·.1))) = closedM ups i := by
  rw [h]
  unfold closedM
  rw [Bool.eq_iff_iff, decide_eq_true_eq, List.map_nil, List.map_eq_nil_iff, List.filter_eq_nil_iff, List.all_eq_true]
  constructor
  · intro h k hk
    have := h k hk
    simpa using this
  · intro h k hk
    simpa using h k hk
theorem stored_mem {kvs : List (Str × Value)} {k : Str} {v : Value} {kv : Str × Value} (h : kv ∈ stored kvs k v) : kv ∈ kvs ∨ kv = (k, v) := by
  unfold stored at h
  split at h
  · obtain ⟨q, hq, rfl⟩ := List.mem_map.mp h
    split
    · rename_i e; exact .inr (by rw [e])
    · exact .inl hq
  · rcases List.mem_append.mp h with h | h
    · exact .inl h
    · exact .inr (List.mem_singleton.mp h)
theorem DueInv.skip {ups : List Nat} {t i : Nat} {kvs : List (Str × Value)} (h : DueInv ups t i kvs) (hc : closedM ups i = false) : DueInv ups t (i + 1) kvs := by
  refine ⟨fun kv hm => ?_, fun mask hlt hcl => ?_⟩
  · obtain ⟨mask, tk, h1, h2⟩ := h.1 kv hm
    exact ⟨mask, tk, by omega, h2⟩
  · refine h.2 mask ?_ hcl
    rcases Nat.lt_or_ge mask i with h1 | h1
    · exact h1
    · have : mask = i := by omega
      rw [this, hc] at hcl; cases hcl
theorem DueInv.put {ups : List Nat} {t i : Nat} {kvs : List (Str × Value)} {tk : Tok} (h : DueInv ups t i kvs) (hc : closedM ups i = true) : DueInv ups t (i + 1) (stored kvs (keyOf (textsOf ups t i)) (.int (nimM ups i) tk)) := by
  refine ⟨fun kv hm => ?_, fun mask hlt hcl => ?_⟩
  · rcases stored_mem hm with hm | rfl
    · obtain ⟨mask, tk, h1, h2⟩ := h.1 kv hm
      exact ⟨mask, tk, by omega, h2⟩
    · exact ⟨i, tk, by omega, hc, rfl, rfl⟩
  · rw [stored_keys]
    rcases Nat.lt_or_ge mask i with h1 | h1
    · exact .inl (h.2 mask h1 hcl)
    · have : mask = i := by omega
      rw [this]; exact .inr rfl
theorem DueInv.len {ups : List Nat} {t i : Nat} {kvs : List (Str × Value)} (h : DueInv ups t i kvs) (hn : (kvs.map (·.1)).Nodup) (hi : i ≤ 32) : kvs.length ≤ 1000 := by
  have h1 : ∀ k ∈ kvs.map (·.1), k ∈ (List.range 32).map (fun mask => keyOf (textsOf ups t mask)) := fun k hk => by
    obtain ⟨kv, hm, rfl⟩ := List.mem_map.mp hk
    obtain ⟨mask, tk, h1, _, h2, _⟩ := h.1 kv hm
    rw [h2]; exact List.mem_map.mpr ⟨mask, List.mem_range.mpr (by omega), rfl⟩
  have h2 := nodup_len hn h1
  simp at h2; omega
theorem vint_set {its : List (Int × Tok)} {k : Nat} {a : Int} {t : Tok} : ((its.map vint).toArray.setIfInBounds k (.int a t)) = ((its.set k (a, t)).map vint).toArray := by
  rw [List.setIfInBounds_toArray, List.map_set]
theorem vint_setE {o : Obj} {its : List (Int × Tok)} {i k : Nat} {a : Int} {t : Tok} (h : Wp.LsO o ((its.map vint).toArray.setIfInBounds i (.int a t))) (e : i = k) : Wp.LsO o ((its.set k (a, t)).map vint).toArray := by subst e; rw [← vint_set]; exact h
theorem vint_get {its : List (Int × Tok)} {k : Nat} {p : Int × Tok} (h : its[k]? = some p) : (its.map vint).toArray[k]? = some (vint p) := by
  simp [h]
theorem vstr_get {its : List (Str × Tok)} {k : Nat} {p : Str × Tok} (h : its[k]? = some p) : (its.map vstr).toArray[k]? = some (vstr p) := by
  simp [h]
theorem w6_at {its : List (Int × Tok)} {l : List Int} (h : its.map (·.1) = l) {k : Nat} (hk : k < l.length) : ∃ p, its[k]? = some p ∧ p.1 = l.getD k 0 :=
  at_fst h (by rw [← h, List.length_map] at hk; exact hk)
end Mine
end

section
open PySem PySem.W PyProof.Rows PySem.Calls PySem.Spec
set_option maxRecDepth 100000
set_option maxHeartbeats 4000000
set_option linter.unusedVariables false
namespace Mine
section
variable {w : World} {A : Around} {s : Shared} {h₀ : Heap} {L : Addr} {m : Str → Option Value} {news : List (Addr × Obj)} {p : Program} {loose : List Str} {mean : ExcName → Option Value} {mg mb : Str → Option Value} {Q : Value → Shared → Prop}
theorem due_call {uA : Addr} {us : List (Int × Tok)} {un : Nat} {ups : List Nat} {t : Nat} {u : Tok} (X : Led h₀ L s.heap m news) (KX : (hd.heap_39 w.params).In h₀) (T : Top p loose mean mg mb h₀) (hroom : A.depth + 2 < recursionLimit) (hh : A.handled = none) (huni : A.units + 100 < cLine)
    (hu : (uA, IL us un) ∈ news) (hus : us.map (·.1) = ups.map Int.ofNat) (hl : ups.length = 5) (hok : ∀ i, i < 5 → ups.getD i 0 ≤ i) (ht : t < 7)
    (h : ∀ a h' o kvs tk, (a == sysModules) = false → SD PR w o kvs → DueInv ups t 32 kvs → Led h₀ L h' m ((a, o) :: news) → Q (.ref a) { s with heap := h', toks := tk }) : Wp w A (PySem.call (.ref 163) [.ref uA, .int t u]) Q s := by
  have hfill : (hd.heap_39 w.params).length = (hd.heap_39 w.params).length ∧ PySem.Challenge.rw_pd0045_01.foot = PySem.Challenge.rw_pd0045_01.foot := by k_fill; exact ⟨rfl, rfl⟩
  clear hfill
  refine Wp.intoC rfl rfl rfl (binds := [("ups", .ref uA), ("turn", .int t u)]) X KX T (by k_is) (by k_is) (dn0 hroom) (BindsTo.of_eq rfl) (by rfl) (by decide +kernel) ?_
  intro A' oL h₁ tk₁ cells U C Y X1
  have hh' : A'.handled = none := U.handled.trans hh
  have hroom' : A'.depth + 1 < recursionLimit := dnU U.depth hroom (by decide)
  have huni' : A'.units + 64 < cLine := dnU U.units huni (by decide)
  obtain ⟨ok, om, ot, ou, rfl, d1, d2, d3, d4⟩ := CellsAre.four Y
  replace X1 := X1 rfl (by simp; omega)
  clear Y
  have dk : ok.data = .cell none := d1
  have dm : om.data = .cell none := d2
  have dt : ot.data = .cell none := d3
  have du : ou.data = .cell (some (.ref uA)) := d4
  clear d1 d2 d3 d4
  generalize hL' : s.heap.objs.size = L' at X1 ⊢
  refine Led.gen1 (nw := ((L' + 4, ok) :: (L' + 3, om) :: (L' + 2, ot) :: (L' + 1, ou) :: (L, oL) :: news)) (x1 := "turn") (v1 := (.int t u)) (X1) (rfl) ?_
  intro m₁ X2 hm1
  clear X1
  refine Wp.seqH (fun kK nk xk => Wp.assignT rfl rfl (Wp.eTuple (Wp.arg rfl (Wp.eList (Wp.arg rfl (Wp.cStr (Wp.args ?_)))))))
  refine Wp.nwList X2 (by simp) (fun ta h2 X3 => ?_)
  refine Wp.arg rfl (Wp.nwDict X3 T (fun dA h3 oD X4 lo hD => ?_))
  refine Wp.args (Wp.nwTuple X4 (by simp) (fun tup h4 X5 => ?_))
  generalize tk₁ = tk0 at X5 ⊢
  refine Wp.pairC (c := L' + 2) (g := fun o' => (tup, tupOf [Value.ref ta, .ref dA].toArray 0) :: (dA, oD) :: (ta, SL [("", tk0)] 0) :: (L' + 4, ok) :: (L' + 3, om) :: (L' + 2, o') :: (L' + 1, ou) :: (L, oL) :: news) rfl rfl rfl rfl X5 (.head _) hh' (fun o' => .tail (.tail (.tail (.tail (.tail .head))))) dt (fun h5 ot' tk5 dt' X6 => ?_)
  clear X2 X3 X4 X5 dt
  refine Led.gen2 (nw := ((dA, oD) :: (ta, SL [("", tk0)] 0) :: (L' + 4, ok) :: (L' + 3, om) :: (L' + 2, ot') :: (L' + 1, ou) :: (L, oL) :: news)) (x1 := "turn") (v1 := (.int t u)) (x2 := "due") (v2 := (.ref dA)) (X6.sub (.cons _ (List.Sublist.refl _))) ((if_neg (by decide)).trans hm1) (if_pos rfl) ?_
  intro m₂ X6 a1 a2
  clear hm1
  first | refine nk _ ?_ | refine ni _ ?_ | refine nt _ ?_ | (try dsimp only)
  -- the texts
  have hul : us.length = 5 := len5 hus (by rw [List.length_map]; exact hl)
  refine Wp.seqH (fun kK nk xk => Wp.for_ (h₀ := h₀) (fun _ => rfl) ?_)
  refine Wp.callN (Wp.nB (by decide) rfl rfl rfl rfl rfl X6 KX T (by k_is) PyProof.Rows.Boot.«range» ?_)
  refine Wp.withT rfl rfl (Wp.arg rfl (Wp.cInt (Wp.args ?_)))
  refine Wp.range1 X6 (fun r h6 t6 v6 tk6 X7 => ?_)
  refine Wp.itRg (k := 5) X7 (.head _) (by simp) (by decide) (by decide) (fun I h7 its hI X8 => ?_)
  have X9 := X8.sub (n' := its ++ ((dA, oD) :: (ta, SL [("", tk0)] 0) :: (L' + 4, ok) :: (L' + 3, om) :: (L' + 2, ot') :: (L' + 1, ou) :: (L, oL) :: news)) (List.Sublist.append_left (.cons _ (List.Sublist.refl _)) _)
  clear X6 X7 X8
  refine Wp.ForAsk.mk (its := its) (fun i m₁ nw => ∃ ts n, nw = (dA, oD) :: (ta, SL ts n) :: (L' + 4, ok) :: (L' + 3, om) :: (L' + 2, ot') :: (L' + 1, ou) :: (L, oL) :: news ∧ ts.map (·.1) = textsP ups t i ∧ m₁ "turn" = some (.int t u) ∧ m₁ "due" = some (.ref dA)) (itRange hh' I 0 5) X9 hI ⟨_, _, rfl, rfl, a1, a2⟩ (fun _ _ _ _ => trivial) ?_ ?_
  · clear X9 hI a1 a2
    rintro i K kN kX v its extra m₂ news₂ h8 tk8 hi ⟨⟨tv, rfl⟩, rfl⟩ hst hJ X8
    revert X8
    refine ex2a4 hJ ?_
    clear hJ
    rintro ts n rfl hts a1 a2 X8
    unfold RgSt at hst
    subst hst
    refine Wp.owned (Wp.asgN (Wp.sL rfl rfl X8 (fun h9 X9 => ?_)))
    dsimp only [List.append_nil, List.cons_append, List.nil_append] at X9
    clear X8
    have hi0 : (0 : Int) + (i : Int) = ((i : Nat) : Int) := zi i
    rw [hi0] at X9
    refine Led.gen3 (x1 := "turn") (v1 := (.int t u)) (x2 := "due") (v2 := (.ref dA)) (x3 := "place") (v3 := (.int (i : Nat) tv)) (X9) ((if_neg (by decide)).trans a1) ((if_neg (by decide)).trans a2) (if_pos rfl) ?_
    intro m₄ X9 b1 b2 b4
    first | refine nk _ ?_ | refine ni _ ?_ | refine nt _ ?_ | (try dsimp only)
    have htl : ts.length = i + 1 := by have := congrArg List.length hts; rw [List.length_map, textsP_length] at this; exact this
    obtain ⟨up, hup, hup'⟩ : ∃ up, us[i]? = some up ∧ up.1 = ((ups.getD i 0 : Nat) : Int) := by
      obtain ⟨up, h1, h2⟩ := at_fst (d := Int.ofNat 0) hus (hul.symm ▸ hi : i < us.length)
      refine ⟨up, h1, h2.trans ?_⟩
      rw [List.getD_eq_getElem?_getD, List.getD_eq_getElem?_getD, List.getElem?_map]; cases ups[i]? <;> rfl
    obtain ⟨q, hq, hq'⟩ : ∃ q, ts[ups.getD i 0]? = some q ∧ q.1 = (textsP ups t i).getD (ups.getD i 0) Str.empty := at_fst hts (by rw [htl]; exact Nat.lt_succ_of_le (hok i hi))
    refine Wp.seqH (fun kK nk xk => Wp.expr rfl rfl ?_)
    refine Wp.mcall rfl (Wp.nC rfl rfl rfl (c := L' + 2) rfl X9 (.tail _ (.tail _ (.tail _ (.tail _ (.tail _ (.head _)))))) dt' ?_)
    refine Wp.listM (its := (ts.map vstr).toArray) (n := n) X9 (.tail _ (.tail _ (.head _))) PySem.F.slot_list_append PySem.F.type_list_append ?_
    refine Wp.withM rfl rfl (Wp.arg rfl ?_)
    refine Wp.bin (Wp.bin (Wp.sub (Wp.nC rfl rfl rfl (c := L' + 2) rfl X9 (.tail _ (.tail _ (.tail _ (.tail _ (.tail _ (.head _)))))) dt' ?_)))
    refine Wp.sub (Wp.nC rfl rfl rfl (c := L' + 1) rfl X9 (.tail _ (.tail _ (.tail _ (.tail _ (.tail _ (.tail _ (.head _))))))) du ?_)
    refine Wp.nL rfl rfl rfl X9 b4 ?_
    refine Wp.item (v := vint up) (by with_unfolding_all rfl) X9 (.tail _ (.tail _ (.tail _ (.tail _ (.tail _ (.tail _ (.tail _ (.tail _ hu)))))))) (Int.natCast_nonneg _) (ns hi (by decide)) (by simp [hup]) ?_
    refine Wp.item (v := vstr q) (by with_unfolding_all rfl) X9 (.tail _ (.tail _ (.head _))) (nn0 hup') (ss0 hup' (Nat.le_trans (hok i hi) (Nat.le_of_lt hi))) (by rw [hup']; simpa using hq) ?_
    refine Wp.cStr ?_
    have hmem : q.1 ∈ textsP ups t i := by rw [← hts]; exact List.mem_map.mpr ⟨q, List.mem_of_getElem? hq, rfl⟩
    have hql := textsP_ok (ups := ups) (t := t) i (fun k hk => hok k (Nat.lt_trans hk hi)) q.1 hmem
    have hnl := nameAt_len (i + t)
    have h1l : (Str.ofString "/").length = 1 := by decide
    refine Wp.addS (by omega) (fun t10 tk10 => ?_)
    refine Wp.callN (Wp.nG rfl rfl rfl rfl X9 KX T (by k_is) ?_)
    refine Wp.withD KX (by k_is) rfl rfl (Wp.arg rfl ?_)
    refine Wp.bin (Wp.nL rfl rfl rfl X9 b4 (Wp.nL rfl rfl rfl X9 b1 (Wp.addI ?_)))
    refine Wp.args ⟨X9.fr.keep, ?_⟩
    refine name_call (k := i + t) X9 KX T (by omega) (fun h11 t11 tk11 X11 => ?_)
    refine Wp.addS (by rw [Str.length_append]; omega) (fun t12 tk12 => ?_)
    refine Wp.args ?_
    dsimp only [List.append_nil, List.cons_append, List.nil_append]
    refine Wp.appendS X11 (.tail (.tail .head)) (by omega) (fun h12 X12 => ?_)
    first | refine nk _ ?_ | refine ni _ ?_ | refine nt _ ?_ | (try dsimp only)
    refine Wp.done ?_
    refine kN _ _ _ _ _ rfl X12 ⟨_, _, rfl, ?_, b1, b2⟩
    rw [textsP_s, List.map_append, hts, ← hq']; rfl
  · clear X9 hI a1 a2
    rintro m₂ news₂ h8 tk8 hJ X8
    revert X8
    refine ex2a4 hJ ?_
    clear hJ
    rintro ts n rfl hts a1 a2 X8
    first | refine nk _ ?_ | refine ni _ ?_ | refine nt _ ?_ | (try dsimp only)
    replace hts : ts.map (·.1) = textsP ups t 5 := hts
    have inv0 : DueInv ups t 0 [] := ⟨fun kv hm => (nomatch hm), fun mask hlt => absurd hlt (Nat.not_lt_zero _)⟩
    refine Wp.seqH (fun kK nk xk => Wp.for_ (h₀ := h₀) (fun _ => rfl) ?_)
    refine Wp.callN (Wp.nB (by decide) rfl rfl rfl rfl rfl X8 KX T (by k_is) PyProof.Rows.Boot.«range» ?_)
    refine Wp.withT rfl rfl (Wp.arg rfl (Wp.cInt (Wp.args ?_)))
    refine Wp.range1 X8 (fun r h9 t9 v9 tk9 X9 => ?_)
    refine Wp.itRg (k := 32) X9 (.head _) (by simp) (by decide) (by decide) (fun I h10 its hI X10 => ?_)
    have X11 := X10.sub (n' := its ++ ((dA, oD) :: (ta, SL ts n) :: (L' + 4, ok) :: (L' + 3, om) :: (L' + 2, ot') :: (L' + 1, ou) :: (L, oL) :: news)) (List.Sublist.append_left (.cons _ (List.Sublist.refl _)) _)
    clear X8 X9 X10
    refine Wp.ForAsk.mk (its := its) (fun i m₁ nw => ∃ oD kvs ok om vk vm, nw = (dA, oD) :: (ta, SL ts n) :: (L' + 4, ok) :: (L' + 3, om) :: (L' + 2, ot') :: (L' + 1, ou) :: (L, oL) :: news ∧ SD PR w oD kvs ∧ DueInv ups t i kvs ∧ ok.data = .cell vk ∧ om.data = .cell vm ∧ m₁ "due" = some (.ref dA)) (itRange hh' I 0 32) X11 hI ⟨_, _, _, _, _, _, rfl, hD, inv0, dk, dm, a2⟩ (fun _ _ _ _ => trivial) ?_ ?_
    · clear X11 hI a1 a2 hD dk dm inv0
      rintro i K kN kX v its extra m₂ news₂ h8 tk8 hi ⟨⟨tv, rfl⟩, rfl⟩ hst hJ X8
      revert X8
      refine ex6a6 hJ ?_
      clear hJ
      rintro oD kvs ok om vk vm rfl hD inv dk dm a2 X8
      obtain ⟨oI, rfl, hst⟩ : ∃ oI, its = [(I, oI)] ∧ RgSt I 0 32 (i + 1) [(I, oI)] := ⟨_, hst, rfl⟩
      dsimp only [List.append_nil, List.cons_append, List.nil_append] at X8
      have hi0 : (0 : Int) + (i : Int) = ((i : Nat) : Int) := zi i
      refine Wp.owned (Wp.asgN (Wp.sC (c := L' + 3) (g := fun o' => (I, oI) :: (dA, oD) :: (ta, SL ts n) :: (L' + 4, ok) :: (L' + 3, o') :: (L' + 2, ot') :: (L' + 1, ou) :: (L, oL) :: news) rfl rfl rfl X8 (fun o' => .tail (.tail (.tail (.tail .head)))) dm (fun h9 om' dm' X9 => ?_)))
      clear X8 dm
      rw [hi0] at dm'
      refine Wp.seqH (fun kK nk xk => Wp.assign rfl ?_)
      refine Wp.comp (cl := [("mask", L' + 3)]) rfl rfl (by decide +kernel) (by decide +kernel) rfl (fun _ => rfl) X9 ?_
      refine Wp.callN (Wp.nB (by decide) rfl rfl rfl rfl rfl X9 KX T (by k_is) PyProof.Rows.Boot.«range» ?_)
      refine Wp.withT rfl rfl (Wp.arg rfl (Wp.cInt (Wp.arg rfl (Wp.cInt (Wp.args ?_)))))
      refine Wp.range2 X9 (fun r h10 v10 tk10 X10 => ?_)
      refine Wp.itRg (k := 5) X10 (.head _) (by decide) (by decide) (by decide) (fun I2 h11 its2 hI2 X11 => ?_)
      have X12 := X11.sub (n' := its2 ++ ((I, oI) :: (dA, oD) :: (ta, SL ts n) :: (L' + 4, ok) :: (L' + 3, om') :: (L' + 2, ot') :: (L' + 1, ou) :: (L, oL) :: news)) (List.Sublist.append_left (.cons _ (List.Sublist.refl _)) _)
      refine Wp.CompAsk.mk (its := its2) (fun j ys nw => ∃ ks : List (Int × Tok), ys = ks.map vint ∧ ks.map (·.1) = (keptTo i j).map Int.ofNat ∧ nw = (I, oI) :: (dA, oD) :: (ta, SL ts n) :: (L' + 4, ok) :: (L' + 3, om') :: (L' + 2, ot') :: (L' + 1, ou) :: (L, oL) :: news) (itRange hh' I2 1 5) X12 hI2 ⟨[], rfl, rfl, rfl⟩ (fun _ _ _ _ => trivial) (by decide) (fun _ _ _ h => h.2) ?_ ?_
      · clear X9 X10 X11 X12 hI2
        rintro j ys Ca Da oL' K1 K2 k1 k2 v its₁ news₁ h₁' tk₁' mC hj _ ⟨⟨tw, rfl⟩, _⟩ hst hJ hmC KL X15
        revert hmC KL X15
        refine ex1a3 hJ ?_
        clear hJ
        rintro ks rfl hks rfl hmC KL X15
        unfold RgSt at hst
        subst hst
        refine Wp.test1 (Wp.truthCmp rfl (Wp.bin (Wp.bin ?_)))
        refine Wp.nC rfl rfl rfl (c := L' + 3) rfl X15 (.tail _ (.tail _ (.tail _ (.tail _ (.tail _ (.tail _ (.tail _ (.head _)))))))) dm' ?_
        refine Wp.bin (Wp.cInt (Wp.bin (Wp.nL rfl rfl rfl X15 hmC (Wp.cInt (Wp.subI ?_)))))
        refine Wp.pow2 (e := j) hj (by omega) ?_
        refine Wp.fdivI (c := ((i / 2 ^ j : Nat) : Int)) (Int.natCast_ne_zero.mpr (Nat.pos_iff_ne_zero.mp (Nat.pow_pos (by decide)))) (dgp i hi j hj) (fdiv_nat _ _) ?_
        refine Wp.cInt (Wp.modI (c := ((i / 2 ^ j % 2 : Nat) : Int)) (by decide) (fmod_nat _ 2) ?_)
        have hb : ((((i / 2 ^ j % 2 : Nat) : Int)) == (1 : Int)) = ((i / 2 ^ j % 2) == 1) := by
          generalize i / 2 ^ j % 2 = z
          rw [Bool.eq_iff_iff]; simp; omega
        have e1 : (1 : Int) + (j : Int) = ((j + 1 : Nat) : Int) := oi j
        refine Wp.cInt (Wp.eqI hb (Wp.truthBI (fun hbit => ?_) (fun hbit => ?_)))
        · refine k2 _ _ _ _ _ rfl X15 ⟨ks, rfl, ?_, rfl⟩
          rw [keptTo_succ, hbit, hks]; simp
        · refine Wp.nL rfl rfl rfl X15 hmC ?_
          refine k1 _ _ _ _ _ _ rfl X15 ⟨ks ++ [((1 : Int) + (j : Int), tw)], by rw [List.map_append]; rfl, ?_, rfl⟩
          rw [keptTo_succ, hbit, List.map_append, List.map_append, hks, e1]; rfl
      · rintro kA ys news₁ h12 tk12 hJ X13
        revert X13
        refine ex1a3 hJ ?_
        clear hJ
        rintro ks rfl hks rfl X13
        clear X9 X10 X11 X12 hI2
        have hks : ks.map (·.1) = (keptM i).map Int.ofNat := hks
        have hkl : ks.length ≤ 5 := len5i hks (keptM_len i)
        refine Wp.sC (c := L' + 4) (g := fun o' => (kA, IL ks (ks.map vint).length) :: (I, oI) :: (dA, oD) :: (ta, SL ts n) :: (L' + 4, o') :: (L' + 3, om') :: (L' + 2, ot') :: (L' + 1, ou) :: (L, oL) :: news) rfl rfl rfl X13 (fun o' => .tail (.tail (.tail (.tail .head)))) dk (fun h13 ok' dk' X14 => ?_)
        first | refine nk _ ?_ | refine ni _ ?_ | refine nt _ ?_ | (try dsimp only)
        obtain ⟨kn, X14⟩ : ∃ kn, Led h₀ L' h13 m₂ ((kA, IL ks kn) :: (I, oI) :: (dA, oD) :: (ta, SL ts n) :: (L' + 4, ok') :: (L' + 3, om') :: (L' + 2, ot') :: (L' + 1, ou) :: (L, oL) :: news) := ⟨_, X14⟩
        refine Wp.seqH (fun kI ni xi => Wp.iff (Wp.truthCmp rfl ?_))
        refine Wp.comp (cl := [("ups", L' + 1), ("kept", L' + 4)]) rfl rfl (by decide +kernel) (by decide +kernel) rfl (fun _ => rfl) X14 ?_
        refine Wp.nC rfl rfl rfl (c := L' + 4) rfl X14 mi4 dk' ?_
        refine Wp.itLs (its := (ks.map vint).toArray) (n := kn) X14 mi0 (fun I2 h15 ent hI2 X15 => ?_)
        refine Wp.CompAsk.mk (its := ent) (fun j ys nw => ∃ bs : List (Int × Tok), ys = bs.map vint ∧ bs.map (·.1) = (((keptM i).take j).filter (fun k => !okUp ups i k)).map Int.ofNat ∧ nw = (kA, IL ks kn) :: (I, oI) :: (dA, oD) :: (ta, SL ts n) :: (L' + 4, ok') :: (L' + 3, om') :: (L' + 2, ot') :: (L' + 1, ou) :: (L, oL) :: news) (itList hh' I2 kA (ks.map vint).toArray) X15 hI2 ⟨[], rfl, rfl, rfl⟩ ?_ (by simp; omega) (fun _ _ _ h => h.2) ?_ ?_
        · rintro _ _ _ ⟨_, _, _, rfl⟩
          exact srcL mi0
        · clear X13 X14 X15 hI2
          rintro j ys Ca Da oL' K1 K2 k1 k2 v its₁ news₁ h₁' tk₁' mC hj _ ⟨hat, _⟩ ⟨oJ, rfl, cJ, dJ⟩ hJ hmC KL X15
          revert hmC KL X15
          refine ex1a3 hJ ?_
          clear hJ
          rintro bs rfl hbs rfl hmC KL X15
          obtain ⟨y, hy, rfl⟩ : ∃ y, ks[j]? = some y ∧ v = vint y := by
            rw [List.getElem?_toArray, List.getElem?_map] at hat
            obtain ⟨y, h1, h2⟩ := Option.map_eq_some_iff.mp hat
            exact ⟨y, h1, h2.symm⟩
          obtain ⟨k, hk, hyk⟩ := at_nat hks hy
          have hkm := keptM_mem (List.mem_of_getElem? hk)
          obtain ⟨up, hup, hup'⟩ := up_at hus hl (i := k - 1) (kk1 hkm)
          have hidx : (y.1 - 1).toNat = k - 1 := tt1 hyk hkm
          have htake : (keptM i).take (j + 1) = (keptM i).take j ++ [k] := by
            rw [List.take_add_one, hk]; rfl
          refine Wp.test1 (Wp.truthCmp rfl (Wp.sub ?_))
          refine Wp.nC rfl rfl rfl (c := L' + 1) rfl X15 mi10 du ?_
          refine Wp.bin (Wp.nL rfl rfl rfl X15 hmC (Wp.cInt (Wp.subI ?_)))
          refine Wp.item (v := vint up) (by with_unfolding_all rfl) X15 (.tail _ (.tail _ (mt10 hu))) (nn1 hyk hkm) (ss1 hyk hkm) (by rw [hidx]; exact vint_get hup) ?_
          refine Wp.bin (Wp.eList (Wp.arg rfl (Wp.cInt (Wp.args ?_))))
          refine Wp.nwList X15 (by simp) (fun z1 h16 X16 => ?_)
          refine Wp.nC rfl rfl rfl (c := L' + 4) rfl X16 mi8 dk' ?_
          refine Wp.addL X16 mi0 mi4 (by simp; omega) (fun z2 h17 X17 => ?_)
          refine Wp.notInI (ts := ((0 : Int), _) :: ks) X17 mi0 ?_
          rw [okUp_eq hks hup']
          have X18 := X17.sub (.cons _ (.cons _ (List.Sublist.refl _)))
          refine Wp.truthBI (fun hb => ?_) (fun hb => ?_)
          · refine k2 _ _ _ [(I2, oJ)] _ ⟨oJ, rfl, cJ, dJ⟩ X18 ⟨bs, rfl, ?_, rfl⟩
            rw [htake, List.filter_append, List.map_append, hbs, List.filter_cons, hb]; simp
          · refine Wp.nL rfl rfl rfl X18 hmC ?_
            refine k1 _ _ _ _ [(I2, oJ)] _ ⟨oJ, rfl, cJ, dJ⟩ X18 ⟨bs ++ [y], by rw [List.map_append]; rfl, ?_, rfl⟩
            rw [htake, List.filter_append, List.map_append, List.map_append, hbs, List.filter_cons, hb, if_pos rfl]
            show _ ++ [y.1] = _
            rw [hyk]; rfl
        · rintro zA ys news₁ h16 tk16 hJ X16
          revert X16
          refine ex1a3 hJ ?_
          clear hJ
          rintro bs rfl hbs rfl X16
          clear X13 X14 X15 hI2
          have hts5 : ts.length = 6 := by have := congrArg List.length hts; rw [List.length_map, textsP_length] at this; exact this
          have htk : (keptM i).take (ks.map vint).toArray.size = keptM i := by
            have := congrArg List.length hks
            rw [List.length_map, List.length_map] at this
            simp [this]
          rw [htk] at hbs
          refine Wp.eList (Wp.args ?_)
          refine Wp.nwList X16 (by simp) (fun z1 h17 X17 => ?_)
          refine Wp.eqIL (us := []) X17 mi1 mi0 (by omega) ?_
          rw [closed_eq hbs]
          have X18 := X17.sub (.cons _ (.cons _ (List.Sublist.refl _)))
          clear X16 X17
          refine Wp.truthBI (fun hb => ?_) (fun hb => ?_)
          · refine Wp.done ?_
            refine ni _ ?_
            refine Wp.done ?_
            exact kN _ _ _ [(I, oI)] _ hst (X18.sub (.cons _ (List.Sublist.refl _))) ⟨oD, kvs, ok', om', _, _, rfl, hD, inv.skip hb, dk', dm', a2⟩
          · first | refine nk _ ?_ | refine ni _ ?_ | refine nt _ ?_ | (try dsimp only)
            refine Wp.seqH (fun kK nk xk => Wp.assign rfl (Wp.eList (Wp.arg rfl (Wp.cInt (Wp.arg rfl (Wp.cInt (Wp.arg rfl (Wp.cInt (Wp.arg rfl (Wp.cInt (Wp.arg rfl (Wp.cInt (Wp.arg rfl (Wp.cInt (Wp.args ?_)))))))))))))))
            refine Wp.nwList X18 (by simp) (fun wo h18 X19 => ?_)
            refine Wp.sL rfl rfl X19 (fun h19 X20 => ?_)
            first | refine nk _ ?_ | refine ni _ ?_ | refine nt _ ?_ | (try dsimp only)
            obtain ⟨m₃, ow, its0, X20, how, hits, c1, c2⟩ : ∃ (m₃ : Str → Option Value) (ow : Obj) (its0 : List (Int × Tok)), Led h₀ L' h19 m₃ ((wo, ow) :: (kA, IL ks kn) :: (I, oI) :: (dA, oD) :: (ta, SL ts n) :: (L' + 4, ok') :: (L' + 3, om') :: (L' + 2, ot') :: (L' + 1, ou) :: (L, oL) :: news) ∧ Wp.LsO ow (its0.map vint).toArray ∧ its0.map (·.1) = [0, 0, 0, 0, 0, 0] ∧ m₃ "due" = some (.ref dA) ∧ m₃ "worth" = some (.ref wo) :=
              ⟨_, _, [(0, _), (0, _), (0, _), (0, _), (0, _), (0, _)], X20, ⟨rfl, 0, rfl⟩, rfl, (if_neg (by decide)).trans a2, if_pos rfl⟩
            clear X18 X19
            have hkr : ks.reverse.map (·.1) = (keptM i).reverse.map Int.ofNat := by rw [List.map_reverse, hks, List.map_reverse]
            refine Wp.seqH (fun kK nk xk => Wp.for_ (h₀ := h₀) (fun _ => rfl) ?_)
            refine Wp.sub (Wp.nC rfl rfl rfl (c := L' + 4) rfl X20 mi5 dk' ?_)
            refine Wp.eSlice (Wp.part0 (Wp.part0 (Wp.part1 (Wp.unary (Wp.cInt (Wp.negI ⟨_, _, _, _, X20, fun sa h20 X21 => ?_⟩))))))
            refine Wp.tSlice (zs := ks.reverse.map vint) (by with_unfolding_all rfl) X21 mi2 mi0 .none .none (.int (-1) _) (by decide) (by simp; omega) (by rw [krv_pick]; simp) (fun ra h21 X22 => ?_)
            refine Wp.itLs (its := (ks.reverse.map vint).toArray) (n := 0) X22 mi0 (fun I3 h22 ent hI3 X23 => ?_)
            replace X23 := X23.sub (n' := ent ++ ((ra, IL ks.reverse 0) :: (wo, ow) :: (kA, IL ks kn) :: (I, oI) :: (dA, oD) :: (ta, SL ts n) :: (L' + 4, ok') :: (L' + 3, om') :: (L' + 2, ot') :: (L' + 1, ou) :: (L, oL) :: news)) (List.Sublist.append_left (.cons_cons _ (.cons _ (List.Sublist.refl _))) _)
            refine Wp.ForAsk.mk (its := ent) (fun j m₁ nw => ∃ (ow : Obj) (its : List (Int × Tok)), nw = (ra, IL ks.reverse 0) :: (wo, ow) :: (kA, IL ks kn) :: (I, oI) :: (dA, oD) :: (ta, SL ts n) :: (L' + 4, ok') :: (L' + 3, om') :: (L' + 2, ot') :: (L' + 1, ou) :: (L, oL) :: news ∧ Wp.LsO ow (its.map vint).toArray ∧ its.map (·.1) = worthL ups [0, 0, 0, 0, 0, 0] ((keptM i).reverse.take j) ∧ m₁ "due" = some (.ref dA) ∧ m₁ "worth" = some (.ref wo))
              (itList hh' I3 ra (ks.reverse.map vint).toArray) X23 hI3 ⟨_, _, rfl, how, hits, c1, c2⟩ ?_ ?_ ?_
            · rintro _ _ _ ⟨_, _, rfl, _⟩
              exact srcL mi0
            · clear X20 X21 X22 X23 hI3 how hits c1 c2
              rintro j K1 k1 k1X v its₁ extra m₄ news₂ h23 tk23 hj ⟨hat, rfl⟩ ⟨oJ, rfl, cJ, dJ⟩ hJ X24
              revert X24
              refine ex2a5 hJ ?_
              clear hJ
              rintro ow its rfl how hits c1 c2 X24
              obtain ⟨y, hy, rfl⟩ : ∃ y, ks.reverse[j]? = some y ∧ v = vint y := by
                rw [List.getElem?_toArray, List.getElem?_map] at hat
                obtain ⟨y, h1, h2⟩ := Option.map_eq_some_iff.mp hat
                exact ⟨y, h1, h2.symm⟩
              obtain ⟨k, hk, hyk⟩ := at_nat hkr hy
              have hkm := keptM_mem (List.mem_reverse.mp (List.mem_of_getElem? hk))
              obtain ⟨up, hup, hup'⟩ := up_at hus hl (i := k - 1) (kk1 hkm)
              have hidx : (y.1 - 1).toNat = k - 1 := tt1 hyk hkm
              have hule := hok (k - 1) (kk1 hkm)
              have hux : up.1.toNat = ups.getD (k - 1) 0 := tt0 hup'
              have hyx : y.1.toNat = k := tt0 hyk
              have htake : (keptM i).reverse.take (j + 1) = (keptM i).reverse.take j ++ [k] := by
                rw [List.take_add_one, hk]; rfl
              have hwl : (worthL ups [0, 0, 0, 0, 0, 0] ((keptM i).reverse.take j)).length = 6 := worthL_length ..
              have hil : its.length = 6 := by rw [← hwl, ← hits, List.length_map]
              obtain ⟨p1, hp1, hp1'⟩ := w6_at hits (k := ups.getD (k - 1) 0) (lt6 (kk5 hule hkm) hwl)
              obtain ⟨p2, hp2, hp2'⟩ := w6_at hits (k := k) (lt6 hkm.2 hwl)
              refine Wp.owned (Wp.asgN (Wp.sL rfl rfl X24 (fun h24 X25 => ?_)))
              dsimp only [List.append_nil, List.cons_append, List.nil_append] at X25
              first | refine nk _ ?_ | refine ni _ ?_ | refine nt _ ?_ | (try dsimp only)
              refine Led.gen3 (x1 := "due") (v1 := (.ref dA)) (x2 := "worth") (v2 := (.ref wo)) (x3 := "place") (v3 := (vint y)) (X25) ((if_neg (by decide)).trans c1) ((if_neg (by decide)).trans c2) (if_pos rfl) ?_
              intro m₅ X25 e1 e2 e3
              clear X24
              refine Wp.seqH (fun kK nk xk => Wp.assignI rfl ?_)
              refine Wp.bin (Wp.sub (Wp.nL rfl rfl rfl X25 e2 ?_))
              refine Wp.sub (Wp.nC rfl rfl rfl (c := L' + 1) rfl X25 mi10 du ?_)
              refine Wp.bin (Wp.nL rfl rfl rfl X25 e3 (Wp.cInt (Wp.subI ?_)))
              refine Wp.item (v := vint up) (by with_unfolding_all rfl) X25 (.tail _ (.tail _ (mt10 hu))) (nn1 hyk hkm) (ss1 hyk hkm) (by rw [hidx]; exact vint_get hup) ?_
              refine Wp.itemO (v := vint p1) (by with_unfolding_all rfl) X25 mi2 how (nn0 hup') (ss0 hup' (kk5 hule hkm)) (by rw [hux]; exact vint_get hp1) ?_
              refine Wp.bin (Wp.sub (Wp.nL rfl rfl rfl X25 e2 (Wp.nL rfl rfl rfl X25 e3 ?_)))
              refine Wp.itemO (v := vint p2) (by with_unfolding_all rfl) X25 mi2 how (nn0 hyk) (ss0 hyk hkm.2) (by rw [hyx]; exact vint_get hp2) ?_
              refine Wp.cInt (Wp.addI (Wp.xorI ?_))
              refine Wp.nL rfl rfl rfl X25 e2 ?_
              refine Wp.sub (Wp.nC rfl rfl rfl (c := L' + 1) rfl X25 mi10 du ?_)
              refine Wp.bin (Wp.nL rfl rfl rfl X25 e3 (Wp.cInt (Wp.subI ?_)))
              refine Wp.item (v := vint up) (by with_unfolding_all rfl) X25 (.tail _ (.tail _ (mt10 hu))) (nn1 hyk hkm) (ss1 hyk hkm) (by rw [hidx]; exact vint_get hup) ?_
              refine Wp.setO (g := fun o' => (I3, oJ) :: (ra, IL ks.reverse 0) :: (wo, o') :: (kA, IL ks kn) :: (I, oI) :: (dA, oD) :: (ta, SL ts n) :: (L' + 4, ok') :: (L' + 3, om') :: (L' + 2, ot') :: (L' + 1, ou) :: (L, oL) :: news) X25 (fun o' => .tail (.tail .head)) how (nn0 hup') (ss0 hup' (kk5 hule hkm)) (by simp [hil]; omega) (fun h25 ow' how' X26 => ?_)
              refine nk _ (Wp.done ?_)
              refine k1 _ _ _ [(I3, oJ)] _ ⟨oJ, rfl, cJ, dJ⟩ X26 ⟨ow', _, rfl, vint_setE how' hux, ?_, e1, e2⟩
              rw [htake, worthL_append, List.map_set, hits, hp1', hp2']; rfl
            · clear X20 X21 X22 X23 hI3 how hits c1 c2
              rintro m₄ news₂ h23 tk23 hJ X24
              revert X24
              refine ex2a5 hJ ?_
              clear hJ
              rintro ow its rfl how hits c1 c2 X24
              first | refine nk _ ?_ | refine ni _ ?_ | refine nt _ ?_ | (try dsimp only)
              have htk : (keptM i).reverse.take (ks.reverse.map vint).toArray.size = (keptM i).reverse := by
                have := congrArg List.length hks
                rw [List.length_map, List.length_map] at this
                exact List.take_of_length_le (by simp [this])
              rw [htk] at hits
              have hwl : (worthL ups [0, 0, 0, 0, 0, 0] (keptM i).reverse).length = 6 := worthL_length ..
              obtain ⟨p1, hp1, hp1'⟩ := w6_at hits (k := 0) (by omega)
              refine Wp.seqH (fun kK nk xk => Wp.assignI rfl ?_)
              refine Wp.sub (Wp.nL rfl rfl rfl X24 c2 (Wp.cInt ?_))
              refine Wp.itemO (v := vint p1) (by with_unfolding_all rfl) X24 mi1 how (by decide) (by decide) (vint_get hp1) ?_
              refine Wp.nL rfl rfl rfl X24 c1 ?_
              refine Wp.mcall rfl (Wp.cStr ?_)
              refine Wp.strM PySem.F.slot_str_join PySem.F.type_str_join ?_
              refine Wp.withM rfl rfl (Wp.arg rfl ?_)
              refine Wp.callN (Wp.nB (by decide) rfl rfl rfl rfl rfl X24 KX T (by k_is) PyProof.Rows.Boot.«sorted» ?_)
              refine Wp.withB rfl rfl (Wp.arg rfl ?_)
              refine Wp.comp (cl := [("texts", L' + 2)]) rfl rfl (by decide +kernel) (by decide +kernel) rfl (fun _ => rfl) X24 ?_
              refine Wp.nC rfl rfl rfl (c := L' + 4) rfl X24 mi6 dk' ?_
              refine Wp.itLs (its := (ks.map vint).toArray) (n := kn) X24 mi2 (fun I3 h24 ent hI3 X25 => ?_)
              refine Wp.CompAsk.mk (its := ent) (fun j ys nw => ∃ qs : List (Str × Tok), ys = qs.map vstr ∧ qs.map (·.1) = ((keptM i).take j).map (fun i => (textsP ups t 5).getD i Str.empty) ∧ nw = (ra, IL ks.reverse 0) :: (wo, ow) :: (kA, IL ks kn) :: (I, oI) :: (dA, oD) :: (ta, SL ts n) :: (L' + 4, ok') :: (L' + 3, om') :: (L' + 2, ot') :: (L' + 1, ou) :: (L, oL) :: news) (itList hh' I3 kA (ks.map vint).toArray) X25 hI3 ⟨[], rfl, rfl, rfl⟩ ?_ (by simp; omega) (fun _ _ _ h => h.2) ?_ ?_
              · rintro _ _ _ ⟨_, _, _, rfl⟩
                exact srcL mi2
              · clear X24 X25 hI3
                rintro j ys Ca Da oL' K1 K2 k1 k2 v its₁ news₁ h₁' tk₁' mC hj _ ⟨hat, _⟩ ⟨oJ, rfl, cJ, dJ⟩ hJ hmC KL X26
                revert hmC KL X26
                refine ex1a3 hJ ?_
                clear hJ
                rintro qs rfl hqs rfl hmC KL X26
                obtain ⟨y, hy, rfl⟩ : ∃ y, ks[j]? = some y ∧ v = vint y := by
                  rw [List.getElem?_toArray, List.getElem?_map] at hat
                  obtain ⟨y, h1, h2⟩ := Option.map_eq_some_iff.mp hat
                  exact ⟨y, h1, h2.symm⟩
                obtain ⟨k, hk, hyk⟩ := at_nat hks hy
                have hkm := keptM_mem (List.mem_of_getElem? hk)
                have hyx : y.1.toNat = k := tt0 hyk
                have htake : (keptM i).take (j + 1) = (keptM i).take j ++ [k] := by
                  rw [List.take_add_one, hk]; rfl
                obtain ⟨q, hq, hq'⟩ := at_fst (d := Str.empty) hts (k := k) (by omega)
                refine Wp.test0 ?_
                refine Wp.sub (Wp.nC rfl rfl rfl (c := L' + 2) rfl X26 (.tail _ mi10) dt' ?_)
                refine Wp.nL rfl rfl rfl X26 hmC ?_
                refine Wp.item (v := vstr q) (by with_unfolding_all rfl) X26 mi8 (nn0 hyk) (ss0 hyk hkm.2) (by rw [hyx]; exact vstr_get hq) ?_
                refine k1 _ _ _ _ [(I3, oJ)] _ ⟨oJ, rfl, cJ, dJ⟩ X26 ⟨qs ++ [q], by rw [List.map_append]; rfl, ?_, rfl⟩
                rw [htake, List.map_append, List.map_append, hqs]
                show _ ++ [q.1] = _
                rw [hq']; rfl
              · rintro zA ys news₁ h25 tk25 hJ X26
                revert X26
                refine ex1a3 hJ ?_
                clear hJ
                rintro qs rfl hqs rfl X26
                clear X24 X25 hI3
                have htk2 : (keptM i).take (ks.map vint).toArray.size = keptM i := by
                  have := congrArg List.length hks
                  rw [List.length_map, List.length_map] at this
                  exact List.take_of_length_le (by simp [this])
                rw [htk2] at hqs
                have hqs : qs.map (·.1) = textsOf ups t i := hqs
                have hql : qs.length ≤ 5 := by have := congrArg List.length hqs; rw [List.length_map] at this; unfold textsOf at this; rw [List.length_map] at this; have := keptM_len i; omega
                refine Wp.args ?_
                refine Wp.sorted (ts := qs) X26 mi0 (by omega) (fun a1 h26 ts' e1 X27 hpm hso => ?_)
                refine Wp.args ?_
                dsimp only [List.append_nil, List.cons_append, List.nil_append]
                have hts' : ts'.map (·.1) = sortS (textsOf ups t i) := by rw [← hqs]; exact sortS_of hpm hso
                refine Wp.join X27 mi0 ?_ (fun t1 k1 => ?_)
                · have h1 := sum_len (ts'.map (·.1)) fun x hx => by
                    have h2 := hpm.mem_iff.mp hx
                    rw [hqs] at h2
                    obtain ⟨k, hk, rfl⟩ := List.mem_map.mp h2
                    have hkm := keptM_mem hk
                    have hlt : k < (textsP ups t 5).length := by rw [textsP_length]; omega
                    have := textsP_ok (ups := ups) (t := t) 5 hok ((textsP ups t 5).getD k Str.empty) (by
                      rw [List.getD_eq_getElem?_getD, List.getElem?_eq_getElem hlt]; exact List.getElem_mem _)
                    omega
                  have h2 := hpm.length_eq
                  rw [List.length_map, List.length_map] at h2
                  rw [List.length_map] at h1
                  have h3 : (Str.ofString "\n").length = 1 := by decide
                  rw [h3]; omega
                have hkey : Txt.join (Str.ofString "\n") (ts'.map (·.1)) = keyOf (textsOf ups t i) := by rw [hts']; rfl
                rw [hkey]
                have hlen := inv.len (keysNodup_of_isDictOf hD) (by omega)
                refine Wp.dSet (g := fun o' => (a1, SL ts' e1) :: (zA, SL qs (qs.map vstr).length) :: (ra, IL ks.reverse 0) :: (wo, ow) :: (kA, IL ks kn) :: (I, oI) :: (dA, o') :: (ta, SL ts n) :: (L' + 4, ok') :: (L' + 3, om') :: (L' + 2, ot') :: (L' + 1, ou) :: (L, oL) :: news) X27 (fun o' => .tail (.tail (.tail (.tail (.tail (.tail .head)))))) hD hlen (fun h27 oD' hD' X28 => ?_)
                have hnim : p1.1 = nimM ups i := hp1'
                refine nk _ (Wp.done ?_)
                refine ni _ (Wp.done ?_)
                refine kN _ _ _ [(I, oI)] _ hst (X28.sub (.cons _ (.cons _ (.cons _ (.cons _ (.cons _ (List.Sublist.refl _))))))) ⟨oD', _, ok', om', _, _, rfl, hD', ?_, dk', dm', c1⟩
                rw [show vint p1 = .int (nimM ups i) p1.2 by rw [← hnim]]
                exact inv.put hb
    · rintro m₂ news₂ h8 tk8 hJ X8
      revert X8
      refine ex6a6 hJ ?_
      clear hJ
      rintro oD kvs ok om vk vm rfl hD inv dk dm a2 X8
      first | refine nk _ ?_ | refine ni _ ?_ | refine nt _ ?_ | (try dsimp only)
      refine Wp.seq (Wp.ret (Wp.nL rfl rfl rfl X8 a2 ?_))
      refine h dA _ oD kvs _ lo hD inv ?_
      refine Led.back (sl := oL.slots) C ((X8.sub (n' := (dA, oD) :: (L, oL) :: news) (.cons_cons _ (.cons _ (.cons _ (.cons _ (.cons _ (.cons _ (List.Sublist.refl _)))))))).perm (List.Perm.swap _ _ _))
end
end Mine
end

section
open PySem PySem.W PyProof.Rows PySem.Calls PySem.Spec
set_option maxRecDepth 100000
set_option linter.unusedVariables false
namespace Mine
namespace MF
theorem slot_map_init : Slot "map" "__init__" "object.__init__" :=
  .of (owner := "object") (n := "__init__") (by rw [typeLookup_type, builtinLookup_eq_fast]; kernel_rfl) (by decide +kernel) (by decide +kernel) (by decide +kernel)
    (by first | exact .inl (by decide +kernel) | exact .inr (by decide +kernel)) (by rw [isSubtype_type]; kernel_rfl)
theorem slot_map_iter : Slot "map" "__iter__" "map.__iter__" :=
  .of (owner := "map") (n := "__iter__") (by rw [typeLookup_type, builtinLookup_eq_fast]; kernel_rfl) (by decide +kernel) (by decide +kernel) (by decide +kernel)
    (by first | exact .inl (by decide +kernel) | exact .inr (by decide +kernel)) (by rw [isSubtype_type]; kernel_rfl)
theorem slot_map_next : Slot "map" "__next__" "map.__next__" :=
  .of (owner := "map") (n := "__next__") (by rw [typeLookup_type, builtinLookup_eq_fast]; kernel_rfl) (by decide +kernel) (by decide +kernel) (by decide +kernel)
    (by first | exact .inl (by decide +kernel) | exact .inr (by decide +kernel)) (by rw [isSubtype_type]; kernel_rfl)
theorem entry_map_iter : entryFor table "map.__iter__" = some Builtin.«dict_keyiterator.__iter__» :=
  entryFor_alias (id' := "dict_keyiterator.__iter__") (by kernel_rfl) (by first | rfl | decide +kernel | (unfold String.splitOn; simp +decide [String.splitOnAux])) (by decide +kernel) (by kernel_rfl)
theorem entry_map_next : entryFor table "map.__next__" = some Builtin.«map.__next__» := entryFor_of_tree (by kernel_rfl)
theorem entry_map_new : entryFor table "map.__new__" = some Builtin.«map.__new__» := entryFor_of_tree (by kernel_rfl)
theorem mro_map : mroOf (.type "map") = pure [.type "map", .type "object"] := by rw [mroOf_type]; kernel_rfl
theorem lookup_map_new : typeLookup (.type "map") "__new__" = pure (some (.builtin "map.__new__")) := by rw [typeLookup_type, builtinLookup_eq_fast]; kernel_rfl
theorem called_map : TypeCalled "map" "map.__new__" "object.__init__" :=
  ⟨by decide +kernel, by decide +kernel, ⟨_, _, mro_map⟩, madeBy_type mro_map lookup_map_new (by decide +kernel), by decide +kernel, by rw [isSubtype_type]; kernel_rfl, slot_map_init⟩
theorem typeCall_map_2 (a b : Value) : checkTypeCall "map" ⟨[a, b], []⟩ = pure () := by kernel_rfl
theorem newCall_map_2 (a b : Value) : checkBuiltinCall "map.__new__" ⟨[.type "map", a, b], []⟩ = pure () := by kernel_rfl
theorem map_no_len : typeLookup (.type "map") "__len__" = pure none := by rw [typeLookup_type, builtinLookup_eq_fast]; kernel_rfl
theorem map_no_hint : typeLookup (.type "map") "__length_hint__" = pure none := by rw [typeLookup_type, builtinLookup_eq_fast]; kernel_rfl
theorem sub_map : isSubtype (.type "map") (.type "map") = pure true := by rw [isSubtype_type]; kernel_rfl
theorem owner_map : Manifest.owners.lookup (String.ofList ['p', 'a', 'm'].reverse) = some Manifest.sig_map := by kernel_rfl
theorem args_map_iter_1 (a : Value) : argsOk "map.__iter__" ⟨[a], []⟩ := by
  unfold argsOk; rw [signature?_of (id := "map.__iter__") (n := ['_', '_', 'r', 'e', 't', 'i', '_', '_']) (o := ['p', 'a', 'm']) (by kernel_rfl) owner_map]; kernel_rfl
theorem args_map_next_1 (a : Value) : argsOk "map.__next__" ⟨[a], []⟩ := by
  unfold argsOk; rw [signature?_of (id := "map.__next__") (n := ['_', '_', 't', 'x', 'e', 'n', '_', '_']) (o := ['p', 'a', 'm']) (by kernel_rfl) owner_map]; kernel_rfl
theorem args_object_init_3 (a b c : Value) : argsOk "object.__init__" ⟨[a, b, c], []⟩ := by
  unfold argsOk; rw [signature?_of (id := "object.__init__") (n := ['_', '_', 't', 'i', 'n', 'i', '_', '_']) (o := ['t', 'c', 'e', 'j', 'b', 'o']) (by kernel_rfl) F.owner_object]; kernel_rfl
end MF
noncomputable abbrev litOf (l : Addr) (i : Int) : Obj := { cls := .type "list_iterator", data := .fields #[.ref l, .int i 0] }
noncomputable abbrev mapOf (t : Addr) (f : Value) : Obj := { cls := .type "map", data := .fields #[.ref t, f] }
set_option maxHeartbeats 1000000 in
theorem meets_map_new (f : Value) (l : Addr) (items : Array Value) (n : Nat) (dct : Option Addr) (sl : Array (Option Value)) :
    Meets (Builtin.«map.__new__» ⟨[.type "map", f, .ref l], []⟩) (fun _ R s => s.heap.get? l = some { cls := .type "list", dict := dct, data := .seq items n, slots := sl } ∧
      R (.ok (.ret (.ref (s.heap.objs.size + 2)))) { s with heap := ((s.heap.push (litOf l 0)).push (tupOf #[.ref s.heap.objs.size] 0)).push (mapOf (s.heap.objs.size + 1) f) }) :=
  .of_wp fun prog w A R s h => by
    obtain ⟨hp, g, d, tk, os⟩ := s; obtain ⟨hl, h⟩ := h
    have hsub := MF.sub_map
    have hL : Heap.IsList (Shared.heap ⟨hp, g, d, tk, os⟩) l items := ⟨_, hl, rfl, n, rfl⟩
    unfold Builtin.«map.__new__»
    wp_walk using wpAny_pyIter_list hL
    refine ⟨_, rfl, ?_⟩
    simpa [Heap.size_push] using h
section
variable {w : World} {A : Around} {E : Value → Shared → Prop} {s : Shared} {h₀ : Heap} {L D : Addr} {m : Str → Option Value} {news : List (Addr × Obj)}
theorem call_map {l : Addr} {items : Array Value} {n : Nat} {f : Value} {Q : Value → Shared → Prop} (X : Led h₀ L s.heap m news) (hm : (l, listOf items n) ∈ news)
    (h : ∀ M T I h', Led h₀ L h' m ((M, mapOf T f) :: (T, tupOf #[.ref I] 0) :: (I, litOf l 0) :: news) → Q (.ref M) { s with heap := h' }) : wpAny (model PR w) A (call (.type "map") [f, .ref l]) Q E s := by
  refine callType_new MF.called_map (by decide) (MF.typeCall_map_2 _ _) (MF.newCall_map_2 _ _) (fun obj => MF.args_object_init_3 obj _ _) MF.entry_map_new
    (meets_map_new f l items n none #[]) ⟨X.get hm, ?_⟩
  have X1 := X.more (h' := s.heap.push (litOf l 0)) (fun _ _ e => Heap.get?_push_of_some _ e) (Heap.get?_push_size _ rfl)
  have X2 := X1.more (h' := (s.heap.push (litOf l 0)).push (tupOf #[.ref s.heap.objs.size] 0)) (fun _ _ e => Heap.get?_push_of_some _ e) (Heap.get?_push_size _ rfl)
  have X3 := X2.more (h' := ((s.heap.push (litOf l 0)).push (tupOf #[.ref s.heap.objs.size] 0)).push (mapOf (s.heap.objs.size + 1) f)) (fun _ _ e => Heap.get?_push_of_some _ e) (Heap.get?_push_size _ rfl)
  have z1 : (s.heap.push (litOf l 0)).objs.size = s.heap.objs.size + 1 := Heap.size_push ..
  have z2 : ((s.heap.push (litOf l 0)).push (tupOf #[.ref s.heap.objs.size] 0)).objs.size = s.heap.objs.size + 2 := by rw [Heap.size_push, z1]
  rw [z1, z2] at X3
  exact ⟨⟨_, X3.get (.head _), rfl⟩, h _ _ _ _ X3⟩
theorem pyIter_map {M T : Addr} {f : Value} {Q : Value → Shared → Prop} (X : Led h₀ L s.heap m news) (hm : (M, mapOf T f) ∈ news) (h : Q (.ref M) s) : wpAny (model PR w) A (pyIter (.ref M)) Q E s := by
  have hT : s.TypeIs (.ref M) "map" := ⟨_, X.get hm, rfl⟩
  refine wpAny_pyIter_slot hT MF.slot_map_iter (wpAny_call_entry MF.slot_map_iter hT MF.entry_map_iter ?_ (MF.args_map_iter_1 _))
  show wpAny _ _ (ret (.ref M)) _ _ s
  exact wpAny_pure ⟨_, rfl, "map", _, hT, MF.slot_map_next.lookup, h⟩
theorem map_next_item {M T I l : Addr} {f : Value} {oI : Obj} {items : Array Value} {n i : Nat} {x : Value} {Q : Value → Shared → Prop}
    (X : Led h₀ L s.heap m ((M, mapOf T f) :: (T, tupOf #[.ref I] 0) :: (I, oI) :: news)) (hI : oI.cls = .type "list_iterator" ∧ oI.data = .fields #[.ref l, .int i 0]) (hl : (l, listOf items n) ∈ news) (hx : items[i]? = some x)
    (h : ∀ h₁ oI', (oI'.cls = .type "list_iterator" ∧ oI'.data = .fields #[.ref l, .int (i + 1 : Nat) 0]) → Led h₀ L h₁ m ((M, mapOf T f) :: (T, tupOf #[.ref I] 0) :: (I, oI') :: news) →
      wpAny (model PR w) A (call f [x]) (fun v s' => Q v s') E { s with heap := h₁ }) :
    wpAny (model PR w) A (Builtin.«map.__next__» ⟨[.ref M], []⟩) (fun fin s' => ∃ v, fin = .done (.ret v) ∧ Q v s') E s := by
  have hit : s.heap.IsListIter I l i := ⟨_, X.get (.tail _ (.tail _ (.head _))), hI.1, hI.2⟩
  have hls : s.heap.IsList l items := isListL X (.tail _ (.tail _ (.tail _ hl)))
  show wpAny _ _ (field (.ref M) 0 >>= _) _ _ _
  refine wpAny_bind (wpAny_field (X.get (.head _)) rfl (x := .ref T) rfl ?_)
  show wpAny _ _ (seqItems? (.ref T) >>= _) _ _ s
  refine wpAny_bind (wpAny_seqItems (X.get (.tail _ (.head _))) rfl ?_)
  dsimp only
  refine wpAny_bind (wpAny_arrayLoop ?_)
  show wpAny _ _ (forIn [Value.ref I] #[] _) _ _ _
  simp only [List.forIn_cons, List.forIn_nil]
  refine wpAny_bind (wpAny_bind (wpAny_holding (wpAny_nextOf_list_item hit hls hx fun h₁ hit₁ hs₁ => ?_)))
  refine wpAny_pure (wpAny_pure ?_)
  obtain ⟨oI', ho', hc', hd'⟩ := hit₁
  have X1 := X.turn (.tail (.tail .head)) hs₁ ho'
  show wpAny _ _ (field (.ref M) 1 >>= _) _ _ _
  refine wpAny_bind (wpAny_field (X1.get (.head _)) rfl (x := f) rfl ?_)
  refine wpAny_bind (wpAny_holding (wpAny_mono (h h₁ oI' ⟨hc', hd'⟩ X1) (fun v s' hq => ?_) fun _ _ e => e))
  exact wpAny_bind (wpAny_letGo (wpAny_pure ⟨_, rfl, hq⟩))
theorem map_next_end {M T I l : Addr} {f : Value} {oI : Obj} {items : Array Value} {n i : Nat} {Q : Value → Shared → Prop} (hh : A.handled = none)
    (X : Led h₀ L s.heap m ((M, mapOf T f) :: (T, tupOf #[.ref I] 0) :: (I, oI) :: news)) (hI : oI.cls = .type "list_iterator" ∧ oI.data = .fields #[.ref l, .int i 0]) (hl : (l, listOf items n) ∈ news) (hx : items[i]? = none)
    (h : ∀ h₁ e, Led h₀ L h₁ m news → (∃ o, h₁.get? e = some o ∧ o.cls = .type "StopIteration") → E (.ref e) { s with heap := h₁ }) :
    wpAny (model PR w) A (Builtin.«map.__next__» ⟨[.ref M], []⟩) (fun fin s' => ∃ v, fin = .done (.ret v) ∧ Q v s') E s := by
  have hit : s.heap.IsListIter I l i := ⟨_, X.get (.tail _ (.tail _ (.head _))), hI.1, hI.2⟩
  have hls : s.heap.IsList l items := isListL X (.tail _ (.tail _ (.tail _ hl)))
  show wpAny _ _ (field (.ref M) 0 >>= _) _ _ _
  refine wpAny_bind (wpAny_field (X.get (.head _)) rfl (x := .ref T) rfl ?_)
  show wpAny _ _ (seqItems? (.ref T) >>= _) _ _ s
  refine wpAny_bind (wpAny_seqItems (X.get (.tail _ (.head _))) rfl ?_)
  dsimp only
  refine wpAny_bind (wpAny_arrayLoop ?_)
  show wpAny _ _ (forIn [Value.ref I] #[] _) _ _ _
  simp only [List.forIn_cons, List.forIn_nil]
  refine wpAny_bind (wpAny_bind (wpAny_holding (wpAny_nextOf_list_end hh hit hls hx fun h₁ e hs₁ hx₁ => ?_)))
  have X1 : Led h₀ L s.heap m ((I, oI) :: news) := X.sub (.cons _ (.cons _ (List.Sublist.refl _)))
  exact h h₁ e (X1.but hs₁) hx₁
noncomputable def MapSt (M T I l : Addr) (f : Value) (i : Nat) (its : List (Addr × Obj)) : Prop := ∃ oI, its = [(M, mapOf T f), (T, tupOf #[.ref I] 0), (I, oI)] ∧ oI.cls = .type "list_iterator" ∧ oI.data = .fields #[.ref l, .int i 0]
variable {p : Program} {loose : List Str} {mean : ExcName → Option Value} {mg mb : Str → Option Value}
theorem itMap {M T I l : Addr} {ts : List (Str × Tok)} {n : Nat} (hh : A.handled = none) (KX : (hd.heap_39 w.params).In h₀) (T' : Top p loose mean mg mb h₀) (hroom : A.depth < recursionLimit) :
    ItL PR w A h₀ (.ref M) ts.length (AtSeq (ts.map vstr).toArray) (MapSt M T I l (.ref 101)) (fun news => (l, SL ts n) ∈ news) where
  item := by
    rintro i L s m its news Q E hi ⟨oI, rfl, hc, hd⟩ hS X k
    have hT : s.TypeIs (.ref M) "map" := ⟨_, X.get (.head _), rfl⟩
    have hx : (ts.map vstr).toArray[i]? = some (vstr ts[i]) := by simp [hi]
    unfold pyNext
    refine wpAny_bind (wpAny_attempt (wpAny_callSpecial?_slot (name := Str.ofString "__next__") hT MF.slot_map_next
      (wpAny_call_entry MF.slot_map_next hT MF.entry_map_next
        (map_next_item X ⟨hc, hd⟩ hS hx fun h₁ oI' hI' X1 => Wp.to (A := A.in1) ?_) (MF.args_map_next_1 _))))
    refine fspath_call (A := A.in1) X1 KX T' hroom (fun h₂ tk₂ X2 => ?_)
    refine wpAny_pure (k _ [(M, mapOf T (.ref 101)), (T, tupOf #[.ref I] 0), (I, oI')] [] h₂ tk₂ ⟨hx, rfl⟩ ⟨oI', rfl, hI'.1, hI'.2⟩ X2)
  stop := by
    rintro L s m its news Q E ⟨oI, rfl, hc, hd⟩ hS X k
    have hT : s.TypeIs (.ref M) "map" := ⟨_, X.get (.head _), rfl⟩
    have hx : (ts.map vstr).toArray[ts.length]? = none := by simp
    unfold pyNext
    refine wpAny_bind (wpAny_attempt (wpAny_callSpecial?_slot (name := Str.ofString "__next__") hT MF.slot_map_next
      (wpAny_call_entry MF.slot_map_next hT MF.entry_map_next
        (map_next_end (A := A.in1) hh X ⟨hc, hd⟩ hS hx fun h₁ e X1 he => ?_) (MF.args_map_next_1 _))))
    obtain ⟨o, ho, hc⟩ := he
    refine wpAny_bind (wpAny_isInstance (T := "StopIteration") (b := true) ⟨o, ho, hc⟩ isSubtype_stop ?_)
    exact wpAny_pure (k h₁ _ X1)
  mono := fun _ _ h k => k _ h
  self := by
    rintro i L s m its news Q E ⟨oI, rfl, hc, hd⟩ hS X k
    exact pyIter_map X (.head _) k
end
end Mine
end

section
open PySem PySem.W PyProof.Rows PySem.Calls PySem.Spec
set_option maxRecDepth 100000
set_option linter.unusedVariables false
namespace Mine
section
variable {w : World} {A : Around} {E : Value → Shared → Prop} {s : Shared} {h₀ : Heap} {L D : Addr} {m : Str → Option Value} {news : List (Addr × Obj)}
theorem updSeqL {S : Addr} {its : Array Value} {n : Nat} {f : Array Value → Array Value} {news' : List (Addr × Obj)} {M : Model} {Q : Unit → Shared → Prop} (X : Led h₀ L s.heap m news) (u : UpdAt S (listOf its n) (Obj.mapSeq f (listOf its n)) news news') (hz : its.size ≤ 1000) (hz' : (f its).size ≤ 1001)
    (h : ∀ h', Led h₀ L h' m news' → Q () { s with heap := h' }) : wpAny M A (updateSeq S f) Q E s := by
  have hm : (S, listOf its n) ∈ news := by obtain ⟨a, b, e, _⟩ := u.split; rw [e]; simp
  exact wpAny_updateSeq (X.get hm) rfl (h _ (X.turn u (Heap.SameBut.update ..) (Heap.get?_update_self _ (X.get hm) rfl))) (by rw [sizeLine_eq]; omega) (by rw [sizeLine_eq]; omega)
theorem mapSeq_push (its : Array Value) (n : Nat) (v : Value) : ∃ c, Obj.mapSeq (·.push v) (listOf its n) = listOf (its.push v) c := ⟨_, rfl⟩
theorem mapSeq_pop (its : Array Value) (n : Nat) : ∃ c, Obj.mapSeq (·.pop) (listOf its n) = listOf its.pop c := ⟨_, rfl⟩
theorem extend_loopL {n : Nat} {At : Nat → Value → List (Addr × Obj) → Prop} {St : Nat → List (Addr × Obj) → Prop} {Src : List (Addr × Obj) → Prop} {it S : Addr} {vs : List Value} {R : Result → Shared → Prop} {res : Value}
    (I : ItL PR w A.in1 h₀ (.ref it) n At St Src) (hAt : ∀ i v extra, At i v extra → vs[i]? = some v ∧ extra = []) (hn : n ≤ 1000) (hvn : vs.length = n) (hs : Src news)
    (hR : ∀ h' tk c, Led h₀ L h' m ((S, listOf vs.toArray c) :: news) → R (.ok (.ret res)) { s with heap := h', toks := tk }) :
    ∀ (k i : Nat) (h : Heap) (tk : Nat) (its : List (Addr × Obj)) (c : Nat), n - i = k → i ≤ n → St i its → Led h₀ L h m (its ++ ((S, listOf (vs.take i).toArray c) :: news)) →
      codeAny (model PR w) A (.builtin "list.extend.loop" ⟨[.ref S, .ref it, res], []⟩) R { s with heap := h, toks := tk } := by
  intro k
  induction k with
  | zero =>
    intro i h tk its c hk hi hst X
    have hin : i = n := by omega
    subst hin
    refine codeAny_builtin F.entry_extend_loop ?_
    rw [Around.under_plainId F.plain_extend_loop _]
    show wpAny _ A.in1 (pyNext (.ref it) >>= _) _ _ _
    refine wpAny_bind (I.stop _ _ _ _ _ _ _ hst (I.mono _ _ hs fun p hp => .tail _ hp) X fun h' tk' X' => ?_)
    rw [List.take_of_length_le (by omega)] at X'
    exact wpAny_pure (hR h' tk' c X')
  | succ k ih =>
    intro i h tk its c hk hi hst X
    have hlt : i < n := by omega
    refine codeAny_builtin F.entry_extend_loop ?_
    rw [Around.under_plainId F.plain_extend_loop _]
    show wpAny _ A.in1 (pyNext (.ref it) >>= _) _ _ _
    refine wpAny_bind (I.item i _ _ _ _ _ _ _ hlt hst (I.mono _ _ hs fun p hp => .tail _ hp) X fun v its' extra h' tk' hv hst' X' => ?_)
    obtain ⟨hv2, rfl⟩ := hAt _ _ _ hv
    show wpAny _ A.in1 (updateSeq S (·.push v) >>= _) _ _ _
    have X'' : Led h₀ L h' m ((S, listOf (vs.take i).toArray c) :: (its' ++ news)) := X'.perm (by
      exact List.perm_middle)
    refine wpAny_bind (updSeqL X'' .head (by simp; omega) (by simp; omega) (fun h₂ X2 => ?_))
    obtain ⟨c2, e⟩ := mapSeq_push (vs.take i).toArray c v
    rw [e] at X2
    have e2 : (vs.take i).toArray.push v = (vs.take (i + 1)).toArray := by rw [List.take_add_one, hv2]; simp
    rw [e2] at X2
    exact wpAny_pure ⟨plainId_quiet F.plain_extend_loop _, ih (i + 1) h₂ tk' its' c2 (by omega) hlt hst' (X2.perm List.perm_middle.symm)⟩
theorem collect_map {M T : Addr} {f : Value} {n : Nat} {At : Nat → Value → List (Addr × Obj) → Prop} {St : Nat → List (Addr × Obj) → Prop} {Src : List (Addr × Obj) → Prop} {vs : List Value} {Q : List Value → Shared → Prop} {its : List (Addr × Obj)}
    (J : ItL PR w A.in1 h₀ (.ref M) n At St Src) (hAt : ∀ i v extra, At i v extra → vs[i]? = some v ∧ extra = []) (hn : n ≤ 1000) (hvn : vs.length = n) (hs : Src news) (hst : St 0 its) (hM : (M, mapOf T f) ∈ its) (X : Led h₀ L s.heap m (its ++ news))
    (hQ : ∀ h' tk, Led h₀ L h' m news → Q vs { s with heap := h', toks := tk }) : wpAny (model PR w) A (collect (.ref M)) Q E s := by
  unfold collect
  refine wpAny_bind (wpAny_runValue (codeAny_builtin F.entry_proto_collect ?_))
  rw [Around.under_plainId F.plain_proto_collect _]
  show wpAny _ A.in1 (newList [] >>= fun l => again (.builtin "list.__iadd__" ⟨[l, .ref M], []⟩)) _ _ s
  refine wpAny_bind (newListL X (fun S h1 X1 => ?_) (by decide))
  have hSM : S ≠ M := fun e => (List.nodup_cons.mp X1.nd).1 (List.mem_map.mpr ⟨_, List.mem_append_left _ hM, e.symm⟩)
  refine wpAny_pure ⟨plainId_quiet F.plain_list_iadd _, codeAny_builtin F.entry_list_iadd ?_⟩
  rw [Around.under_plainId F.plain_list_iadd _]
  show wpAny _ A.in1 (Builtin.List.listExtendWith (.ref S) (.ref M) (.ref S)) _ _ _
  unfold Builtin.List.listExtendWith
  have hT : Shared.TypeIs { s with heap := h1 } (.ref M) "map" := ⟨_, X1.get (.tail _ (List.mem_append_left _ hM)), rfl⟩
  refine wpAny_bind (wpAny_typeOf hT ?_)
  have e1 : Builtin.List.listSameRef (.ref S) (.ref M) = false := by simp [Builtin.List.listSameRef, hSM]
  have e2 : (Value.type "map" == Value.type "list") = false := by decide
  have e3 : (Value.type "map" == Value.type "tuple") = false := by decide
  simp only [e1, e2, e3, Bool.or_false, Bool.false_eq_true, if_false]
  have XP : Led h₀ L h1 m (its ++ ((S, listOf (vs.take 0).toArray 0) :: news)) := X1.perm List.perm_middle.symm
  have hs' : Src ((S, listOf (vs.take 0).toArray 0) :: news) := J.mono _ _ hs fun p hp => .tail _ hp
  refine wpAny_bind (J.self 0 _ _ _ _ _ _ _ hst hs' XP ?_)
  refine wpAny_bind (wpAny_holding ?_)
  unfold Builtin.List.listLengthHint
  refine wpAny_bind (wpAny_specialOf hT MF.map_no_len ?_)
  show wpAny _ A.in1 (specialOf (Value.ref M) (Str.ofString "__length_hint__") >>= _) _ _ _
  refine wpAny_bind (wpAny_specialOf hT MF.map_no_hint ?_)
  refine wpAny_pure ?_
  show wpAny _ A.in1 (rule "list.extend.makes-room" >>= fun _ => Builtin.List.listTouch (.ref S) >>= fun _ =>
    again (.builtin "list.extend.loop" ⟨[.ref S, .ref M, .ref S], []⟩)) _ _ _
  refine wpAny_bind (wpAny_rule ?_)
  refine wpAny_bind ?_
  show wpAny _ A.in1 (updateSeq S (·.push .none) >>= fun _ => updateSeq S (·.pop)) _ _ _
  have X2 : Led h₀ L h1 m ((S, listOf #[] 0) :: (its ++ news)) := X1
  refine wpAny_bind (updSeqL X2 .head (by simp) (by simp) (fun h3 X3 => ?_))
  obtain ⟨c1, e⟩ := mapSeq_push #[] 0 .none
  rw [e] at X3
  refine updSeqL X3 .head (by simp) (by simp) (fun h4 X4 => ?_)
  obtain ⟨c2, e⟩ := mapSeq_pop (#[].push .none) c1
  rw [e] at X4
  have X5 : Led h₀ L h4 m (its ++ ((S, listOf (vs.take 0).toArray c2) :: news)) := X4.perm List.perm_middle.symm
  refine wpAny_pure ⟨plainId_quiet F.plain_extend_loop _, extend_loopL (vs := vs) J hAt hn hvn hs (fun h' tk c X' => ?_) n 0 h4 s.toks its c2 (by omega) (Nat.zero_le _) hst X5⟩
  show wpAny _ A (load S >>= _) _ _ _
  refine wpAny_bind (wpAny_load (X'.get (.head _)) ?_)
  exact wpAny_pure (hQ h' tk (X'.sub (.cons _ (List.Sublist.refl _))))
end
end Mine
end

section
open PySem PySem.W PyProof.Rows PySem.Calls PySem.Spec
set_option maxRecDepth 100000
set_option linter.unusedVariables false
namespace Mine
section
variable {w : World} {A : Around} {E : Value → Shared → Prop} {s : Shared} {h₀ : Heap} {L D : Addr} {m : Str → Option Value} {news : List (Addr × Obj)}
set_option maxHeartbeats 1000000 in
theorem code_tuple_map {M T : Addr} {f : Value} {n : Nat} {At : Nat → Value → List (Addr × Obj) → Prop} {St : Nat → List (Addr × Obj) → Prop} {Src : List (Addr × Obj) → Prop} {vs : List Value} {Q₁ : Value → Shared → Prop} {its : List (Addr × Obj)}
    (J : ItL PR w A.in1.in1 h₀ (.ref M) n At St Src) (hAt : ∀ i v extra, At i v extra → vs[i]? = some v ∧ extra = []) (hn : n ≤ 1000) (hvn : vs.length = n) (hs : Src news) (hst : St 0 its) (hM : (M, mapOf T f) ∈ its) (X : Led h₀ L s.heap m (its ++ news))
    (h : ∀ t h' tk, Led h₀ L h' m ((t, tupOf vs.toArray 0) :: news) → Q₁ (.ref t) { s with heap := h', toks := tk }) :
    codeAny (model PR w) A (.call (.builtin "tuple.__new__") ⟨[.type "tuple", .ref M], []⟩) (wants Q₁ E) s := by
  refine codeAny_of_tree ?_
  show wpAny _ A.in1 (do checkBuiltinCall "tuple.__new__" ⟨[.type "tuple", .ref M], []⟩; again (.builtin "tuple.__new__" ⟨[.type "tuple", .ref M], []⟩)) _ _ s
  refine wpAny_bind (wpAny_of_eq (F.newCall_tuple_1 _) (wpAny_pure ⟨plainId_quiet F.plain_tuple_new _, codeAny_builtin F.entry_tuple_new ?_⟩))
  rw [Around.under_plainId F.plain_tuple_new _]
  have hsub := sub_tuple_self
  have hinit := init_tuple_lookup
  have hmh := madeHere_tuple
  have hTI : s.TypeIs (.ref M) "map" := ⟨_, X.get (List.mem_append_left _ hM), rfl⟩
  wp_walk using wpAny_typeOf hTI, collect_map (A := A.in1) (vs := vs) J hAt hn hvn hs hst hM X
  intro h' tk X1
  show wpAny _ _ (Builtin.Tuple.tupleExact vs.toArray >>= fun v => ret v) _ _ _
  unfold Builtin.Tuple.tupleExact
  refine wpAny_bind (wpAny_newObj_type ?_ (by show vs.toArray.size ≤ sizeLine; rw [sizeLine_eq, List.size_toArray]; omega))
  exact wpAny_pure (h _ _ _ (X1.more (fun _ _ e => Heap.get?_push_of_some _ e) (Heap.get?_push_size _ rfl)))
theorem call_tuple_map {M T : Addr} {f : Value} {n : Nat} {At : Nat → Value → List (Addr × Obj) → Prop} {St : Nat → List (Addr × Obj) → Prop} {Src : List (Addr × Obj) → Prop} {vs : List Value} {Q : Value → Shared → Prop} {its : List (Addr × Obj)}
    (J : ItL PR w A.in1.in1.in1 h₀ (.ref M) n At St Src) (hAt : ∀ i v extra, At i v extra → vs[i]? = some v ∧ extra = []) (hn : n ≤ 1000) (hvn : vs.length = n) (hs : Src news) (hst : St 0 its) (hM : (M, mapOf T f) ∈ its) (X : Led h₀ L s.heap m (its ++ news))
    (h : ∀ t h' tk, Led h₀ L h' m ((t, tupOf vs.toArray 0) :: news) → Q (.ref t) { s with heap := h', toks := tk }) : wpAny (model PR w) A (call (.type "tuple") [.ref M]) Q E s := by
  refine callType_codes (Q₁ := fun obj s₁ => s₁.TypeIs obj "tuple" ∧ Q obj s₁) F.called_tuple (F.typeCall_tuple_1 _) F.entry_object_init
    (code_tuple_map (A := A.in1) (T := T) (f := f) J hAt hn hvn hs hst hM X fun t h' tk X1 => ⟨⟨_, X1.get (.head _), rfl⟩, h t h' tk X1⟩) fun obj s₁ h₁ => ?_
  exact ⟨h₁.1, F.args_object_init_2 obj _, object_init_meets F.called_tuple.init.lookup F.called_tuple.made (by decide) PR w A.in1 _ s₁ ⟨h₁.1, rfl, h₁.2⟩⟩
variable {p : Program} {loose : List Str} {mean : ExcName → Option Value} {mg mb : Str → Option Value}
theorem Wp.mapC {hp0 : Heap} {tk0 : Nat} {l : Addr} {items : Array Value} {n : Nat} {f : Value} {Q : Value → Shared → Prop} (X : Led h₀ L hp0 m news) (hm : (l, listOf items n) ∈ news)
    (h : ∀ M T I h', Led h₀ L h' m ((M, mapOf T f) :: (T, tupOf #[.ref I] 0) :: (I, litOf l 0) :: news) → Q (.ref M) { s with heap := h', toks := tk0 }) : Wp w A (PySem.call (.type "map") [f, .ref l]) Q { s with heap := hp0, toks := tk0 } := ⟨call_map X hm h⟩
theorem Wp.tupM {hp0 : Heap} {tk0 : Nat} {M T I l : Addr} {ts : List (Str × Tok)} {n : Nat} {Q : Value → Shared → Prop} (hh : A.handled = none) (KX : (hd.heap_39 w.params).In h₀) (T' : Top p loose mean mg mb h₀) (hroom : A.depth < recursionLimit) (hn : ts.length ≤ 1000)
    (X : Led h₀ L hp0 m ((M, mapOf T (.ref 101)) :: (T, tupOf #[.ref I] 0) :: (I, litOf l 0) :: news)) (hl : (l, SL ts n) ∈ news)
    (h : ∀ t h' tk, Led h₀ L h' m ((t, tupOf (ts.map vstr).toArray 0) :: news) → Q (.ref t) { s with heap := h', toks := tk }) : Wp w A (PySem.call (.type "tuple") [.ref M]) Q { s with heap := hp0, toks := tk0 } :=
  ⟨call_tuple_map (vs := ts.map vstr) (itMap (A := A.in1.in1.in1) (M := M) (T := T) (I := I) (l := l) (ts := ts) (n := n) hh KX T' hroom) (fun i v extra h => ⟨by simpa [AtSeq] using h.1, h.2⟩) hn (by simp) hl ⟨_, rfl, rfl, rfl⟩ (.head _) X h⟩
end
end Mine
end

section
open PySem PySem.W PyProof.Rows PySem.Calls PySem.Spec
set_option maxRecDepth 100000
set_option linter.unusedVariables false
namespace Mine
section
variable {w : World} {A : Around} {E : Value → Shared → Prop} {s : Shared} {h₀ : Heap} {L D : Addr} {m : Str → Option Value} {news news' : List (Addr × Obj)}
theorem pyHash_true {Q : Int → Shared → Prop} (h : Q 1 { s with toks := s.toks + 1 }) : wpAny (model PR w) A (pyHash (.bool true)) Q E s := by
  have hT : s.TypeIs (.bool true) "bool" := rfl
  unfold pyHash
  have hv : [Value.bool true].any Value.onHeap = false := rfl
  refine wpAny_bind ?_
  rw [cRoomFor, if_neg (by rw [hv]; exact Bool.false_ne_true)]; refine wpAny_pure ?_
  refine wpAny_bind (wpAny_specialOf hT F.slot_bool_hash.lookup ?_)
  show wpAny _ _ (if (some (Value.builtin "int.__hash__") == some Value.none) = true then _ else _) Q E s
  rw [if_neg (by rw [beq_builtin_none]; exact Bool.false_ne_true)]
  refine wpAny_bind (wpAny_specialOf hT F.slot_bool_hash.lookup ?_)
  show wpAny _ _ (callSpecialIfBoundUnlessNone? (.bool true) "__hash__" _ >>= _) Q E s
  refine wpAny_bind (wpAny_callSpecialIfBoundUnlessNone?_slot hT F.slot_bool_hash
    (wpAny_call_entry F.slot_bool_hash hT F.entry_int_hash
      (show wpAny _ _ (do ret (← mkInt 1)) _ _ s from wpAny_ret_mkInt ?_) (F.args_int_hash_1 _)))
  exact wpAny_pure h
theorem eqBool_true {Q : Bool → Shared → Prop} (h : Q true s) : wpAny (model PR w) A (eqBool (.bool true) (.bool true)) Q E s := by
  unfold eqBool
  refine wpAny_holding ?_
  show wpAny _ _ (if (Value.bool true == Value.bool true) = true then _ else _) Q E s
  rw [if_pos (show (Value.bool true == Value.bool true) = true from rfl)]
  exact wpAny_bind (wpAny_rule (wpAny_pure h))
noncomputable abbrev set0 (led : Bool) : Obj := { cls := .type "set", dict := none, data := .set #[] 0 (.fresh 0 0 led) }
noncomputable abbrev tab1 (led : Bool) : SetTable := { mask := 7, place := #[1], dummies := #[], finger := 0, led := led, moves := 0, plain := true }
noncomputable abbrev set1 (led : Bool) : Obj := { cls := .type "set", dict := none, data := .set #[(1, .bool true)] 1 (tab1 led) }
theorem lay_true (led : Bool) : layNew (.fresh 0 0 led) #[] 1 (.bool true) = (#[(1, .bool true)], tab1 led, false, false) := by cases led <;> rfl
theorem add_true0 {led : Bool} {Q : Value → Shared → Prop} (X : Led h₀ L s.heap m news) (u : UpdAt D (set0 led) (set1 led) news news')
    (h : ∀ h', Led h₀ L h' m news' → Q .none { s with heap := h', toks := s.toks + 1 }) : wpAny (model PR w) A (call (.builtin "set.add") [.ref D, .bool true]) Q E s := by
  have hm : (D, set0 led) ∈ news := by obtain ⟨a, b, e, _⟩ := u.split; rw [e]; simp
  have ho := X.get hm
  have hT : s.TypeIs (.ref D) "set" := ⟨_, ho, rfl⟩
  refine wpAny_call_entry F.slot_set_add hT F.entry_set_add ?_ (F.args_set_add_2 _ _)
  unfold Builtin.«set.add» Builtin.Frozenset.oneOther
  simp only [List.isEmpty_nil, bind_assoc]
  unfold Builtin.Frozenset.addrOf setAdd
  refine wpAny_bind (wpAny_pure ?_)
  try dsimp only
  refine wpAny_bind (wpAny_pure ?_)
  try dsimp only
  refine wpAny_bind ?_
  refine wpAny_holding ?_
  refine wpAny_bind (pyHash_true ?_)
  unfold setAddHashed setAddHashedIn
  refine wpAny_holding (wpAny_bind (wpAny_setState_of ho rfl rfl ?_))
  dsimp only
  rw [show byScan (.bool true) #[] = true by simp [byScan, Value.scannable, scanBound]]
  simp only [↓reduceIte]
  unfold setAddByScan
  refine wpAny_bind (wpAny_bind (wpAny_rule (wpAny_bind (wpAny_pure (a := ScanMet.absent) ?_))))
  dsimp only
  rw [lay_true]
  dsimp only
  refine wpAny_bind (wpAny_pure ?_)
  rw [hashByValue_scannable 8 rfl]
  rw [if_pos rfl]
  refine wpAny_bind (wpAny_pure ?_)
  simp only [show plainKind (.bool true) = true from rfl, if_true]
  have e1 : Obj.putSet #[(1, .bool true)] (tab1 led) (set0 led) = set1 led := putSet_of _ _ rfl
  refine wpAny_bind (wpAny_storeSet_of ho rfl ?_ (by rw [sizeLine_eq]; decide))
  rw [if_neg (by cases led <;> decide)]
  refine wpAny_pure ?_
  dsimp only
  refine wpAny_pure ?_
  show wpAny _ _ (ret Value.none) _ _ _
  refine wpAny_pure ⟨_, rfl, ?_⟩
  have hu := Heap.get?_update_self (Obj.putSet #[(1, .bool true)] (tab1 led)) ho rfl
  rw [e1] at hu
  exact h _ (X.turn u (Heap.SameBut.update ..) hu)
theorem add_true1 {led : Bool} {Q : Value → Shared → Prop} (X : Led h₀ L s.heap m news) (hm : (D, set1 led) ∈ news)
    (h : Q .none { s with toks := s.toks + 1 }) : wpAny (model PR w) A (call (.builtin "set.add") [.ref D, .bool true]) Q E s := by
  have ho := X.get hm
  have hT : s.TypeIs (.ref D) "set" := ⟨_, ho, rfl⟩
  refine wpAny_call_entry F.slot_set_add hT F.entry_set_add ?_ (F.args_set_add_2 _ _)
  unfold Builtin.«set.add» Builtin.Frozenset.oneOther
  simp only [List.isEmpty_nil, bind_assoc]
  unfold Builtin.Frozenset.addrOf setAdd
  refine wpAny_bind (wpAny_pure ?_)
  try dsimp only
  refine wpAny_bind (wpAny_pure ?_)
  try dsimp only
  refine wpAny_bind ?_
  refine wpAny_holding ?_
  refine wpAny_bind (pyHash_true ?_)
  unfold setAddHashed setAddHashedIn
  refine wpAny_holding (wpAny_bind (wpAny_setState_of ho rfl (by cases led <;> rfl) ?_))
  dsimp only
  rw [show byScan (.bool true) #[(1, .bool true)] = true by simp [byScan, Value.scannable, scanBound]]
  simp only [↓reduceIte]
  unfold setAddByScan
  refine wpAny_bind (wpAny_bind (wpAny_rule (wpAny_bind ?_)))
  show wpAny _ _ (setScanFrom D (.bool true) 1 true [(1, .bool true)] 0) _ _ _
  unfold setScanFrom
  rw [if_pos (by decide)]
  refine wpAny_bind (wpAny_setEpoch_of ho rfl (by cases led <;> rfl) ?_)
  refine wpAny_bind (eqBool_true ?_)
  rw [if_pos (by decide)]
  refine wpAny_pure ?_
  dsimp only
  refine wpAny_pure ?_
  dsimp only
  refine wpAny_pure ?_
  show wpAny _ _ (ret Value.none) _ _ _
  exact wpAny_pure ⟨_, rfl, h⟩
end
end Mine
end

section
open PySem PySem.W PyProof.Rows PySem.Calls PySem.Spec
set_option maxRecDepth 100000
set_option linter.unusedVariables false
namespace Mine
namespace MF
theorem entry_set_iter : entryFor table "set.__iter__" = some Builtin.«frozenset.__iter__» :=
  entryFor_alias (id' := "frozenset.__iter__") (by kernel_rfl) rfl (by decide +kernel) (by kernel_rfl)
theorem slot_seti_next : Slot "set_iterator" "__next__" "set_iterator.__next__" :=
  .of (owner := "set_iterator") (n := "__next__") (by rw [typeLookup_type, builtinLookup_eq_fast]; kernel_rfl) (by decide +kernel) (by decide +kernel) (by decide +kernel)
    (by first | exact .inl (by decide +kernel) | exact .inr (by decide +kernel)) (by rw [isSubtype_type]; kernel_rfl)
theorem entry_seti_next : entryFor table "set_iterator.__next__" = some Builtin.«set_iterator.__next__» := entryFor_of_tree (by kernel_rfl)
theorem owner_seti : Manifest.owners.lookup (String.ofList "set_iterator".toList.reverse.reverse) = some Manifest.sig_set_iterator := by kernel_rfl
theorem args_seti_next_1 (a : Value) : argsOk "set_iterator.__next__" ⟨[a], []⟩ := by
  unfold argsOk; rw [signature?_of (id := "set_iterator.__next__") (n := ['_', '_', 't', 'x', 'e', 'n', '_', '_']) (o := "set_iterator".toList.reverse) (by kernel_rfl) owner_seti]; kernel_rfl
end MF
noncomputable def byText (w : World) : Bool := w.params.followText "set-order"
noncomputable abbrev sitOf (D : Addr) (slot i : Int) : Obj := { cls := .type "set_iterator", data := .fields #[rawInt slot, rawInt i, .ref D, rawInt 1, rawInt 1] }
section
variable {w : World} {A : Around} {E : Value → Shared → Prop} {s : Shared} {h₀ : Heap} {L D : Addr} {m : Str → Option Value} {news news' : List (Addr × Obj)}
theorem newSetL {Q : Value → Shared → Prop} (X : Led h₀ L s.heap m news) (h : ∀ d h', Led h₀ L h' m ((d, set0 (!byText w)) :: news) → Q (.ref d) { s with heap := h' }) : wpAny (model PR w) A (newSet (.type "set")) Q E s := by
  unfold newSet setsByText
  refine wpAny_bind (wpAny_bind (wpAny_askSetting (wpAny_pure ?_)))
  dsimp only
  simp only [newObj]
  exact wpAny_bind (wpAny_alloc (wpAny_pure (h _ _ (X.more (fun _ _ e => Heap.get?_push_of_some _ e) (Heap.get?_push_size _ rfl)))))
theorem fits1 (led : Bool) : (tab1 led).fits 1 = true := by cases led <;> rfl
theorem set_iter {Q : Value → Shared → Prop} {led : Bool} (X : Led h₀ L s.heap m news) (hm : (D, set1 led) ∈ news) (h : ∀ I h', Led h₀ L h' m ((I, sitOf D 0 0) :: news) → Q (.ref I) { s with heap := h' }) :
    wpAny (model PR w) A (pyIter (.ref D)) Q E s := by
  have ho := X.get hm
  have hT : s.TypeIs (.ref D) "set" := ⟨_, ho, rfl⟩
  refine wpAny_pyIter_slot hT F.slot_set_iter (wpAny_call_entry F.slot_set_iter hT MF.entry_set_iter ?_ (F.args_set_iter_1 _))
  have hst : ∀ {A : Around} {Q : (Array (Int × Value) × Nat × SetTable) → Shared → Prop} {E}, Q (#[(1, .bool true)], 1, tab1 led) s → wpAny (model PR w) A (setState D) Q E s := fun h => wpAny_setState_of ho rfl (fits1 led) h
  unfold Builtin.«frozenset.__iter__» Builtin.Frozenset.slot0 slotArgs
  simp only [List.isEmpty_nil, Bool.not_true, Bool.false_eq_true, ↓reduceIte, bind_assoc, List.length_nil, bne_self_eq_false]
  unfold Builtin.Frozenset.addrOf Builtin.Frozenset.sizeOf
  refine wpAny_bind (wpAny_pure ?_)
  try dsimp only
  refine wpAny_bind (wpAny_pure ?_)
  unfold setEntries
  refine wpAny_bind (wpAny_bind (wpAny_bind (hst (wpAny_pure (wpAny_pure ?_)))))
  unfold setDrawn setsByText
  refine wpAny_bind (wpAny_bind (hst ?_))
  refine wpAny_bind (wpAny_bind (wpAny_askSetting (wpAny_pure ?_)))
  refine wpAny_pure ?_
  rw [if_neg (by rw [Bool.and_eq_true]; rintro ⟨_, h⟩; exact Bool.false_ne_true h)]
  refine wpAny_bind (wpAny_pure ?_)
  unfold setEpoch
  refine wpAny_bind (wpAny_bind (hst (wpAny_pure ?_)))
  unfold newFields
  refine wpAny_bind (wpAny_newObj_type ?_ (by size_fits))
  exact wpAny_pure ⟨_, rfl, "set_iterator", _, ⟨_, Heap.get?_push_size _ rfl, rfl⟩, MF.slot_seti_next.lookup, h _ _ (X.more (fun _ _ e => Heap.get?_push_of_some _ e) (Heap.get?_push_size _ rfl))⟩
noncomputable def slotN (w : World) : Int := if byText w then 0 else 2
theorem pick1 {α : Type} (f : Nat → Nat) (x : α) : pickOrder f #[x] = #[x] := by
  have e : f 0 % 1 = 0 := Nat.mod_one _
  show pickOrder.go f 1 0 [x] #[] = #[x]
  unfold pickOrder.go
  simp only [List.length_singleton, e, List.getElem?_cons_zero, List.eraseIdx_cons_zero]
  rfl
theorem setWalk1 {led : Bool} {Q : Array (Int × Value) → Shared → Prop} (X : Led h₀ L s.heap m news) (hm : (D, set1 led) ∈ news) (hb : byText w = true) (h : Q #[(1, .bool true)] s) : wpAny (model PR w) A (setWalk D) Q E s := by
  have ho := X.get hm
  unfold setWalk setsByText
  refine wpAny_bind (wpAny_setState_of ho rfl (fits1 _) ?_)
  dsimp only
  refine wpAny_bind (wpAny_bind (wpAny_askSetting (wpAny_pure ?_)))
  show wpAny _ _ (if byText w = true then _ else _) _ _ _
  rw [if_pos hb]
  refine wpAny_bind (wpAny_askSetting (wpAny_pure ?_))
  rw [pick1]; exact h
theorem setNext_true {Q : Option (Value × Nat) → Shared → Prop} (X : Led h₀ L s.heap m news) (hm : (D, set1 (!byText w)) ∈ news) (h : Q (some (.bool true, (slotN w).toNat)) s) :
    wpAny (model PR w) A (setNext D 0 0 1) Q E s := by
  have ho := X.get hm
  unfold setNext setsByText
  refine wpAny_bind (wpAny_setState_of ho rfl (fits1 _) ?_)
  refine wpAny_bind (wpAny_bind (wpAny_askSetting (wpAny_pure ?_)))
  show wpAny _ _ (if byText w = true then _ else _) _ _ _
  cases hb : byText w with
  | true =>
    rw [if_pos rfl]
    rw [hb] at hm
    rw [if_neg (by decide)]
    refine wpAny_bind (setWalk1 X hm hb ?_)
    have e : slotN w = 0 := by unfold slotN; rw [hb]; rfl
    rw [e] at h
    exact wpAny_pure h
  | false =>
    rw [if_neg Bool.false_ne_true]
    have e : slotN w = 2 := by unfold slotN; rw [hb]; rfl
    rw [e] at h
    dsimp only
    show wpAny _ _ (if (false : Bool) = true then _ else _) _ _ _
    rw [if_neg Bool.false_ne_true]
    refine wpAny_bind (wpAny_of_eq (a := ()) rfl ?_)
    exact wpAny_pure h
theorem setNext_none {Q : Option (Value × Nat) → Shared → Prop} (X : Led h₀ L s.heap m news) (hm : (D, set1 (!byText w)) ∈ news) (h : Q none s) :
    wpAny (model PR w) A (setNext D (slotN w).toNat 1 1) Q E s := by
  have ho := X.get hm
  unfold setNext setsByText
  refine wpAny_bind (wpAny_setState_of ho rfl (fits1 _) ?_)
  refine wpAny_bind (wpAny_bind (wpAny_askSetting (wpAny_pure ?_)))
  show wpAny _ _ (if byText w = true then _ else _) _ _ _
  cases hb : byText w with
  | true =>
    rw [if_pos rfl]
    rw [hb] at hm
    rw [if_neg (by decide)]
    refine wpAny_bind (setWalk1 X hm hb ?_)
    exact wpAny_pure h
  | false =>
    rw [if_neg Bool.false_ne_true]
    have e : slotN w = 2 := by unfold slotN; rw [hb]; rfl
    rw [e]
    dsimp only
    show wpAny _ _ (if (false : Bool) = true then _ else _) _ _ _
    rw [if_neg Bool.false_ne_true]
    refine wpAny_bind (wpAny_of_eq (a := ()) rfl ?_)
    exact wpAny_pure h
theorem seti_item {I : Addr} {Q : Option Value → Shared → Prop} (X : Led h₀ L s.heap m ((I, sitOf D 0 0) :: news)) (hm : (D, set1 (!byText w)) ∈ news)
    (h : ∀ h', Led h₀ L h' m ((I, sitOf D (slotN w) 1) :: news) → Q (some (.bool true)) { s with heap := h' }) : wpAny (model PR w) A (pyNext (.ref I)) Q E s := by
  have hT : s.TypeIs (.ref I) "set_iterator" := ⟨_, X.get (.head _), rfl⟩
  unfold pyNext
  refine wpAny_bind (wpAny_attempt (wpAny_callSpecial?_slot (name := Str.ofString "__next__") hT MF.slot_seti_next
    (wpAny_call_entry MF.slot_seti_next hT MF.entry_seti_next ?_ (MF.args_seti_next_1 _))))
  show wpAny _ _ (fieldsOf (.ref I) >>= _) _ _ _
  refine wpAny_bind (wpAny_fieldsOf (X.get (.head _)) rfl ?_)
  dsimp only
  have ho := X.get (.tail _ hm)
  unfold setEntries
  refine wpAny_bind (wpAny_bind (wpAny_setState_of ho rfl (fits1 _) (wpAny_pure ?_)))
  rw [if_neg (by simp)]
  show wpAny _ _ (setNext D 0 0 1 >>= _) _ _ _
  refine wpAny_bind (setNext_true X (.tail _ hm) ?_)
  dsimp only
  have es : (((slotN w).toNat : Nat) : Int) = slotN w := by unfold slotN; split <;> rfl
  rw [es]
  refine wpAny_bind (wpAny_setField_rec (X.get (.head _)) (by simp) fun h1 he1 hs1 => ?_)
  have X1 := X.turn (o' := sitOf D (slotN w) 0) .head hs1 he1
  refine wpAny_bind (wpAny_setField_rec (X1.get (.head _)) (by simp) fun h2 he2 hs2 => ?_)
  have X2 := X1.turn (o' := sitOf D (slotN w) 1) .head hs2 he2
  exact wpAny_pure ⟨_, rfl, wpAny_pure (h _ X2)⟩
theorem seti_end {I : Addr} {Q : Option Value → Shared → Prop} (hh : A.handled = none) (X : Led h₀ L s.heap m ((I, sitOf D (slotN w) 1) :: news)) (hm : (D, set1 (!byText w)) ∈ news)
    (h : ∀ h', Led h₀ L h' m news → Q none { s with heap := h' }) : wpAny (model PR w) A (pyNext (.ref I)) Q E s := by
  have hT : s.TypeIs (.ref I) "set_iterator" := ⟨_, X.get (.head _), rfl⟩
  unfold pyNext
  refine wpAny_bind (wpAny_attempt (wpAny_callSpecial?_slot (name := Str.ofString "__next__") hT MF.slot_seti_next
    (wpAny_call_entry MF.slot_seti_next hT MF.entry_seti_next ?_ (MF.args_seti_next_1 _))))
  show wpAny _ _ (fieldsOf (.ref I) >>= _) _ _ _
  refine wpAny_bind (wpAny_fieldsOf (X.get (.head _)) rfl ?_)
  dsimp only
  have ho := X.get (.tail _ hm)
  unfold setEntries
  refine wpAny_bind (wpAny_bind (wpAny_setState_of ho rfl (fits1 _) (wpAny_pure ?_)))
  rw [if_neg (by simp)]
  show wpAny _ _ (setNext D (slotN w).toNat 1 1 >>= _) _ _ _
  refine wpAny_bind (setNext_none X (.tail _ hm) ?_)
  dsimp only
  refine wpAny_bind (wpAny_setField_rec (X.get (.head _)) (by simp) fun h1 he1 hs1 => ?_)
  have X1 : Led h₀ L h1 m news := X.but hs1.extBut
  show wpAny _ _ (newExc (.type "StopIteration") [] >>= _) _ _ _
  refine wpAny_bind ?_
  simp only [newExc, newTuple]
  refine wpAny_bind (wpAny_newObj_type ?_ (by size_fits))
  refine wpAny_bind (m := firstArgMember _ _) (wpAny_of_eq (a := Value.none) (by first | rfl | (simp only [firstArgMember]; rfl)) ?_)
  refine wpAny_newObj_type ?_ (by size_fits)
  simp only [raiseNew]
  refine wpAny_bind (wpAny_handled ?_)
  rw [show A.in1.handled = none from hh]
  refine wpAny_bind (wpAny_pure (wpAny_throw ?_))
  refine wpAny_bind (wpAny_isInstance (T := "StopIteration") (b := true) ⟨_, Heap.get?_push_size _ rfl, rfl⟩ isSubtype_stop ?_)
  exact wpAny_pure (h _ ((X1.keeps fun _ _ e => Heap.get?_push_of_some _ e).keeps fun _ _ e => Heap.get?_push_of_some _ e))
theorem unpack_true {Q : List Value → Shared → Prop} (hh : A.handled = none) (X : Led h₀ L s.heap m news) (hm : (D, set1 (!byText w)) ∈ news)
    (h : ∀ h', Led h₀ L h' m news → Q [.bool true] { s with heap := h' }) : wpAny (model PR w) A (unpackItems (.ref D) 1 none) Q E s := by
  have hT : s.TypeIs (.ref D) "set" := ⟨_, X.get hm, rfl⟩
  unfold unpackItems
  refine wpAny_bind ?_
  unfold notIterableAtAll
  refine wpAny_bind (wpAny_specialOf hT F.slot_set_iter.lookup ?_)
  refine wpAny_pure ?_
  simp only [Bool.false_eq_true, if_false]
  refine wpAny_bind (wpAny_holding (set_iter X hm fun I h1 X1 => ?_))
  unfold draw
  refine wpAny_bind (wpAny_holding (wpAny_bind (seti_item X1 hm fun h2 X2 => ?_)))
  dsimp only
  unfold draw
  refine wpAny_bind (wpAny_holding (wpAny_pure (wpAny_pure ?_)))
  rw [if_neg (by simp)]
  refine wpAny_bind (wpAny_holding (seti_end hh X2 hm fun h3 X3 => ?_))
  simp only [Option.isSome_none, Bool.false_eq_true, if_false]
  exact wpAny_pure (h h3 X3)
end
end Mine
end

section
open PySem PySem.W PyProof.Rows PySem.Calls PySem.Spec
set_option maxRecDepth 100000
set_option linter.unusedVariables false
namespace Mine
theorem compTurn_set (elt target iter : Expr) (scope : Scope) (pos : Pos) (it acc : Value) (env : Env) :
    compTurn (.SetComp elt [⟨target, iter, [], 0⟩] scope pos) 0 it acc env = (standAt iter.pos >>= fun _ => pyNext it >>= fun r => match r with
      | none => pure (.done .next)
      | some v => letOwnedTupleGo target it v >>= fun _ => assign target env v >>= fun _ =>
        (eval elt env >>= fun x => standAt elt.pos >>= fun _ => call (.builtin "set.add") [acc, x] >>= fun _ => pure ()) >>= fun _ =>
          again (.compLoop (.SetComp elt [⟨target, iter, [], 0⟩] scope pos) 0 it acc env)) := by rfl
section
variable {prog : Program} {w : World} {A : Around} {s : Shared} {h₀ : Heap} {env : Env} {R : Result → Shared → Prop}
theorem compStart_set {elt target iter ifs scope pos it acc}
    (h0 : codeAny (model prog w) A (.compLoop (.SetComp elt [⟨target, iter, ifs, 0⟩] scope pos) 0 it acc env) R s)
    (h : wpAny (model prog w) A (pyIter it) (fun it' s' => codeAny (model prog w) A (.compLoop (.SetComp elt [⟨target, iter, ifs, 0⟩] scope pos) 0 it' acc env) R s')
      (notedBy (model prog w) A env fun x s' => R (.error x) s') s) :
    codeAny (model prog w) A (.compStart (.SetComp elt [⟨target, iter, ifs, 0⟩] scope pos) 0 it acc env) R s := by
  refine codeAny_of_tree ?_
  show wpAny _ _ ((compStart (.SetComp elt [⟨target, iter, ifs, 0⟩] scope pos) 0 it acc env).onRaise (fun x => do noteFrame x env; standAt theWindowsPlace)) _ _ s
  refine wpAny_notedAt ?_
  unfold compStart
  show wpAny _ _ (ask >>= _) _ _ s
  refine wpAny_bind (wpAny_askSetting (wpAny_ite ?_))
  split
  · first
      | exact wpAny_bind (wpAny_pure (wpAny_pure (And.intro rfl h0)))
      | exact wpAny_pure (And.intro rfl h0)
  · first
      | exact wpAny_bind (wpAny_rule (wpAny_bind (wpAny_standAt (wpAny_bind (wpAny_mono h (fun it' s' h' => wpAny_pure (And.intro rfl h')) fun _ _ x => x)))))
      | (refine wpAny_bind (wpAny_rule ?_); show wpAny _ _ (standAt iter.pos >>= _) _ _ s; exact wpAny_bind (wpAny_standAt (wpAny_bind (wpAny_mono h (fun it' s' h' => wpAny_pure (And.intro rfl h')) fun _ _ x => x))))
theorem compLoop_set {elt iter : Expr} {x : Str} {px : Pos} {scope : Scope} {pos : Pos} {it acc : Value} (I : Nat → Shared → Prop)
    (turn : ∀ n s, I n s → wpAny (model prog w) A (pyNext it) (fun r s₁ => match r with
      | none => R (.ok .next) s₁
      | some v => wpAny (model prog w) A (assign (.Name x px) env v) (fun _ s₂ => wpAny (model prog w) A (eval elt env) (fun y s₃ =>
          wpAny (model prog w) A (call (.builtin "set.add") [acc, y]) (fun _ s₄ => ∃ m, m < n ∧ I m s₄) No s₃) No s₂) No s₁) No s)
    (n : Nat) (h : I n s) : codeAny (model prog w) A (.compLoop (.SetComp elt [⟨.Name x px, iter, [], 0⟩] scope pos) 0 it acc env) R s := by
  refine codeAny_loop rfl I (fun n s hI => ?_) n h
  show wpAny _ A ((compTurn (.SetComp elt [⟨.Name x px, iter, [], 0⟩] scope pos) 0 it acc env).onRaise (fun x => do noteFrame x env; theTreesLotGoes x)) _ _ s
  refine wpAny_noted ?_
  rw [compTurn_set]
  refine wpAny_bind (wpAny_standAt (wpAny_bind (wpAny_mono (turn n s hI) (fun r s₁ h₁ => ?_) fun _ _ h' => h'.elim)))
  cases r with
  | none => exact wpAny_pure h₁
  | some v =>
    refine wpAny_bind (wpAny_of_eq (a := ()) rfl ?_)
    refine wpAny_bind (wpAny_mono h₁ (fun _ s₂ h₂ => wpAny_bind (wpAny_bind (wpAny_mono h₂ (fun y s₃ h₃ => wpAny_bind (wpAny_standAt (wpAny_bind (wpAny_mono h₃ (fun _ s₄ h₄ => wpAny_pure (wpAny_pure ⟨rfl, h₄⟩)) fun _ _ h' => h'.elim)))) fun _ _ h' => h'.elim))) fun _ _ h' => h'.elim)
end
section
variable {w : World} {A : Around} {s : Shared} {h₀ : Heap} {env : Env} {n : Nat} {At : Nat → Value → List (Addr × Obj) → Prop} {St : Nat → List (Addr × Obj) → Prop} {Src : List (Addr × Obj) → Prop} {it : Value}
theorem setBlock {elt iter : Expr} {x : Str} {px : Pos} {scope : Scope} {cl : List (Str × Addr)} {pos : Pos} {L : Addr} {m : Str → Option Value} {its news : List (Addr × Obj)} {RR : Value → Addr → Result → Shared → Prop}
    (I : ItL PR w A h₀ it n At St Src) (X : Led h₀ L s.heap m (its ++ news)) (hst : St 0 its) (hsrc : Src news) (hn : 0 < n)
    (hcell : ∀ y ∈ scope.names, y.2 ≠ .cell) (hkind : scope.kind = .function) (hx : scope.names.lookup x = some .local)
    (hext : ∀ i v extra, At i v extra → extra = [])
    (turn : ∀ i v its₁ h₁ tk₁ mC C D oL oS, i < n → At i v [] → St (i + 1) its₁ → mC x = some v → TI.Caller h₀ L m oL → Led h₀ C h₁ mC ((L, oL) :: (D, oS) :: (its₁ ++ news)) →
      wpAny (model PR w) A (eval elt (compEnvC scope cl C env)) (fun y s₄ => y = .bool true ∧ ∃ h' tk, s₄ = { s with heap := h', toks := tk } ∧ Led h₀ C h' mC ((L, oL) :: (D, oS) :: (its₁ ++ news))) No { s with heap := h₁, toks := tk₁ })
    (fin : ∀ D C oC mC h₁ tk₁, LCg.NsObj oC mC → Led h₀ L h₁ m ((C, oC) :: (D, set1 (!byText w)) :: news) → RR (.ref D) C (.ok .next) { s with heap := h₁, toks := tk₁ }) :
    wpAny (model PR w) A (newSet (.type "set")) (fun acc s₃ => wpAny (model PR w) A (newFunctionEnv scope env.globals cl [] env.qual none .none (some env)) (fun cenv s₄ =>
      codeAny (model PR w) A (.compStart (.SetComp elt [⟨.Name x px, iter, [], 0⟩] scope pos) 0 it acc { cenv with scope := relabel scope env }) (RR acc cenv.locals) s₄) No s₃) No s := by
  refine newSetL X (fun D h₁ X₁ => ?_)
  refine wpAny_newFunctionEnv hcell (by intro y hy; simp at hy) (fun h₂ hns hsb => ?_) hkind
  dsimp only at hns hsb ⊢
  generalize hC : h₁.objs.size = C at hns hsb ⊢
  have hab : h₀.objs.size ≤ C := by rw [← hC]; exact Nat.le_trans X₁.fr.above (Nat.le_of_lt X₁.fr.ns.lt)
  obtain ⟨oC, hoC, heC⟩ := LCg.ns_obj hns
  have X₂ : Led h₀ L h₂ m ((C, oC) :: (D, set0 (!byText w)) :: (its ++ news)) := by
    have := X₁.more (h' := h₂) (o := oC) (fun b o e => hsb.extBut b o (by rw [← hC]; exact Nat.ne_of_lt (Heap.lt_size e)) (Heap.get?_push_of_some _ e)) (by rw [hC]; exact hoC)
    rw [hC] at this
    exact this
  obtain ⟨oL, KL, X₃⟩ := X₂.inner heC hab
  clear X₂ hoC heC
  let oS : Nat → Obj := fun i => if i = 0 then set0 (!byText w) else set1 (!byText w)
  have loop : ∀ s₃ : Shared, s₃ = { s with heap := h₂, toks := s.toks + ([] : List (Str × Value)).length } →
      codeAny (model PR w) A (.compLoop (.SetComp elt [⟨.Name x px, iter, [], 0⟩] scope pos) 0 it (.ref D) (compEnvC scope cl C env)) (RR (.ref D) C) s₃ := by
    rintro s₃ rfl
    obtain ⟨P, hP⟩ : ∃ P : Nat → Shared → Prop, P = fun k s' => ∃ i h' tk mC' its', s' = { s with heap := h', toks := tk } ∧ i ≤ n ∧ k = n + 1 - i ∧ St i its' ∧ Led h₀ C h' mC' ((L, oL) :: (D, oS i) :: (its' ++ news)) := ⟨_, rfl⟩
    refine compLoop_set P ?_ (n + 1)
      (by rw [hP]; exact ⟨0, h₂, _, _, its, rfl, Nat.zero_le _, rfl, hst, X₃⟩)
    intro k s' hs
    rw [hP] at hs
    obtain ⟨i, h', tk, mC', its', rfl, hi, rfl, hst', X'⟩ := hs
    have next : ∀ {h₅ tk₅ mC₅ its₅}, i < n → St (i + 1) its₅ → Led h₀ C h₅ mC₅ ((L, oL) :: (D, oS (i + 1)) :: (its₅ ++ news)) → ∃ m_1, m_1 < n + 1 - i ∧ P m_1 { s with heap := h₅, toks := tk₅ } := fun {h₅ tk₅ mC₅ its₅} hlt a b =>
      ⟨n + 1 - (i + 1), by omega, by rw [hP]; exact ⟨i + 1, h₅, tk₅, mC₅, its₅, rfl, hlt, rfl, a, b⟩⟩
    clear hP
    have toF : ∀ {its : List (Addr × Obj)} {o : Obj}, List.Perm ((L, oL) :: (D, o) :: (its ++ news)) (its ++ ((L, oL) :: (D, o) :: news)) := fun {its} {o} => by
      refine List.Perm.trans ?_ (List.perm_append_comm (l₁ := (L, oL) :: (D, o) :: news) (l₂ := its))
      exact .cons _ (.cons _ List.perm_append_comm)
    have XP := X'.perm toF
    have hS' : Src ((L, oL) :: (D, oS i) :: news) := I.mono _ _ hsrc fun p hp => .tail _ (.tail _ hp)
    by_cases hlt : i < n
    · refine I.item i _ _ mC' its' _ _ _ hlt hst' hS' XP fun v its₂ extra h₃ tk₃ hv hst₂ X₄ => ?_
      obtain rfl := hext _ _ _ hv
      have X₅ : Led h₀ (compEnvC scope cl C env).locals h₃ mC' ((L, oL) :: (D, oS i) :: (its₂ ++ news)) := X₄.perm toF.symm
      refine wpAny_assign_Name (storeL X₅ (fun h₄ X₆ => ?_) (by simp [compEnvC, relabel, hkind]) (lookup_relabel_local hx))
      refine wpAny_mono (turn i v its₂ h₄ _ _ C D oL _ hlt hv hst₂ st_eq KL X₆) (fun y s₃ h₃ => ?_) fun _ _ x => x.elim
      obtain ⟨rfl, h₅, tk₅, rfl, X₇⟩ := h₃
      by_cases h0 : i = 0
      · subst h0
        refine add_true0 (led := !byText w) X₇ (.tail .head) (fun h₆ X₈ => ?_)
        exact next hlt hst₂ X₈
      · have eS : oS i = set1 (!byText w) := if_neg h0
        have eS' : oS (i + 1) = set1 (!byText w) := if_neg (Nat.succ_ne_zero i)
        rw [eS] at X₇
        refine add_true1 (led := !byText w) X₇ (.tail _ (.head _)) ?_
        exact next hlt hst₂ (by rw [eS']; exact X₇)
    · obtain rfl : i = n := by omega
      refine I.stop _ _ mC' its' _ _ _ hst' hS' XP fun h₃ tk₃ X₄ => ?_
      obtain ⟨oC', hC', X₅⟩ := (show Led h₀ C h₃ mC' ((L, { oL with slots := oL.slots }) :: (D, oS i) :: news) from X₄).outer KL
      have eS : oS i = set1 (!byText w) := if_neg (by omega)
      rw [eS] at X₅
      exact fin D C oC' mC' h₃ tk₃ hC' X₅
  have hS₃ : Src ((L, oL) :: (D, set0 (!byText w)) :: news) := I.mono _ _ hsrc fun p hp => .tail _ (.tail _ hp)
  refine compStart_set (loop _ rfl) (I.self 0 _ _ _ its _ _ _ hst hS₃ (X₃.perm ?_) (loop _ rfl))
  refine List.Perm.trans ?_ (List.perm_append_comm (l₁ := (L, oL) :: (D, set0 (!byText w)) :: news) (l₂ := its))
  exact .cons _ (.cons _ List.perm_append_comm)
noncomputable def SetAsk (w : World) (A : Around) (h₀ : Heap) (L : Addr) (m : Str → Option Value) (env : Env) (elt : Expr) (x : Str) (scope : Scope) (cl : List (Str × Addr)) (Q : Value → Shared → Prop) (it : Value) (s₂ : Shared) : Prop :=
  ∃ n At St Src its news, ItL PR w A h₀ it n At St Src ∧ Led h₀ L s₂.heap m (its ++ news) ∧ St 0 its ∧ Src news ∧ 0 < n ∧ (∀ i v extra, At i v extra → extra = []) ∧
      (∀ i v its₁ h₁ tk₁ mC C D oL oS, i < n → At i v [] → St (i + 1) its₁ → mC x = some v → TI.Caller h₀ L m oL → Led h₀ C h₁ mC ((L, oL) :: (D, oS) :: (its₁ ++ news)) →
        Wp w A (eval elt (compEnvC scope cl C env)) (fun y s₄ => y = .bool true ∧ ∃ h' tk, s₄ = { s₂ with heap := h', toks := tk } ∧ Led h₀ C h' mC ((L, oL) :: (D, oS) :: (its₁ ++ news))) { s₂ with heap := h₁, toks := tk₁ }) ∧
      (∀ D h₁ tk₁, Led h₀ L h₁ m ((D, set1 (!byText w)) :: news) → Q (.ref D) { s₂ with heap := h₁, toks := tk₁ })
theorem SetAsk.mk {hp : Heap} {tk : Nat} {elt : Expr} {x : Str} {scope : Scope} {cl : List (Str × Addr)} {L : Addr} {m : Str → Option Value} {Q : Value → Shared → Prop} {it : Value} {n : Nat} {At : Nat → Value → List (Addr × Obj) → Prop} {St : Nat → List (Addr × Obj) → Prop} {Src : List (Addr × Obj) → Prop} {its news : List (Addr × Obj)}
    (I : ItL PR w A h₀ it n At St Src) (X : Led h₀ L hp m (its ++ news)) (hst : St 0 its) (hsrc : Src news) (hn : 0 < n) (hext : ∀ i v extra, At i v extra → extra = [])
    (turn : ∀ its₁ mC C D oL oS (K : Value → Shared → Prop), (∀ h' tk, Led h₀ C h' mC ((L, oL) :: (D, oS) :: (its₁ ++ news)) → K (.bool true) { s with heap := h', toks := tk }) →
      ∀ i v h₁ tk₁, i < n → At i v [] → St (i + 1) its₁ → mC x = some v → TI.Caller h₀ L m oL → Led h₀ C h₁ mC ((L, oL) :: (D, oS) :: (its₁ ++ news)) → Wp w A (eval elt (compEnvC scope cl C env)) K { s with heap := h₁, toks := tk₁ })
    (fin : ∀ D h₁ tk₁, Led h₀ L h₁ m ((D, set1 (!byText w)) :: news) → Q (.ref D) { s with heap := h₁, toks := tk₁ }) : SetAsk w A h₀ L m env elt x scope cl Q it { s with heap := hp, toks := tk } :=
  ⟨n, At, St, Src, its, news, I, X, hst, hsrc, hn, hext, fun i v its₁ h₁ tk₁ mC C D oL oS a b c d e f =>
    turn its₁ mC C D oL oS (fun y s₄ => y = .bool true ∧ ∃ h' tk, s₄ = { s with heap := h', toks := tk } ∧ Led h₀ C h' mC ((L, oL) :: (D, oS) :: (its₁ ++ news))) (fun h' tk z => ⟨rfl, h', tk, rfl, z⟩) i v h₁ tk₁ a b c d e f, fin⟩
theorem Wp.setComp {elt iter : Expr} {x : Str} {px : Pos} {scope : Scope} {cl : List (Str × Addr)} {pos : Pos} {L : Addr} {m : Str → Option Value} {Q : Value → Shared → Prop} {news₀ : List (Addr × Obj)}
    (hclos : closureFor scope env = pure cl) (hkind : scope.kind = .function) (hnames : ∀ y ∈ scope.names, y.2 = .local → scope.names.lookup y.1 = some .local)
    (hcell : ∀ y ∈ scope.names, y.2 ≠ .cell) (hx : scope.names.lookup x = some .local) (hs : ∀ x, foldedSetIterable iter env x = pure x) (_ : Led h₀ L s.heap m news₀)
    (h : Wp w A (eval iter env) (fun v s₁ => Wp w A (pyIter v) (SetAsk w A h₀ L m env elt x scope cl Q) s₁) s) :
    Wp w A (eval (.SetComp elt [⟨.Name x px, iter, [], 0⟩] scope pos) env) Q s := by
  refine ⟨?_⟩
  rw [arm_eval_SetComp]
  refine wpAny_comprehension_free (use := none) rfl hs hclos hkind hnames (wpAny_mono h.out (fun xv s₁ h₁ => wpAny_mono h₁.out (fun it s₂ h₂ => ?_) fun _ _ e => e) fun _ _ e => e)
  obtain ⟨n, At, St, Src, its, news, I, X, hst, hsrc, hn, hext, turn, fin⟩ := h₂
  refine setBlock I X hst hsrc hn hcell hkind hx hext (fun i v its₁ h₁ tk₁ mC C D oL oS a b c d e f => (turn i v its₁ h₁ tk₁ mC C D oL oS a b c d e f).out) (fun D C oC mC h₁ tk₁ hC X₁ => ?_)
  exact ⟨mC, hC.ns (X₁.get (.head _)), fun h' hs' => fin D h' tk₁ (X₁.but hs'.extBut)⟩
end
end Mine
end

section
open PySem PySem.W PyProof.Rows PySem.Calls PySem.Spec
open AutoSeq1 (wpAny_loadPart')
open MeetsSeq3 (plain_eq_loop entry_eq_loop)
set_option maxRecDepth 100000
set_option linter.unusedVariables false
set_option maxHeartbeats 2000000
namespace Mine
noncomputable def strLt (a b : Str) : Bool := decide (a.cps.toList < b.cps.toList)
noncomputable def lexOp (gt : Bool) (l : List Str) : List Str → Bool :=
  @List.rec Str (fun _ => List Str → Bool) (fun m => @List.rec Str (fun _ => Bool) false (fun _ _ _ => !gt) m) (fun a _ ih m => @List.rec Str (fun _ => Bool) gt (fun b t _ => if a = b then ih t else if gt then strLt b a else strLt a b) m) l
theorem lexOp_nn {gt : Bool} : lexOp gt [] [] = false := rfl
theorem lexOp_nc {gt : Bool} {b : Str} {t : List Str} : lexOp gt [] (b :: t) = !gt := rfl
theorem lexOp_cn {gt : Bool} {a : Str} {r : List Str} : lexOp gt (a :: r) [] = gt := rfl
theorem lexOp_cc {gt : Bool} {a b : Str} {r t : List Str} : lexOp gt (a :: r) (b :: t) = if a = b then lexOp gt r t else if gt then strLt b a else strLt a b := rfl
theorem lexOp_same {gt : Bool} {a : Str} {r t : List Str} : lexOp gt (a :: r) (a :: t) = lexOp gt r t := if_pos rfl
theorem lexOp_diff {gt : Bool} {a b : Str} {r t : List Str} (h : a ≠ b) : lexOp gt (a :: r) (b :: t) = if gt then strLt b a else strLt a b := if_neg h
noncomputable def opOf (gt : Bool) : CmpOp := if gt then .Gt else .Lt
noncomputable def codeOf (gt : Bool) : Int := if gt then 4 else 0
section
variable {prog : Program} {w : World} {A : Around} {E : Value → Shared → Prop} {s : Shared}
theorem rcStr (gt : Bool) {x y : Str} {t u : Tok} {Q : Value → Shared → Prop} (h : Q (.bool (if gt then strLt y x else strLt x y)) s) : wpAny (model prog w) A (richCompare (opOf gt) (.str x t) (.str y u)) Q E s := by
  cases gt
  · exact P.lt_str h
  · exact P.gt_str h
theorem lex_nil (gt : Bool) (m n : Nat) (xs ys : List Str) (i : Nat) (hx : xs.length = m) (hy : ys.length = n) (h : m ≤ i ∨ n ≤ i) (hp : xs.take i = ys.take i) :
    lexOp gt (xs.drop i) (ys.drop i) = if gt then decide (m > n) else decide (m < n) := by
  subst hx hy
  have hl := congrArg List.length hp
  rw [List.length_take, List.length_take] at hl
  rcases Nat.lt_or_ge i xs.length with h1 | h1
  · have h2 := h.resolve_left (Nat.not_le_of_lt h1)
    have h3 := Nat.lt_of_le_of_lt h2 h1
    rw [List.drop_of_length_le h2, List.drop_eq_getElem_cons h1, lexOp_cn]
    cases gt
    · exact (decide_eq_false (Nat.lt_asymm h3)).symm
    · exact (decide_eq_true h3).symm
  · rw [List.drop_of_length_le h1]
    rcases Nat.lt_or_ge i ys.length with h2 | h2
    · have h3 := Nat.lt_of_le_of_lt h1 h2
      rw [List.drop_eq_getElem_cons h2, lexOp_nc]
      cases gt
      · exact (decide_eq_true h3).symm
      · exact (decide_eq_false (Nat.lt_asymm h3)).symm
    · rw [Nat.min_eq_right h1, Nat.min_eq_right h2] at hl
      rw [List.drop_of_length_le h2, lexOp_nn, hl]
      cases gt
      · exact (decide_eq_false (Nat.lt_irrefl _)).symm
      · exact (decide_eq_false (Nat.lt_irrefl _)).symm
theorem lex_loop (gt : Bool) (l b : Addr) (ts us : List (Str × Tok)) (n n2 : Nat) (k : Nat) :
    ∀ i : Nat, ts.length - i = k → (ts.map (·.1)).take i = (us.map (·.1)).take i → Meets (Builtin.«list.__eq__.loop» ⟨[.ref l, .ref b, rawInt i, rawInt (codeOf gt)], []⟩)
      (fun _ R s => s.heap.get? l = some (SL ts n) ∧ s.heap.get? b = some (SL us n2) ∧
        R (.ok (.ret (.bool (lexOp gt ((ts.map (·.1)).drop i) ((us.map (·.1)).drop i))))) s) := by
  have ends : ∀ i : Nat, (ts.length ≤ i ∨ us.length ≤ i) → (ts.map (·.1)).take i = (us.map (·.1)).take i → Meets (Builtin.«list.__eq__.loop» ⟨[.ref l, .ref b, rawInt i, rawInt (codeOf gt)], []⟩)
      (fun _ R s => s.heap.get? l = some (SL ts n) ∧ s.heap.get? b = some (SL us n2) ∧
        R (.ok (.ret (.bool (lexOp gt ((ts.map (·.1)).drop i) ((us.map (·.1)).drop i))))) s) := by
    intro i hi hp prog w A R s h
    obtain ⟨hp', g, d, tk, os⟩ := s; obtain ⟨hl, hb, h⟩ := h
    rw [lex_nil gt ts.length us.length (ts.map (·.1)) (us.map (·.1)) i (by simp) (by simp) hi hp] at h
    have e1 : ∀ (x : Value) , ((ts.map vstr).toArray[((i : Nat) : Int).toNat]?, (us.map vstr).toArray[((i : Nat) : Int).toNat]?) ≠ (some x, some x) → True := fun _ _ => trivial
    cases gt
    · wp_walk using wpAny_loadPart' hl, wpAny_loadPart' hb
      rcases hi with hi | hi
      · rw [show (ts.map vstr).toArray[((i : Nat) : Int).toNat]? = none by simp; omega]
        wp_walk using wpAny_loadPart' hl, wpAny_loadPart' hb
        show R (.ok (.ret (.bool (decide ((ts.map vstr).toArray.size < (us.map vstr).toArray.size))))) _
        simpa using h
      · rw [show (us.map vstr).toArray[((i : Nat) : Int).toNat]? = none by simp; omega]
        cases (ts.map vstr).toArray[((i : Nat) : Int).toNat]?
        · wp_walk using wpAny_loadPart' hl, wpAny_loadPart' hb
          show R (.ok (.ret (.bool (decide ((ts.map vstr).toArray.size < (us.map vstr).toArray.size))))) _
          simpa using h
        · wp_walk using wpAny_loadPart' hl, wpAny_loadPart' hb
          show R (.ok (.ret (.bool (decide ((ts.map vstr).toArray.size < (us.map vstr).toArray.size))))) _
          simpa using h
    · wp_walk using wpAny_loadPart' hl, wpAny_loadPart' hb
      rcases hi with hi | hi
      · rw [show (ts.map vstr).toArray[((i : Nat) : Int).toNat]? = none by simp; omega]
        wp_walk using wpAny_loadPart' hl, wpAny_loadPart' hb
        show R (.ok (.ret (.bool (decide ((ts.map vstr).toArray.size > (us.map vstr).toArray.size))))) _
        simpa using h
      · rw [show (us.map vstr).toArray[((i : Nat) : Int).toNat]? = none by simp; omega]
        cases (ts.map vstr).toArray[((i : Nat) : Int).toNat]?
        · wp_walk using wpAny_loadPart' hl, wpAny_loadPart' hb
          show R (.ok (.ret (.bool (decide ((ts.map vstr).toArray.size > (us.map vstr).toArray.size))))) _
          simpa using h
        · wp_walk using wpAny_loadPart' hl, wpAny_loadPart' hb
          show R (.ok (.ret (.bool (decide ((ts.map vstr).toArray.size > (us.map vstr).toArray.size))))) _
          simpa using h
  induction k with
  | zero => exact fun i hk hp => ends i (.inl (by omega)) hp
  | succ k ih =>
    intro i hk hp
    rcases Nat.lt_or_ge i us.length with h2 | h2
    case inr => exact ends i (.inr h2) hp
    intro prog w A R s h
    obtain ⟨hp', g, d, tk, os⟩ := s; obtain ⟨hl, hb, h⟩ := h
    have h1 : i < ts.length := by omega
    have g1 : (ts.map vstr).toArray[((i : Nat) : Int).toNat]? = some (vstr ts[i]) := by simp [h1]
    have g2 : (us.map vstr).toArray[((i : Nat) : Int).toNat]? = some (vstr us[i]) := by simp [h2]
    have d1 : (ts.map (·.1)).drop i = ts[i].1 :: (ts.map (·.1)).drop (i + 1) := by rw [List.drop_eq_getElem_cons (by simpa using h1)]; simp
    have d2 : (us.map (·.1)).drop i = us[i].1 :: (us.map (·.1)).drop (i + 1) := by rw [List.drop_eq_getElem_cons (by simpa using h2)]; simp
    have hc : ((i : Int) + 1) = ((i + 1 : Nat) : Int) := by push_cast; rfl
    rw [d1, d2, lexOp_cc] at h
    have again' : ts[i].1 = us[i].1 → (ts.map (·.1)).take (i + 1) = (us.map (·.1)).take (i + 1) := fun e => by
      rw [List.take_add_one, List.take_add_one, hp]
      congr 1
      simp [h1, h2, e]
    cases gt
    · wp_walk using wpAny_loadPart' hl, wpAny_loadPart' hb
      rw [g1, g2]
      refine wpAny_bind (wpAny_eqBool_str ?_)
      by_cases e : ts[i].1 = us[i].1
      · rw [if_pos e] at h
        rw [decide_eq_true e]
        wp_walk
        rw [hc]
        exact ⟨plainId_quiet plain_eq_loop _, codeAny_builtin entry_eq_loop (by
          rw [Around.under_plainId plain_eq_loop _]
          exact ih (i + 1) (by omega) (again' e) prog w A R _ ⟨hl, hb, h⟩)⟩
      · rw [if_neg e] at h
        rw [decide_eq_false e]
        wp_walk using wpAny_loadPart' hl, wpAny_loadPart' hb
        rw [g1, g2]
        refine wpAny_bind (rcStr false ?_)
        wp_walk
        exact h
    · wp_walk using wpAny_loadPart' hl, wpAny_loadPart' hb
      rw [g1, g2]
      refine wpAny_bind (wpAny_eqBool_str ?_)
      by_cases e : ts[i].1 = us[i].1
      · rw [if_pos e] at h
        rw [decide_eq_true e]
        wp_walk
        rw [hc]
        exact ⟨plainId_quiet plain_eq_loop _, codeAny_builtin entry_eq_loop (by
          rw [Around.under_plainId plain_eq_loop _]
          exact ih (i + 1) (by omega) (again' e) prog w A R _ ⟨hl, hb, h⟩)⟩
      · rw [if_neg e] at h
        rw [decide_eq_false e]
        wp_walk using wpAny_loadPart' hl, wpAny_loadPart' hb
        rw [g1, g2]
        refine wpAny_bind (rcStr true ?_)
        wp_walk
        exact h
theorem list_ltM (l b : Addr) (ts us : List (Str × Tok)) (n n2 : Nat) :
    Meets (Builtin.«list.__lt__» ⟨[.ref l, .ref b], []⟩)
      (fun _ R s => s.heap.get? l = some (SL ts n) ∧ s.heap.get? b = some (SL us n2) ∧ R (.ok (.ret (.bool (lexOp false (ts.map (·.1)) (us.map (·.1)))))) s) := by
  intro prog w A R s h
  obtain ⟨hp, g, d, tk, os⟩ := s; obtain ⟨hl, hb, h⟩ := h
  have f3 := AutoSeq1.sub_list_list
  wp_walk using wpAny_loadPart' hl, wpAny_loadPart' hb
  exact ⟨plainId_quiet plain_eq_loop _, codeAny_builtin entry_eq_loop (by
    rw [Around.under_plainId plain_eq_loop _]
    exact lex_loop false l b ts us n n2 _ 0 rfl rfl prog w A R _ ⟨hl, hb, by simpa using h⟩)⟩
theorem list_gtM (l b : Addr) (ts us : List (Str × Tok)) (n n2 : Nat) :
    Meets (Builtin.«list.__gt__» ⟨[.ref l, .ref b], []⟩)
      (fun _ R s => s.heap.get? l = some (SL ts n) ∧ s.heap.get? b = some (SL us n2) ∧ R (.ok (.ret (.bool (lexOp true (ts.map (·.1)) (us.map (·.1)))))) s) := by
  intro prog w A R s h
  obtain ⟨hp, g, d, tk, os⟩ := s; obtain ⟨hl, hb, h⟩ := h
  have f3 := AutoSeq1.sub_list_list
  wp_walk using wpAny_loadPart' hl, wpAny_loadPart' hb
  exact ⟨plainId_quiet plain_eq_loop _, codeAny_builtin entry_eq_loop (by
    rw [Around.under_plainId plain_eq_loop _]
    exact lex_loop true l b ts us n n2 _ 0 rfl rfl prog w A R _ ⟨hl, hb, by simpa using h⟩)⟩
theorem rcLists (gt : Bool) {h₀ : Heap} {L : Addr} {m : Str → Option Value} {news : List (Addr × Obj)} {a b : Addr} {ts us : List (Str × Tok)} {n n2 : Nat} {Q : Value → Shared → Prop} (X : Led h₀ L s.heap m news) (ha : (a, SL ts n) ∈ news) (hb : (b, SL us n2) ∈ news) (hu : A.units < cLine)
    (h : Q (.bool (lexOp gt (ts.map (·.1)) (us.map (·.1)))) s) : wpAny (model prog w) A (richCompare (opOf gt) (.ref a) (.ref b)) Q E s := by
  have hTa : s.TypeIs (.ref a) "list" := ⟨_, X.get ha, rfl⟩
  have hTb : s.TypeIs (.ref b) "list" := ⟨_, X.get hb, rfl⟩
  cases gt
  · exact wpAny_richCompare_same_room (op := .Lt) hTa hTb F.slot_list_lt (call_meets F.slot_list_lt hTa F.entry_list_lt (F.args_list_lt_2 _ _) (list_ltM a b ts us n n2) ⟨X.get ha, X.get hb, (fun e => nomatch e), h⟩) hu
  · exact wpAny_richCompare_same_room (op := .Gt) hTa hTb F.slot_list_gt (call_meets F.slot_list_gt hTa F.entry_list_gt (F.args_list_gt_2 _ _) (list_gtM a b ts us n n2) ⟨X.get ha, X.get hb, (fun e => nomatch e), h⟩) hu
end
end Mine
end

section
open PySem PySem.W PyProof.Rows PySem.Calls PySem.Spec
set_option maxRecDepth 100000
set_option linter.unusedVariables false
set_option maxHeartbeats 2000000
namespace Mine
section
variable {w : World} {A : Around} {E : Value → Shared → Prop} {s : Shared} {h₀ : Heap} {L D : Addr} {m : Str → Option Value} {news : List (Addr × Obj)}
theorem call_min2 {a b : Addr} {ts us : List (Str × Tok)} {n n1 n2 : Nat} {Q : Value → Shared → Prop} (hh : A.handled = none) (hu : A.units + 2 < cLine) (X : Led h₀ L s.heap m news) (hm : (D, listOf #[.ref a, .ref b] n) ∈ news) (ha : (a, SL ts n1) ∈ news) (hb : (b, SL us n2) ∈ news)
    (h : ∀ h' tk, Led h₀ L h' m news → Q (.ref (if lexOp false (us.map (·.1)) (ts.map (·.1)) then b else a)) { s with heap := h', toks := tk }) : wpAny (model PR w) A (call (.builtin "min") [.ref D]) Q E s := by
  have hname : (toString "min" ++ toString ".loop" : String) = "min.loop" := by decide
  refine call_function_tree F.kind_min F.plain_min F.entry_min (F.args_min1 _) ?_
  show wpAny _ A.in1 (Builtin.Builtins.bindParams "min" ["key", "default"] 0 ⟨[], []⟩ >>= _) _ _ s
  refine wpAny_bind (wpAny_of_eq (show Builtin.Builtins.bindParams "min" ["key", "default"] 0 ⟨[], []⟩ = pure [none, none] from rfl) ?_)
  refine wpAny_bind (wpAny_pure ?_)
  refine wpAny_bind (iterList X hm fun I h1 ent hI X1 => ?_)
  refine wpAny_bind (wpAny_newObj_type ?_)
  have X2 := X1.more (h' := h1.push (listOf #[] 0)) (fun _ _ e => Heap.get?_push_of_some _ e) (Heap.get?_push_size _ rfl)
  rw [hname]
  generalize hS : h1.objs.size = S at X2
  have J : ItL PR w A.in1 h₀ (.ref I) (#[Value.ref a, .ref b] : Array Value).size (AtSeq #[.ref a, .ref b]) (ItSt "list_iterator" I D) (SrcIn h₀ "list" D #[.ref a, .ref b]) := itList (A := A.in1) hh I D #[.ref a, .ref b]
  have src : ∀ (o : Obj), SrcIn h₀ "list" D #[.ref a, .ref b] ((S, o) :: news) := fun o => srcL (.tail _ hm)
  have pm : ∀ {its : List (Addr × Obj)} {o : Obj}, List.Perm (its ++ ((S, o) :: news)) ((S, o) :: (its ++ news)) := List.perm_middle
  have end' : ∀ (v : Value) (c : Nat) (its : List (Addr × Obj)) (h2 : Heap) (tk : Nat), ItSt "list_iterator" I D 2 its → Led h₀ L h2 m ((S, listOf #[v, v] c) :: (its ++ news)) →
      (∀ h' tk, Led h₀ L h' m news → Q v { s with heap := h', toks := tk }) →
      codeAny (model PR w) A (.builtin "min.loop" ⟨[.ref I, .none, .ref S], []⟩) (fun r s' => match r with | .ok (.ret v) => Q v s' | .ok _ => False | .error e => E e s') { s with heap := h2, toks := tk } := by
    intro v c its h2 tk hst X3 hQ
    refine codeAny_builtin F.entry_min_loop ?_
    rw [Around.under_plainId F.plain_min_loop _]
    show wpAny _ A.in1 (seqItems? (.ref S) >>= _) _ _ _
    refine wpAny_bind (wpAny_seqItems (X3.get (.head _)) rfl ?_)
    show wpAny _ A.in1 (tryCatch (pyNext (.ref I)) _ >>= _) _ _ _
    refine wpAny_bind (wpAny_tryCatch (J.stop _ _ _ its _ _ _ hst (src _) (X3.perm pm.symm) fun h3 tk3 X4 => ?_))
    show wpAny _ A.in1 (updateSeq S (fun _ => #[]) >>= _) _ _ _
    refine wpAny_bind (updSeqL X4 .head (by simp) (by simp) fun h4 X5 => ?_)
    exact wpAny_bind (wpAny_letGo (wpAny_pure (hQ _ _ (X5.sub (.cons _ (List.Sublist.refl _))))))
  refine wpAny_pure ⟨plainId_quiet F.plain_min_loop _, ?_⟩
  -- first item
  refine codeAny_builtin F.entry_min_loop ?_
  rw [Around.under_plainId F.plain_min_loop _]
  show wpAny _ A.in1 (seqItems? (.ref S) >>= _) _ _ _
  refine wpAny_bind (wpAny_seqItems (X2.get (.head _)) rfl ?_)
  show wpAny _ A.in1 (tryCatch (pyNext (.ref I)) _ >>= _) _ _ _
  refine wpAny_bind (wpAny_tryCatch (J.item 0 _ _ _ ent _ _ _ (by simp) hI (src _) (X2.perm pm.symm) fun v its1 extra h2 tk2 hv hst1 X3 => ?_))
  obtain ⟨hv, rfl⟩ := hv
  obtain rfl : v = .ref a := by simpa using hv.symm
  show wpAny _ A.in1 (updateSeq S (fun _ => #[.ref a, .ref a]) >>= _) _ _ _
  have X4 : Led h₀ L h2 m ((S, listOf #[] 0) :: (its1 ++ news)) := X3.perm pm
  refine wpAny_bind (updSeqL X4 .head (by simp) (by simp) fun h3 X5 => ?_)
  obtain ⟨c1, X5⟩ : ∃ c, Led h₀ L h3 m ((S, listOf #[.ref a, .ref a] c) :: (its1 ++ news)) := ⟨_, X5⟩
  rw [hname]
  refine wpAny_pure ⟨plainId_quiet F.plain_min_loop _, ?_⟩
  -- second item
  refine codeAny_builtin F.entry_min_loop ?_
  rw [Around.under_plainId F.plain_min_loop _]
  show wpAny _ A.in1 (seqItems? (.ref S) >>= _) _ _ _
  refine wpAny_bind (wpAny_seqItems (X5.get (.head _)) rfl ?_)
  show wpAny _ A.in1 (tryCatch (pyNext (.ref I)) _ >>= _) _ _ _
  refine wpAny_bind (wpAny_tryCatch (J.item 1 _ _ _ its1 _ _ _ (by simp) hst1 (src _) (X5.perm pm.symm) fun v its2 extra h4 tk4 hv hst2 X6 => ?_))
  obtain ⟨hv, rfl⟩ := hv
  obtain rfl : v = .ref b := by simpa using hv.symm
  have X7 : Led h₀ L h4 m ((S, listOf #[.ref a, .ref a] c1) :: (its2 ++ news)) := X6.perm pm
  show wpAny _ A.in1 (tryCatch (holding [.ref b, .ref b] (richCompare .Lt (.ref b) (.ref a) >>= _)) _ >>= _) _ _ _
  refine wpAny_bind (wpAny_tryCatch (wpAny_holding (wpAny_bind (rcLists false X7 (.tail _ (List.mem_append_right _ hb)) (.tail _ (List.mem_append_right _ ha)) (by show A.units + 1 < cLine; omega) ?_))))
  refine wpAny_bind (wpAny_holding (wpAny_truthy_bool ?_))
  refine wpAny_bind (wpAny_letGo (wpAny_pure ?_))
  cases hlt : lexOp false (us.map (·.1)) (ts.map (·.1)) with
  | true =>
    simp only [if_true]
    rw [hlt, if_pos rfl] at h
    refine wpAny_bind (updSeqL X7 .head (by simp) (by simp) fun h5 X8 => ?_)
    obtain ⟨c2, X8⟩ : ∃ c, Led h₀ L h5 m ((S, listOf #[.ref b, .ref b] c) :: (its2 ++ news)) := ⟨_, X8⟩
    refine wpAny_bind (wpAny_letGo ?_)
    rw [hname]
    exact wpAny_pure ⟨plainId_quiet F.plain_min_loop _, end' (.ref b) c2 its2 h5 _ hst2 X8 h⟩
  | false =>
    simp only [Bool.false_eq_true, if_false]
    rw [hlt, if_neg Bool.false_ne_true] at h
    refine wpAny_bind (wpAny_letGo ?_)
    rw [hname]
    exact wpAny_pure ⟨plainId_quiet F.plain_min_loop _, end' (.ref a) c1 its2 h4 _ hst2 X7 h⟩
theorem call_max2 {a b : Addr} {ts us : List (Str × Tok)} {n n1 n2 : Nat} {Q : Value → Shared → Prop} (hh : A.handled = none) (hu : A.units + 2 < cLine) (X : Led h₀ L s.heap m news) (hm : (D, listOf #[.ref a, .ref b] n) ∈ news) (ha : (a, SL ts n1) ∈ news) (hb : (b, SL us n2) ∈ news)
    (h : ∀ h' tk, Led h₀ L h' m news → Q (.ref (if lexOp true (us.map (·.1)) (ts.map (·.1)) then b else a)) { s with heap := h', toks := tk }) : wpAny (model PR w) A (call (.builtin "max") [.ref D]) Q E s := by
  have hname : (toString "max" ++ toString ".loop" : String) = "max.loop" := by decide
  refine call_function_tree F.kind_max F.plain_max F.entry_max (F.args_max1 _) ?_
  show wpAny _ A.in1 (Builtin.Builtins.bindParams "max" ["key", "default"] 0 ⟨[], []⟩ >>= _) _ _ s
  refine wpAny_bind (wpAny_of_eq (show Builtin.Builtins.bindParams "max" ["key", "default"] 0 ⟨[], []⟩ = pure [none, none] from rfl) ?_)
  refine wpAny_bind (wpAny_pure ?_)
  refine wpAny_bind (iterList X hm fun I h1 ent hI X1 => ?_)
  refine wpAny_bind (wpAny_newObj_type ?_)
  have X2 := X1.more (h' := h1.push (listOf #[] 0)) (fun _ _ e => Heap.get?_push_of_some _ e) (Heap.get?_push_size _ rfl)
  rw [hname]
  generalize hS : h1.objs.size = S at X2
  have J : ItL PR w A.in1 h₀ (.ref I) (#[Value.ref a, .ref b] : Array Value).size (AtSeq #[.ref a, .ref b]) (ItSt "list_iterator" I D) (SrcIn h₀ "list" D #[.ref a, .ref b]) := itList (A := A.in1) hh I D #[.ref a, .ref b]
  have src : ∀ (o : Obj), SrcIn h₀ "list" D #[.ref a, .ref b] ((S, o) :: news) := fun o => srcL (.tail _ hm)
  have pm : ∀ {its : List (Addr × Obj)} {o : Obj}, List.Perm (its ++ ((S, o) :: news)) ((S, o) :: (its ++ news)) := List.perm_middle
  have end' : ∀ (v : Value) (c : Nat) (its : List (Addr × Obj)) (h2 : Heap) (tk : Nat), ItSt "list_iterator" I D 2 its → Led h₀ L h2 m ((S, listOf #[v, v] c) :: (its ++ news)) →
      (∀ h' tk, Led h₀ L h' m news → Q v { s with heap := h', toks := tk }) →
      codeAny (model PR w) A (.builtin "max.loop" ⟨[.ref I, .none, .ref S], []⟩) (fun r s' => match r with | .ok (.ret v) => Q v s' | .ok _ => False | .error e => E e s') { s with heap := h2, toks := tk } := by
    intro v c its h2 tk hst X3 hQ
    refine codeAny_builtin F.entry_max_loop ?_
    rw [Around.under_plainId F.plain_max_loop _]
    show wpAny _ A.in1 (seqItems? (.ref S) >>= _) _ _ _
    refine wpAny_bind (wpAny_seqItems (X3.get (.head _)) rfl ?_)
    show wpAny _ A.in1 (tryCatch (pyNext (.ref I)) _ >>= _) _ _ _
    refine wpAny_bind (wpAny_tryCatch (J.stop _ _ _ its _ _ _ hst (src _) (X3.perm pm.symm) fun h3 tk3 X4 => ?_))
    show wpAny _ A.in1 (updateSeq S (fun _ => #[]) >>= _) _ _ _
    refine wpAny_bind (updSeqL X4 .head (by simp) (by simp) fun h4 X5 => ?_)
    exact wpAny_bind (wpAny_letGo (wpAny_pure (hQ _ _ (X5.sub (.cons _ (List.Sublist.refl _))))))
  refine wpAny_pure ⟨plainId_quiet F.plain_max_loop _, ?_⟩
  -- first item
  refine codeAny_builtin F.entry_max_loop ?_
  rw [Around.under_plainId F.plain_max_loop _]
  show wpAny _ A.in1 (seqItems? (.ref S) >>= _) _ _ _
  refine wpAny_bind (wpAny_seqItems (X2.get (.head _)) rfl ?_)
  show wpAny _ A.in1 (tryCatch (pyNext (.ref I)) _ >>= _) _ _ _
  refine wpAny_bind (wpAny_tryCatch (J.item 0 _ _ _ ent _ _ _ (by simp) hI (src _) (X2.perm pm.symm) fun v its1 extra h2 tk2 hv hst1 X3 => ?_))
  obtain ⟨hv, rfl⟩ := hv
  obtain rfl : v = .ref a := by simpa using hv.symm
  show wpAny _ A.in1 (updateSeq S (fun _ => #[.ref a, .ref a]) >>= _) _ _ _
  have X4 : Led h₀ L h2 m ((S, listOf #[] 0) :: (its1 ++ news)) := X3.perm pm
  refine wpAny_bind (updSeqL X4 .head (by simp) (by simp) fun h3 X5 => ?_)
  obtain ⟨c1, X5⟩ : ∃ c, Led h₀ L h3 m ((S, listOf #[.ref a, .ref a] c) :: (its1 ++ news)) := ⟨_, X5⟩
  rw [hname]
  refine wpAny_pure ⟨plainId_quiet F.plain_max_loop _, ?_⟩
  -- second item
  refine codeAny_builtin F.entry_max_loop ?_
  rw [Around.under_plainId F.plain_max_loop _]
  show wpAny _ A.in1 (seqItems? (.ref S) >>= _) _ _ _
  refine wpAny_bind (wpAny_seqItems (X5.get (.head _)) rfl ?_)
  show wpAny _ A.in1 (tryCatch (pyNext (.ref I)) _ >>= _) _ _ _
  refine wpAny_bind (wpAny_tryCatch (J.item 1 _ _ _ its1 _ _ _ (by simp) hst1 (src _) (X5.perm pm.symm) fun v its2 extra h4 tk4 hv hst2 X6 => ?_))
  obtain ⟨hv, rfl⟩ := hv
  obtain rfl : v = .ref b := by simpa using hv.symm
  have X7 : Led h₀ L h4 m ((S, listOf #[.ref a, .ref a] c1) :: (its2 ++ news)) := X6.perm pm
  show wpAny _ A.in1 (tryCatch (holding [.ref b, .ref b] (richCompare .Gt (.ref b) (.ref a) >>= _)) _ >>= _) _ _ _
  refine wpAny_bind (wpAny_tryCatch (wpAny_holding (wpAny_bind (rcLists true X7 (.tail _ (List.mem_append_right _ hb)) (.tail _ (List.mem_append_right _ ha)) (by show A.units + 1 < cLine; omega) ?_))))
  refine wpAny_bind (wpAny_holding (wpAny_truthy_bool ?_))
  refine wpAny_bind (wpAny_letGo (wpAny_pure ?_))
  cases hlt : lexOp true (us.map (·.1)) (ts.map (·.1)) with
  | true =>
    simp only [if_true]
    rw [hlt, if_pos rfl] at h
    refine wpAny_bind (updSeqL X7 .head (by simp) (by simp) fun h5 X8 => ?_)
    obtain ⟨c2, X8⟩ : ∃ c, Led h₀ L h5 m ((S, listOf #[.ref b, .ref b] c) :: (its2 ++ news)) := ⟨_, X8⟩
    refine wpAny_bind (wpAny_letGo ?_)
    rw [hname]
    exact wpAny_pure ⟨plainId_quiet F.plain_max_loop _, end' (.ref b) c2 its2 h5 _ hst2 X8 h⟩
  | false =>
    simp only [Bool.false_eq_true, if_false]
    rw [hlt, if_neg Bool.false_ne_true] at h
    refine wpAny_bind (wpAny_letGo ?_)
    rw [hname]
    exact wpAny_pure ⟨plainId_quiet F.plain_max_loop _, end' (.ref a) c1 its2 h4 _ hst2 X7 h⟩
theorem Wp.min2 {hp0 : Heap} {tk0 : Nat} {a b : Addr} {ts us : List (Str × Tok)} {n n1 n2 : Nat} {Q : Value → Shared → Prop} (hh : A.handled = none) (hu : A.units + 2 < cLine) (X : Led h₀ L hp0 m news) (hm : (D, listOf #[.ref a, .ref b] n) ∈ news) (ha : (a, SL ts n1) ∈ news) (hb : (b, SL us n2) ∈ news)
    (h : ∀ h' tk, Led h₀ L h' m news → Q (.ref (if lexOp false (us.map (·.1)) (ts.map (·.1)) then b else a)) { s with heap := h', toks := tk }) : Wp w A (PySem.call (.builtin "min") [.ref D]) Q { s with heap := hp0, toks := tk0 } := ⟨call_min2 hh hu X hm ha hb h⟩
theorem Wp.max2 {hp0 : Heap} {tk0 : Nat} {a b : Addr} {ts us : List (Str × Tok)} {n n1 n2 : Nat} {Q : Value → Shared → Prop} (hh : A.handled = none) (hu : A.units + 2 < cLine) (X : Led h₀ L hp0 m news) (hm : (D, listOf #[.ref a, .ref b] n) ∈ news) (ha : (a, SL ts n1) ∈ news) (hb : (b, SL us n2) ∈ news)
    (h : ∀ h' tk, Led h₀ L h' m news → Q (.ref (if lexOp true (us.map (·.1)) (ts.map (·.1)) then b else a)) { s with heap := h', toks := tk }) : Wp w A (PySem.call (.builtin "max") [.ref D]) Q { s with heap := hp0, toks := tk0 } := ⟨call_max2 hh hu X hm ha hb h⟩
end
end Mine
end

section
open PySem PySem.W PyProof.Rows PySem.Calls PySem.Spec
set_option maxRecDepth 100000
set_option linter.unusedVariables false
set_option maxHeartbeats 2000000
namespace Mine
theorem Led.two {h₀ h h' : Heap} {L a b : Addr} {m : Str → Option Value} {o1 o2 o1' o2' : Obj} {news : List (Addr × Obj)} (X : Led h₀ L h m ((a, o1) :: (b, o2) :: news)) (hk : ∀ c o, c ≠ a → c ≠ b → h.get? c = some o → h'.get? c = some o)
    (ha : h'.get? a = some o1') (hb : h'.get? b = some o2') : Led h₀ L h' m ((a, o1') :: (b, o2') :: news) := by
  have A := X.nw (a, o1) (.head _)
  have B := X.nw (b, o2) (.tail _ (.head _))
  have nd := X.nd
  have n1 : ∀ p ∈ news, p.1 ≠ a ∧ p.1 ≠ b := fun p hp => by
    simp only [List.map_cons, List.nodup_cons, List.mem_cons, not_or] at nd
    exact ⟨fun e => nd.1.2 (List.mem_map.mpr ⟨p, hp, e⟩), fun e => nd.2.1 (List.mem_map.mpr ⟨p, hp, e⟩)⟩
  refine ⟨⟨X.fr.ns.at fun o e => hk L o (Ne.symm A.2.1) (Ne.symm B.2.1) e, fun c o e => hk c o (fun q => ?_) (fun q => ?_) (X.fr.keep c o e), X.fr.above⟩, fun p hp => ?_, by simpa using nd⟩
  · rw [q] at e; rw [A.2.2] at e; cases e
  · rw [q] at e; rw [B.2.2] at e; cases e
  · rcases List.mem_cons.mp hp with rfl | hp
    · exact ⟨ha, A.2⟩
    rcases List.mem_cons.mp hp with rfl | hp
    · exact ⟨hb, B.2⟩
    · have P := X.nw p (.tail _ (.tail _ hp))
      exact ⟨hk _ _ (n1 p hp).1 (n1 p hp).2 P.1, P.2⟩
theorem Led.add {h₀ h : Heap} {L T : Addr} {m : Str → Option Value} {o : Obj} {news : List (Addr × Obj)} (X : Led h₀ L h m news) (hT : h.get? T = some o) (h1 : ∀ p ∈ news, p.1 ≠ T) (h2 : T ≠ L) (h3 : h₀.get? T = none) : Led h₀ L h m ((T, o) :: news) := by
  refine ⟨X.fr, fun p hp => ?_, List.nodup_cons.mpr ⟨fun hm => ?_, X.nd⟩⟩
  · rcases List.mem_cons.mp hp with rfl | hp
    · exact ⟨hT, h2, h3⟩
    · exact X.nw p hp
  · obtain ⟨p, hp, e⟩ := List.mem_map.mp hm
    exact h1 p hp e
noncomputable abbrev enO (I : Addr) (i : Int) (old : Value) : Obj := { cls := .type "enumerate", dict := none, data := .fields #[.none, .bool false, .ref I, rawInt i, .none, old], slots := #[] }
noncomputable def IsLit (l : Addr) (i : Nat) (o : Obj) : Prop := o.cls = .type "list_iterator" ∧ o.data = .fields #[.ref l, .int i 0]
section
variable {w : World} {A : Around} {s : Shared} {h₀ : Heap} {env : Env}
noncomputable def EnumEnd (h₀ : Heap) (L : Addr) (s : Shared) (e I : Addr) (eo oI : Obj) (J : Nat → (Str → Option Value) → List (Addr × Obj) → Prop) (i : Nat) (s₃ : Shared) : Prop :=
  ∃ h' tk m₂ news₂, s₃ = { s with heap := h', toks := tk } ∧ Led h₀ L h' m₂ ((e, eo) :: (I, oI) :: news₂) ∧ J (i + 1) m₂ news₂
theorem forEnumL {xi xv : Str} {pi pv pt : Pos} {k : Nat} {body : List Stmt} {e I l : Addr} {items : Array Value} {n : Nat} {oI : Obj} {m : Str → Option Value} {news : List (Addr × Obj)} {R : Result → Shared → Prop}
    (hh : A.handled = none) (hk : env.scope.kind = .function) (hxi : env.kindOf xi = some .local) (hxv : env.kindOf xv = some .local)
    (J : Nat → (Str → Option Value) → List (Addr × Obj) → Prop) (X : Led h₀ env.locals s.heap m ((e, enO I 0 .none) :: (I, oI) :: news)) (hI : IsLit l 0 oI) (h0 : J 0 m news) (hsrc : ∀ i m news, J i m news → (l, listOf items n) ∈ news)
    (turn : ∀ i v tk m₁ news₁ h₁ tk₁ eo oI, items[i]? = some v → J i m₁ news₁ → s.toks ≤ tk₁ → Led h₀ env.locals h₁ (fun y => if y = xv then some v else if y = xi then some (.int (i : Nat) tk) else m₁ y) ((e, eo) :: (I, oI) :: news₁) →
      wpAny (model PR w) A (execs body env) (fun f s₃ => match f with
        | .next | .cont => EnumEnd h₀ env.locals s e I eo oI J i s₃
        | .brk => R (.ok .next) s₃
        | .ret v => R (.ok (.ret v)) s₃) No { s with heap := h₁, toks := tk₁ })
    (done : ∀ m₁ news₁ h₁ tk₁, J items.size m₁ news₁ → Led h₀ env.locals h₁ m₁ news₁ → R (.ok .next) { s with heap := h₁, toks := tk₁ }) :
    codeAny (model PR w) A (.forLoop (.Tuple [.Name xi pi, .Name xv pv] k pt) (.ref e) body [] env) R s := by
  obtain ⟨P, hP⟩ : ∃ P : Nat → Shared → Prop, P = fun k s' => ∃ i h' tk m' old oI' news', s' = { s with heap := h', toks := tk } ∧ i ≤ items.size ∧ k = items.size + 1 - i ∧ s.toks ≤ tk ∧ IsLit l i oI' ∧ Led h₀ env.locals h' m' ((e, enO I ((i : Nat) : Int) old) :: (I, oI') :: news') ∧ J i m' news' := ⟨_, rfl⟩
  refine codeAny_forLoop_any P ?_ (items.size + 1)
    (by rw [hP]; exact ⟨0, s.heap, s.toks, m, .none, oI, news, rfl, Nat.zero_le _, rfl, Nat.le_refl _, hI, X, h0⟩)
  intro k s' hs
  rw [hP] at hs
  obtain ⟨i, H, tk, m', old, oI', news', rfl, hi, rfl, htk, hI', X', hJ⟩ := hs
  have step : ∀ {h' tk' m₂ v oI₁ news₂}, i < items.size → s.toks ≤ tk' → IsLit l (i + 1) oI₁ → Led h₀ env.locals h' m₂ ((e, enO I (((i + 1 : Nat) : Int)) v) :: (I, oI₁) :: news₂) → J (i + 1) m₂ news₂ → ∃ m_1, m_1 < items.size + 1 - i ∧ P m_1 { s with heap := h', toks := tk' } := fun {h' tk' m₂ v oI₁ news₂} hlt ht hi X hJ =>
    ⟨items.size + 1 - (i + 1), by omega, by rw [hP]; exact ⟨i + 1, h', tk', m₂, v, oI₁, news₂, rfl, hlt, rfl, ht, hi, X, hJ⟩⟩
  clear hP
  have hit : Heap.IsListIter (Shared.heap { s with heap := H, toks := tk }) I l i := ⟨_, X'.get (.tail _ (.head _)), hI'.1, hI'.2⟩
  have hls : Heap.IsList (Shared.heap { s with heap := H, toks := tk }) l items := isListL X' (.tail _ (.tail _ (hsrc _ _ _ hJ)))
  have hne : e ≠ I := fun q => by
    have nd := X'.nd
    simp only [List.map_cons, List.nodup_cons, List.mem_cons, not_or] at nd
    exact nd.1.1 q
  have he : IsEnum (Shared.heap { s with heap := H, toks := tk }) e I ((i : Nat) : Int) old := X'.get (.head _)
  cases hv : items[i]? with
  | none =>
    have hsz : i = items.size := Nat.le_antisymm hi (by simpa using hv)
    refine wpAny_pyNext_enum_end hh he hit hls hv fun h₁ he₁ => wpAny_execs_nil ?_
    have X1 : Led h₀ env.locals H m' ((I, oI') :: news') := X'.sub (.cons _ (List.Sublist.refl _))
    exact done m' news' h₁ tk (hsz ▸ hJ) (X1.but he₁)
  | some v =>
    have hlt : i < items.size := (Array.getElem?_eq_some_iff.mp hv).1
    refine wpAny_pyNext_enum_item he hit hls hv hne fun h₁ heo hit₁ ht₁ hz₁ hk₁ => ?_
    obtain ⟨oI₁, hoI₁, hc₁, hd₁⟩ := hit₁
    have X1 := X'.two hk₁ heo hoI₁
    have le : e < H.objs.size := X'.lt (p := (e, enO I ((i : Nat) : Int) old)) (.head _)
    have lI : I < H.objs.size := X'.lt (p := (I, oI')) (.tail _ (.head _))
    have ha : H.objs.size ≥ h₀.objs.size := Nat.le_trans X'.fr.above (Nat.le_of_lt X'.fr.ns.lt)
    have X2 := X1.add ht₁ (fun p hp => by
      rcases List.mem_cons.mp hp with rfl | hp
      · exact Nat.ne_of_lt le
      rcases List.mem_cons.mp hp with rfl | hp
      · exact Nat.ne_of_lt lI
      · exact Nat.ne_of_lt (X'.lt (.tail _ (.tail _ hp)))) (Nat.ne_of_gt X'.fr.ns.lt) (Heap.get?_none_of_le ha)
    refine wpAny_letOwnedTupleGo_enum heo fun h₂ he₂ hs₂ => ?_
    have X3 := X2.turn (.tail .head) hs₂ he₂
    refine wpAny_mono (wpAny_toks (assignPair (E := No) (Q := fun _ s' => ∃ h₃ tk₃, s' = { s with heap := h₃, toks := tk₃ } ∧ Led h₀ env.locals h₃ (fun z => if z = xv then some v else if z = xi then some (.int (i : Nat) tk) else m' z) ((H.objs.size, tupOf #[.int (i : Nat) tk, v] 0) :: (e, enO I ((i : Nat) + 1 : Int) v) :: (I, oI₁) :: news')) X3 (.head _) hh (fun h₃ tk₃ X4 => ⟨h₃, tk₃, rfl, X4⟩) hk hxi hxv)) (fun _ s₄ h₄ => ?_) fun _ _ x => x.2.elim
    obtain ⟨htk', h₃, tk₃, rfl, X4⟩ := h₄
    have htk3 : s.toks ≤ tk₃ := Nat.le_trans (Nat.le_succ_of_le htk) htk'
    have X5 := X4.sub (.cons _ (List.Sublist.refl _))
    refine wpAny_mono (wpAny_toks (turn i v tk m' news' h₃ tk₃ _ _ hv hJ htk3 X5)) (fun f s₃ h₃ => ?_) fun _ _ x => x.2.elim
    obtain ⟨htk4, h₃⟩ := h₃
    have fin : EnumEnd h₀ env.locals s e I (enO I ((i : Nat) + 1 : Int) v) oI₁ J i s₃ → ∃ m_1, m_1 < items.size + 1 - i ∧ P m_1 s₃ := by
      rintro ⟨h', tk', m₂, news₂, rfl, X6, hJ'⟩
      refine step (v := v) hlt (Nat.le_trans htk3 htk4) ⟨hc₁, hd₁⟩ ?_ hJ'
      have : ((i + 1 : Nat) : Int) = (i : Int) + 1 := by push_cast; rfl
      rw [this]; exact X6
    cases f with
    | next => exact fin h₃
    | cont => exact fin h₃
    | brk => exact h₃
    | ret v => exact h₃
theorem enumL {hp0 : Heap} {tk0 : Nat} {l : Addr} {items : Array Value} {n : Nat} {L : Addr} {m : Str → Option Value} {news : List (Addr × Obj)} {Q : Value → Shared → Prop} (X : Led h₀ L hp0 m news) (hm : (l, listOf items n) ∈ news)
    (h : ∀ e I oI h', IsLit l 0 oI → Led h₀ L h' m ((e, enO I 0 .none) :: (I, oI) :: news) → Q (.ref e) { s with heap := h', toks := tk0 }) : Wp w A (PySem.call (.type "enumerate") [.ref l]) Q { s with heap := hp0, toks := tk0 } := by
  refine ⟨call_enumerate_list (isListL X hm) fun h' he hI hsz hk => ?_⟩
  obtain ⟨oI, hoI, hc, hd⟩ := hI
  have X1 := X.fresh (a := hp0.objs.size) hk (Nat.le_refl _) hoI
  have X2 := X1.add he (fun p hp => by
    rcases List.mem_cons.mp hp with rfl | hp
    · exact Nat.ne_of_lt (Nat.lt_succ_self _)
    · exact Nat.ne_of_lt (Nat.lt_succ_of_lt (X.lt hp))) (Nat.ne_of_gt (Nat.lt_succ_of_lt X.fr.ns.lt)) (Heap.get?_none_of_le (Nat.le_trans X.fr.above (Nat.le_of_lt (Nat.lt_succ_of_lt X.fr.ns.lt))))
  exact h _ _ oI h' ⟨hc, hd⟩ X2
noncomputable def EnAsk (w : World) (A : Around) (h₀ : Heap) (env : Env) (xi xv : Str) (body : List Stmt) (Q : Flow → Shared → Prop) (v : Value) (s₁ : Shared) : Prop :=
  ∃ e I l items n oI m news J, v = .ref e ∧ Led h₀ env.locals s₁.heap m ((e, enO I 0 .none) :: (I, oI) :: news) ∧ IsLit l 0 oI ∧ J 0 m news ∧ (∀ i m news, J i m news → (l, listOf items n) ∈ news) ∧
      (∀ i v tk m₁ news₁ h₁ tk₁ eo oI, items[i]? = some v → J i m₁ news₁ → s₁.toks ≤ tk₁ → Led h₀ env.locals h₁ (fun y => if y = xv then some v else if y = xi then some (.int (i : Nat) tk) else m₁ y) ((e, eo) :: (I, oI) :: news₁) →
        Wp w A (execs body env) (fun f s₃ => match f with
          | .next | .cont => EnumEnd h₀ env.locals s₁ e I eo oI J i s₃
          | .brk => Q .next s₃
          | .ret v => Q (.ret v) s₃) { s₁ with heap := h₁, toks := tk₁ }) ∧
      (∀ m₁ news₁ h₁ tk₁, J items.size m₁ news₁ → Led h₀ env.locals h₁ m₁ news₁ → Q .next { s₁ with heap := h₁, toks := tk₁ })
theorem EnAsk.mk {hp : Heap} {tk : Nat} {xi xv : Str} {body : List Stmt} {Q : Flow → Shared → Prop} {e I l : Addr} {items : Array Value} {n : Nat} {oI : Obj} {m : Str → Option Value} {news : List (Addr × Obj)}
    (J : Nat → (Str → Option Value) → List (Addr × Obj) → Prop) (X : Led h₀ env.locals hp m ((e, enO I 0 .none) :: (I, oI) :: news)) (hI : IsLit l 0 oI) (h0 : J 0 m news) (hsrc : ∀ i m news, J i m news → (l, listOf items n) ∈ news)
    (turn : ∀ i eo oI (K : Flow → Shared → Prop), (∀ h' tk m₂ news₂, Led h₀ env.locals h' m₂ ((e, eo) :: (I, oI) :: news₂) → J (i + 1) m₂ news₂ → K .next { s with heap := h', toks := tk }) → Wp.Exits Q K →
      ∀ v tki m₁ news₁ h₁ tk₁, items[i]? = some v → J i m₁ news₁ → tk ≤ tk₁ → Led h₀ env.locals h₁ (fun y => if y = xv then some v else if y = xi then some (.int (i : Nat) tki) else m₁ y) ((e, eo) :: (I, oI) :: news₁) →
        Wp w A (execs body env) K { s with heap := h₁, toks := tk₁ })
    (fin : ∀ m₁ news₁ h₁ tk₁, J items.size m₁ news₁ → Led h₀ env.locals h₁ m₁ news₁ → Q .next { s with heap := h₁, toks := tk₁ }) : EnAsk w A h₀ env xi xv body Q (.ref e) { s with heap := hp, toks := tk } :=
  ⟨e, I, l, items, n, oI, m, news, J, rfl, X, hI, h0, hsrc, fun i v tki m₁ news₁ h₁ tk₁ eo oI a b c d =>
    turn i eo oI (fun f s₃ => match f with | .next | .cont => EnumEnd h₀ env.locals { s with heap := hp, toks := tk } e I eo oI J i s₃ | .brk => Q .next s₃ | .ret v => Q (.ret v) s₃)
      (fun h' tk m₂ news₂ a b => ⟨h', tk, m₂, news₂, rfl, a, b⟩) ⟨fun _ x => x, fun _ x => x, fun _ _ x => x⟩ v tki m₁ news₁ h₁ tk₁ a b c d, fin⟩
theorem Wp.forEn {xi xv : Str} {pi pv pt : Pos} {k : Nat} {iter : Expr} {body : List Stmt} {pos : Pos} {Q : Flow → Shared → Prop} (hs : ∀ x, foldedSetIterable iter env x = pure x) (hh : A.handled = none) (hk : env.scope.kind = .function) (hxi : env.kindOf xi = some .local) (hxv : env.kindOf xv = some .local)
    (h : Wp w A (eval iter env) (EnAsk w A h₀ env xi xv body Q) s) :
    Wp w A (exec (.For (.Tuple [.Name xi pi, .Name xv pv] k pt) iter body [] pos) env) Q s := by
  refine ⟨wpAny_For (wpAny_mono h.out (fun v s₁ h₁ => ?_) fun _ _ x => x) hs⟩
  obtain ⟨e, I, l, items, n, oI, m, news, J, rfl, X, hI, h0, hsrc, turn, fin⟩ := h₁
  refine wpAny_pyIter_enum (X.get (.head _)) ?_
  exact forEnumL hh hk hxi hxv J X hI h0 hsrc (fun i v tk m₁ news₁ h₁ tk₁ eo oI a b c d => wpAny_mono (turn i v tk m₁ news₁ h₁ tk₁ eo oI a b c d).out (fun f s₃ y => by cases f <;> exact y) fun _ _ x => x) fin
end
end Mine
end

section
open PySem PySem.W PyProof.Rows PySem.Calls PySem.Spec
set_option maxRecDepth 100000
set_option linter.unusedVariables false
set_option maxHeartbeats 2000000
namespace Mine
namespace Wp
section
variable {w : World} {A : Around} {s : Shared} {h₀ : Heap} {L D : Addr} {m : Str → Option Value} {env : Env} {news news' : List (Addr × Obj)}
theorem split {hp0 : Heap} {tk0 : Nat} {x y : Str} {t u : Tok} {Q : Value → Shared → Prop} (X : Led h₀ L hp0 m news) (hy : (y.length == 0) = false) (hx : x.length ≤ 100000)
    (h : ∀ d ts h' tk, ts.map (·.1) = Txt.split x y → Led h₀ L h' m ((d, SL ts 0) :: news) → Q (.ref d) { s with heap := h', toks := tk }) : Wp w A (PySem.call (.builtin "str.split") [.str x t, .str y u]) Q { s with heap := hp0, toks := tk0 } :=
  ⟨splitN1 X.fr X.nw hy (fun l h' k e F N => h _ l h' k e ⟨F, N, by
    refine List.nodup_cons.mpr ⟨fun hm => ?_, X.nd⟩
    obtain ⟨p, hp, e⟩ := List.mem_map.mp hm
    exact absurd (X.lt hp) (by rw [e]; exact Nat.lt_irrefl _)⟩) (by rw [sizeLine_eq]; omega)⟩
theorem eqS {x y : Str} {t u : Tok} {Q : Value → Shared → Prop} (h : Q (.bool (x == y)) s) : Wp w A (compareOp .Eq (.str x t) (.str y u)) Q s := ⟨PyProof.Rows.eq_str h⟩
theorem neStr {x y : Str} {t u : Tok} {Q : Value → Shared → Prop} (h : Q (.bool (!decide (x = y))) s) : Wp w A (compareOp .NotEq (.str x t) (.str y u)) Q s :=
  ⟨P.ne_str (by
    have e : (x.cps.toList != y.cps.toList) = !decide (x = y) := by
      by_cases hxy : x = y
      · subst hxy; simp
      · rw [decide_eq_false hxy]
        have : x.cps.toList ≠ y.cps.toList := fun h => hxy (Str.ext' (Array.toList_inj.mp h))
        simpa using this
    rw [e]; exact h)⟩
theorem truthSt {hp0 : Heap} {tk0 : Nat} {x : Str} {t : Tok} {Q : Bool → Shared → Prop} (hl' : x.length ≤ 100000) (h : Q (!decide (x.length = 0)) { s with heap := hp0, toks := tk0 + 1 + 1 }) : Wp w A (truthy (.str x t)) Q { s with heap := hp0, toks := tk0 } :=
  ⟨PySem.P.truthy_str (by omega) (by
    have : ((x.length : Int) != 0) = !decide (x.length = 0) := by
      by_cases e : x.length = 0
      · rw [e]; rfl
      · rw [decide_eq_false e]
        have : (x.length : Int) ≠ 0 := by omega
        simpa using this
    rw [this]; exact h)⟩
theorem truthTup {hp0 : Heap} {tk0 : Nat} {its : Array Value} {n : Nat} {Q : Bool → Shared → Prop} (X : Led h₀ L hp0 m news) (hm : (D, tupOf its n) ∈ news) (hz : its.size ≤ 1000) (h : Q (!its.isEmpty) { s with heap := hp0, toks := tk0 + 1 + 1 }) : Wp w A (truthy (.ref D)) Q { s with heap := hp0, toks := tk0 } :=
  ⟨truthy_tuple ⟨_, X.get hm, rfl, n, rfl⟩ (by omega) h⟩
theorem replace {hp0 : Heap} {tk0 : Nat} {x y z : Str} {t u v : Tok} {Q : Value → Shared → Prop} (hu : u ≠ 0) (hv : v ≠ 0) (huv : u ≠ v) (hyz : (y == z) = false) (hx : x.length ≤ 100000) (hz : z.length ≤ 14)
    (h : ∀ t' k, Q (.str (Txt.replace x y z) t') { s with heap := hp0, toks := k }) : Wp w A (PySem.call (.builtin "str.replace") [.str x t, .str y u, .str z v]) Q { s with heap := hp0, toks := tk0 } := ⟨SC.replaceW hu hv huv hyz (by omega) hz h⟩
theorem assign1 {hp0 : Heap} {tk0 : Nat} {x : Str} {px : Pos} {k : Nat} {pos : Pos} {Q : Unit → Shared → Prop} (hk : env.scope.kind = .function) (hx : env.kindOf x = some .local) (hh : A.handled = none) (X : Led h₀ env.locals hp0 m news) (hm : (D, set1 (!byText w)) ∈ news)
    (h : ∀ h' tk, Led h₀ env.locals h' (fun z => if z = x then some (.bool true) else m z) news → Q () { s with heap := h', toks := tk }) : Wp w A (PySem.assign (.Tuple [.Name x px] k pos) env (.ref D)) Q { s with heap := hp0, toks := tk0 } := by
  refine ⟨?_⟩
  show wpAny _ A (do standAt pos; unpack (.ref D) (assignEach [.Name x px] env)) Q No _
  refine wpAny_bind (wpAny_standAt ?_)
  unfold unpack
  refine wpAny_bind (wpAny_holding ?_)
  show wpAny _ A (unpackItems (.ref D) 1 none) _ _ _
  refine unpack_true hh X hm (fun h₁ X₁ => ?_)
  show wpAny _ A (do holding [] (PySem.assign (.Name x px) env (.bool true)); assignInOrder [] []) Q No _
  refine wpAny_bind (wpAny_holding (wpAny_assign_Name (storeL X₁ (fun h₂ X₂ => ?_) hk hx)))
  exact wpAny_pure (h h₂ _ X₂)
end
end Wp
end Mine
end

section
open PySem PySem.W PyProof.Rows PySem.Calls PySem.Spec
set_option linter.unusedVariables false
namespace Mine
noncomputable def spl (x : Str) : List Str := (Txt.split x "/").filter (fun c => !decide (c.length = 0) && !decide (c = "."))
noncomputable def lcp {α : Type} [DecidableEq α] (l : List α) : List α → List α :=
  @List.rec α (fun _ => List α → List α) (fun _ => []) (fun a _ ih m => @List.rec α (fun _ => List α) [] (fun b t _ => if a = b then a :: ih t else []) m) l
theorem lcp_nil {α : Type} [DecidableEq α] {m : List α} : lcp [] m = [] := rfl
theorem lcp_nilR {α : Type} [DecidableEq α] : ∀ l : List α, lcp l [] = []
  | [] => rfl
  | _ :: _ => rfl
theorem lcp_same {α : Type} [DecidableEq α] {a : α} {r t : List α} : lcp (a :: r) (a :: t) = a :: lcp r t := if_pos rfl
theorem lcp_diff {α : Type} [DecidableEq α] {a b : α} {r t : List α} (h : a ≠ b) : lcp (a :: r) (b :: t) = [] := if_neg h
noncomputable def cpS (x y : Str) : Str := Str.ofString "/" ++ Txt.join "/" (lcp (spl x) (spl y))
theorem lcp_comm (a : List Str) : ∀ b : List Str, lcp a b = lcp b a := by
  induction a with
  | nil => exact fun b => (lcp_nilR b).symm
  | cons x r ih =>
    intro b
    cases b with
    | nil => rfl
    | cons y t =>
      by_cases e : x = y
      · rw [e, lcp_same, lcp_same, ih]
      · rw [lcp_diff e, lcp_diff (Ne.symm e)]
theorem lcp_at (a : List Str) : ∀ (b : List Str) (i : Nat), a.take i = b.take i → (h1 : i < a.length) → (∀ h2 : i < b.length, a[i] ≠ b[i]) → lcp a b = a.take i := by
  induction a with
  | nil => exact fun _ _ _ h1 _ => absurd h1 (Nat.not_lt_zero _)
  | cons x r ih =>
    intro b i h h1 h2
    cases b with
    | nil =>
      cases i with
      | zero => rfl
      | succ i => exact absurd h (List.cons_ne_nil _ _)
    | cons y t =>
      cases i with
      | zero => exact lcp_diff (h2 (Nat.succ_pos _))
      | succ i =>
        have e := List.cons.inj h
        rw [← e.1, lcp_same]
        exact congrArg (x :: ·) (ih t i e.2 (Nat.lt_of_succ_lt_succ h1) fun h3 => h2 (Nat.succ_lt_succ h3))
theorem lcp_whole (a : List Str) : ∀ b : List Str, a = b.take a.length → lcp a b = a := by
  induction a with
  | nil => exact fun _ _ => rfl
  | cons x r ih =>
    intro b h
    cases b with
    | nil => exact absurd h (List.cons_ne_nil _ _)
    | cons y t =>
      have e := List.cons.inj h
      rw [← e.1, lcp_same, ih t e.2]
theorem strLt_asymm (a b : Str) (h : strLt a b = true) : strLt b a = false := by
  unfold strLt at *
  have h1 : a.cps.toList < b.cps.toList := by simpa using h
  have : ¬ b.cps.toList < a.cps.toList := fun h2 => List.lt_irrefl a.cps.toList (List.lt_trans h1 h2)
  simpa using this
theorem strLt_total (a b : Str) (h : a ≠ b) : strLt a b = true ∨ strLt b a = true := by
  unfold strLt
  simp only [decide_eq_true_eq]
  rcases List.le_total a.cps.toList b.cps.toList with h1 | h1
  · by_cases h2 : a.cps.toList < b.cps.toList
    · exact .inl h2
    · exact absurd (Str.ext' (Array.toList_inj.mp (List.le_antisymm h1 h2))) h
  · by_cases h2 : b.cps.toList < a.cps.toList
    · exact .inr h2
    · exact absurd (Str.ext' (Array.toList_inj.mp (List.le_antisymm h1 h2))) (Ne.symm h)
theorem lex_three (a : List Str) : ∀ b : List Str, (a = b ∧ lexOp false b a = false ∧ lexOp true b a = false) ∨ (lexOp false b a = true ∧ lexOp true b a = false) ∨ (lexOp false b a = false ∧ lexOp true b a = true) := by
  induction a with
  | nil =>
    intro b
    cases b with
    | nil => exact .inl ⟨rfl, rfl, rfl⟩
    | cons y t => exact .inr (.inr ⟨rfl, rfl⟩)
  | cons x r ih =>
    intro b
    cases b with
    | nil => exact .inr (.inl ⟨rfl, rfl⟩)
    | cons y t =>
      by_cases e : x = y
      · subst e
        rw [lexOp_same, lexOp_same]
        exact (ih t).imp_left fun h => ⟨congrArg (x :: ·) h.1, h.2⟩
      · rw [lexOp_diff (Ne.symm e), lexOp_diff (Ne.symm e)]
        exact .inr ((strLt_total x y e).elim (fun h => .inr ⟨strLt_asymm x y h, h⟩) fun h => .inl ⟨h, strLt_asymm y x h⟩)
theorem lex_short (a : List Str) : ∀ (b : List Str) (i : Nat), lexOp true b a = true → a.take i = b.take i → i < a.length → i < b.length := by
  induction a with
  | nil => exact fun _ _ _ _ h1 => absurd h1 (Nat.not_lt_zero _)
  | cons x r ih =>
    intro b i h hp h1
    cases b with
    | nil => exact Bool.noConfusion h
    | cons y t =>
      cases i with
      | zero => exact Nat.succ_pos _
      | succ i =>
        have e := List.cons.inj hp
        rw [e.1, lexOp_same] at h
        exact Nat.succ_lt_succ (ih t i h e.2 (Nat.lt_of_succ_lt_succ h1))
theorem lex_flip (a : List Str) : ∀ b : List Str, lexOp true b a = lexOp false a b := by
  induction a with
  | nil => exact fun b => by cases b <;> rfl
  | cons x r ih =>
    intro b
    cases b with
    | nil => rfl
    | cons y t =>
      by_cases e : x = y
      · rw [e, lexOp_same, lexOp_same, ih]
      · rw [lexOp_diff e, lexOp_diff (Ne.symm e)]; rfl
theorem split_small {x : Str} (hx : x.length ≤ 250) : (∀ c ∈ Txt.split x "/", c.length ≤ 251) ∧ (Txt.split x "/").length ≤ 251 := by
  have h := split_weight x "/" (by decide)
  refine ⟨fun c hc => ?_, by omega⟩
  have : ∀ (l : List Str), c ∈ l → c.length ≤ (l.map (·.length)).sum := by
    intro l
    induction l with
    | nil => intro h; simp at h
    | cons a r ih =>
      intro h
      rw [List.map_cons, List.sum_cons]
      rcases List.mem_cons.mp h with rfl | h
      · omega
      · have := ih h; omega
  have := this _ hc
  omega
theorem map_two {α β : Type} {f : α → β} {rs : List α} {u v : β} (h : rs.map f = [u, v]) : ∃ a b, rs = [a, b] ∧ f a = u ∧ f b = v := by
  obtain ⟨a, r, rfl, h1, h2⟩ := List.map_eq_cons_iff.mp h
  obtain ⟨b, t, rfl, h3, h4⟩ := List.map_eq_cons_iff.mp h2
  exact ⟨a, b, by rw [List.map_eq_nil_iff.mp h4], h1, h3⟩
noncomputable def keepC (c : Str) : Bool := !decide (c.length = 0) && !decide (c = ".")
theorem Wp.truthStB {hp0 : Heap} {tk0 : Nat} {w : World} {A : Around} {s : Shared} {x : Str} {t : Tok} {Q : Bool → Shared → Prop} (hl' : x.length ≤ 100000) (h0 : x.length = 0 → Q false { s with heap := hp0, toks := tk0 + 1 + 1 }) (h1 : x.length ≠ 0 → Q true { s with heap := hp0, toks := tk0 + 1 + 1 }) : Wp w A (truthy (.str x t)) Q { s with heap := hp0, toks := tk0 } := by
  refine Wp.truthSt hl' ?_
  by_cases e : x.length = 0
  · rw [decide_eq_true e]; exact h0 e
  · rw [decide_eq_false e]; exact h1 e
theorem sum_le (k : Nat) : ∀ l : List Str, (∀ c ∈ l, c.length ≤ k) → (l.map (·.length)).sum ≤ k * l.length
  | [], _ => by simp
  | a :: r, h => by
    have h1 := sum_le k r fun x hx => h x (.tail _ hx)
    have h2 := h a (.head _)
    simp only [List.map_cons, List.sum_cons, List.length_cons, Nat.mul_add, Nat.mul_one]
    omega
theorem glue_len (g : Str) : ∀ (l : List Str) (acc : Array Nat), (l.foldl (fun acc p => acc ++ g.cps ++ p.cps) acc).size = acc.size + (l.map (·.length)).sum + l.length * g.length
  | [], acc => by simp
  | a :: r, acc => by
    rw [List.foldl_cons, glue_len g r]
    simp only [Array.size_append, List.map_cons, List.sum_cons, List.length_cons, Str.length, Nat.add_mul, Nat.one_mul]
    omega
theorem join_len (g : Str) (l : List Str) : (Txt.join g l).length ≤ (l.map (·.length)).sum + l.length * g.length := by
  cases l with
  | nil => exact Nat.zero_le _
  | cons a r =>
    show (r.foldl (fun acc p => acc ++ g.cps ++ p.cps) a.cps).size ≤ _
    rw [glue_len]
    simp only [List.map_cons, List.sum_cons, List.length_cons, Str.length, Nat.add_mul, Nat.one_mul]
    omega
end Mine
end

section
open PySem PySem.W PyProof.Rows PySem.Calls PySem.Spec
set_option maxRecDepth 100000
set_option maxHeartbeats 4000000
set_option linter.unusedVariables false
namespace Mine
section
variable {w : World} {A : Around} {s : Shared} {h₀ : Heap} {L : Addr} {m : Str → Option Value} {news : List (Addr × Obj)} {p : Program} {loose : List Str} {mean : ExcName → Option Value} {mg mb : Str → Option Value} {Q : Value → Shared → Prop}
theorem cp_call {pl : Addr} {pn : Nat} {x y : Str} {tx ty : Tok} (X : Led h₀ L s.heap m news) (KX : (hd.heap_39 w.params).In h₀) (T : Top p loose mean mg mb h₀) (hroom : A.depth + 2 < recursionLimit) (hh : A.handled = none) (huni : A.units + 100 < cLine)
    (hl : (pl, SL [(x, tx), (y, ty)] pn) ∈ news) (hx : Txt.startswith x "/" = true) (hy : Txt.startswith y "/" = true) (lx : x.length ≤ 250) (ly : y.length ≤ 250)
    (h : ∀ h' t tk, Led h₀ L h' m news → Q (.str (cpS x y) t) { s with heap := h', toks := tk }) : Wp w A (PySem.call (.ref 127) [.ref pl]) Q s := by
  have hfill : (hd.heap_39 w.params).length = (hd.heap_39 w.params).length ∧ PySem.Challenge.rw_pd0045_01.foot = PySem.Challenge.rw_pd0045_01.foot := by k_fill; exact ⟨rfl, rfl⟩
  clear hfill
  refine Wp.intoC rfl rfl rfl (binds := [("paths", .ref pl)]) X KX T (by k_is) (by k_is) (dn0 hroom) (BindsTo.of_eq rfl) (by rfl) (by decide +kernel) ?_
  intro A' oL h₁ tk₁ cells U C Y X1
  have hh' : A'.handled = none := U.handled.trans hh
  have hroom' : A'.depth + 1 < recursionLimit := dnU U.depth hroom (by decide)
  have huni' : A'.units + 64 < cLine := dnU U.units huni (by decide)
  obtain ⟨oc, os, rfl, d1, d2⟩ := CellsAre.two Y
  replace X1 := X1 rfl (by simp)
  clear Y
  generalize hL' : s.heap.objs.size = L' at X1 d1 d2 ⊢
  have dc : oc.data = .cell none := d1
  have ds : os.data = .cell none := d2
  clear d1 d2
  refine Led.gen1 (nw := ((L' + 2, oc) :: (L' + 1, os) :: (L, oL) :: news)) (x1 := "paths") (v1 := (.ref pl)) (X1) (rfl) ?_
  intro m₁ X2 hm1
  clear X1
  -- paths = tuple(map(fspath, paths))
  refine Wp.seqH (fun kK nk xk => Wp.assign rfl ?_)
  refine Wp.callN (Wp.nB (by decide) rfl rfl rfl rfl rfl X2 KX T (by k_is) PyProof.Rows.Boot.«tuple» ?_)
  refine Wp.withT rfl rfl (Wp.arg rfl ?_)
  refine Wp.callN (Wp.nB (by decide) rfl rfl rfl rfl rfl X2 KX T (by k_is) PyProof.Rows.Boot.«map» ?_)
  refine Wp.withT rfl rfl (Wp.arg rfl (Wp.nG rfl rfl rfl rfl X2 KX T (by k_is) (Wp.arg rfl (Wp.nL rfl rfl rfl X2 hm1 (Wp.args ?_)))))
  refine Wp.mapC (items := ([(x, tx), (y, ty)].map vstr).toArray) (n := pn) X2 (mt3 hl) (fun M T' I h3 X3 => ?_)
  refine Wp.args ?_
  refine Wp.tupM (ts := [(x, tx), (y, ty)]) (n := pn) hh' KX T (dn0 hroom') (by simp) X3 (mt3 hl) (fun tp h4 tk4 X4 => ?_)
  refine Wp.sL rfl rfl X4 (fun h5 X5 => ?_)
  first | refine nk _ ?_ | refine ni _ ?_ | refine nt _ ?_ | (try dsimp only)
  refine Led.gen1 (nw := ((tp, tupOf #[.str x tx, .str y ty] 0) :: (L' + 2, oc) :: (L' + 1, os) :: (L, oL) :: news)) (x1 := "paths") (v1 := (.ref tp)) (X5) (if_pos rfl) ?_
  intro m₂ X5 hm2
  clear X2 X3 X4 hm1
  -- if not paths
  refine Wp.seqH (fun kI ni xi => Wp.iff (Wp.truthNot (Wp.truthOf rfl (Wp.nL rfl rfl rfl X5 hm2 (Wp.truthTup X5 mi0 (by simp) ?_)))))
  refine Wp.done ?_
  first | refine nk _ ?_ | refine ni _ ?_ | refine nt _ ?_ | (try dsimp only)
  -- if isinstance(paths[0], bytes)
  refine Wp.seqH (fun kI ni xi => Wp.iff (Wp.truthOf rfl ?_))
  refine Wp.callN (Wp.nB (by decide) rfl rfl rfl rfl rfl X5 KX T (by k_is) PyProof.Rows.Boot.«isinstance» ?_)
  refine Wp.withB rfl rfl (Wp.arg rfl (Wp.sub (Wp.nL rfl rfl rfl X5 hm2 (Wp.cInt ?_))))
  refine Wp.itemT (l := [.str x tx, .str y ty]) (j := 0) (by with_unfolding_all rfl) X5 mi0 (by decide) (by decide) rfl rfl ?_
  refine Wp.arg rfl (Wp.nB (by decide) rfl rfl rfl rfl rfl X5 KX T (by k_is) PyProof.Rows.Boot.«bytes» (Wp.args ?_))
  refine Wp.notBytes ?_
  refine Wp.truthB ?_
  -- sep, curdir
  refine Wp.seqH (fun kK nk xk => Wp.assign rfl (Wp.cStr ?_))
  refine Wp.sC (c := L' + 1) (g := fun o' => (tp, tupOf #[.str x tx, .str y ty] 0) :: (L' + 2, oc) :: (L' + 1, o') :: (L, oL) :: news) rfl rfl rfl X5 (fun o' => .tail (.tail .head)) ds (fun h6 os' ds' X6 => ?_)
  first | refine nk _ ?_ | refine ni _ ?_ | refine nt _ ?_ | (try dsimp only)
  refine Wp.seqH (fun kK nk xk => Wp.assign rfl (Wp.cStr ?_))
  refine Wp.sC (c := L' + 2) (g := fun o' => (tp, tupOf #[.str x tx, .str y ty] 0) :: (L' + 2, o') :: (L' + 1, os') :: (L, oL) :: news) rfl rfl rfl X6 (fun o' => .tail .head) dc (fun h7 oc' dc' X7 => ?_)
  first | refine nk _ ?_ | refine ni _ ?_ | refine nt _ ?_ | (try dsimp only)
  refine Wp.done ?_
  first | refine nk _ ?_ | refine ni _ ?_ | refine nt _ ?_ | (try dsimp only)
  clear X5 X6 ds dc
  obtain ⟨tks, ds'⟩ : ∃ tks, os'.data = .cell (some (.str "/" tks)) := ⟨_, ds'⟩
  obtain ⟨tkc, dc'⟩ : ∃ tkc, oc'.data = .cell (some (.str "." tkc)) := ⟨_, dc'⟩
  -- split_paths
  refine Wp.seqH (fun kR nR xR => Wp.try_ (Wp.seqH (fun kK nk xk => Wp.assignComp (cl := [("sep", L' + 1)]) rfl rfl rfl (by decide +kernel) (by decide +kernel) rfl (fun _ => rfl) X7 rfl rfl ?_)))
  refine Wp.nL rfl rfl rfl X7 hm2 ?_
  refine Wp.itTp (its := #[.str x tx, .str y ty]) (n := 0) X7 mi0 (fun I1 h8 ent hI X8 => ?_)
  refine Wp.CompAsk.mk (its := ent) (fun j ys nw => ∃ rs : List (Addr × List (Str × Tok)), ys = rs.map (fun r => Value.ref r.1) ∧ rs.map (fun r => r.2.map (·.1)) = ([x, y].take j).map (fun q => Txt.split q "/") ∧ nw = rs.reverse.map (fun r => (r.1, SL r.2 0)) ++ ((tp, tupOf #[.str x tx, .str y ty] 0) :: (L' + 2, oc') :: (L' + 1, os') :: (L, oL) :: news)) (itTuple hh' I1 tp #[.str x tx, .str y ty]) X8 hI ⟨[], rfl, rfl, rfl⟩ ?_ (by simp) (fun _ _ _ h => h.2) ?_ ?_
  · rintro _ _ _ ⟨rs, _, _, rfl⟩
    exact ⟨_, 0, rfl, rfl, .inl (List.mem_append_right _ mi0)⟩
  · clear X7 X8 hI
    rintro j ys Ca Da oL' K1 K2 k1 k2 v its₁ news₁ h₁' tk₁' mC hj _ ⟨hat, _⟩ ⟨oJ, rfl, cJ, dJ⟩ hJ hmC KL X9
    revert hmC KL X9
    refine ex1a3 hJ ?_
    clear hJ
    rintro rs rfl hrs rfl hmC KL X9
    obtain ⟨q, tq, hq, rfl, lq⟩ : ∃ q tq, [x, y][j]? = some q ∧ v = .str q tq ∧ q.length ≤ 250 := by
      exact at2 (C := fun j v => ∃ q tq, [x, y][j]? = some q ∧ v = .str q tq ∧ q.length ≤ 250) ⟨x, tx, rfl, rfl, lx⟩ ⟨y, ty, rfl, rfl, ly⟩ hj hat
    refine Wp.test0 ?_
    refine Wp.mcall rfl (Wp.nL rfl rfl rfl X9 hmC ?_)
    refine Wp.strM PySem.F.slot_str_split PySem.F.type_str_split ?_
    refine Wp.withM rfl rfl (Wp.arg rfl (Wp.nC rfl rfl rfl (c := L' + 1) rfl X9 (.tail _ (.tail _ (List.mem_append_right _ (List.mem_append_right _ mi2)))) ds' (Wp.args ?_)))
    refine Wp.split X9 (by decide) (Nat.le_trans lq (by decide)) (fun d ts h10 tk10 hts X10 => ?_)
    refine k1 _ _ _ _ [(I1, oJ)] ((d, SL ts 0) :: (rs.reverse.map (fun r => (r.1, SL r.2 0)) ++ ((tp, tupOf #[.str x tx, .str y ty] 0) :: (L' + 2, oc') :: (L' + 1, os') :: (L, oL) :: news))) ⟨oJ, rfl, cJ, dJ⟩ (X10.perm (List.perm_middle (l₁ := [_, _, _])).symm) ⟨rs ++ [(d, ts)], by simp, ?_, by simp⟩
    rw [List.map_append, hrs, List.take_add_one, hq, List.map_append]
    show _ ++ [ts.map (·.1)] = _
    rw [hts]; rfl
  · rintro SP ys news₁ h9 tk9 hJ X9
    revert X9
    refine ex1a3 hJ ?_
    clear hJ
    rintro rs rfl hrs rfl X9
    clear X7 X8 hI
    obtain ⟨⟨a, ta⟩, ⟨b, tb⟩, rfl, hta, htb⟩ := map_two hrs
    dsimp only at hta htb
    refine Led.gen2 (nw := ((SP, listOf #[.ref a, .ref b] 2) :: (b, SL tb 0) :: (a, SL ta 0) :: (tp, tupOf #[.str x tx, .str y ty] 0) :: (L' + 2, oc') :: (L' + 1, os') :: (L, oL) :: news)) (x1 := "paths") (v1 := (.ref tp)) (x2 := "split_paths") (v2 := (.ref SP)) (X9) ((if_neg (by decide)).trans hm2) (if_pos rfl) ?_
    intro m₃ X9 hm3 hm4
    clear hm2 hrs
    first | refine nk _ ?_ | refine ni _ ?_ | refine nt _ ?_ | (try dsimp only)
    -- isabs
    refine Wp.seqH (fun kT nt xt => Wp.try_ (Wp.seqH (fun kK nk xk => Wp.assignT rfl rfl (Wp.setComp (cl := [("sep", L' + 1)]) rfl rfl (by decide +kernel) (by decide +kernel) rfl (fun _ => rfl) X9 ?_))))
    refine Wp.nL rfl rfl rfl X9 hm3 ?_
    refine Wp.itTp (its := #[.str x tx, .str y ty]) (n := 0) X9 mi3 (fun I1 h8 ent hI X8 => ?_)
    refine SetAsk.mk (its := ent) (itTuple hh' I1 tp #[.str x tx, .str y ty]) X8 hI ⟨_, 0, rfl, rfl, .inl mi3⟩ (by simp) (fun _ _ _ h => h.2) ?_ ?_
    · clear X9 X8 hI
      rintro its₁ mC Ca Da oL' oS K1 k1 j v h₁' tk₁' hj ⟨hat, _⟩ ⟨oJ, rfl, cJ, dJ⟩ hmC KL X10
      obtain ⟨q, tq, rfl, hq⟩ : ∃ q tq, v = .str q tq ∧ Txt.startswith q "/" = true := by
        exact at2 (C := fun _ v => ∃ q tq, v = .str q tq ∧ Txt.startswith q "/" = true) ⟨x, tx, rfl, hx⟩ ⟨y, ty, rfl, hy⟩ hj hat
      refine Wp.mcall rfl (Wp.nL rfl rfl rfl X10 hmC ?_)
      refine Wp.strM PySem.F.slot_str_startswith PySem.F.type_str_startswith ?_
      refine Wp.withM rfl rfl (Wp.arg rfl (Wp.nC rfl rfl rfl (c := L' + 1) rfl X10 (.tail _ (.tail _ (.tail _ mi5))) ds' (Wp.args ?_)))
      refine Wp.starts ?_
      rw [hq]
      exact k1 _ _ X10
    · rintro D2 h10 tk10 X10
      clear X9 X8 hI
      refine Wp.assign1 rfl rfl hh' X10 mi0 (fun h11 tk11 X11 => ?_)
      refine Led.gen2 (nw := ((SP, listOf #[.ref a, .ref b] 2) :: (b, SL tb 0) :: (a, SL ta 0) :: (tp, tupOf #[.str x tx, .str y ty] 0) :: (L' + 2, oc') :: (L' + 1, os') :: (L, oL) :: news)) (x1 := "split_paths") (v1 := (.ref SP)) (x2 := "isabs") (v2 := (.bool true)) (X11.sub (.cons _ (List.Sublist.refl _))) ((if_neg (by decide)).trans hm4) (if_pos rfl) ?_
      intro m₅ X11 hm4 hm5
      clear X10 hm3
      refine nk _ (Wp.done ?_)
      try dsimp only
      refine Wp.done ?_
      refine nt _ ?_
      have bda : (∀ c ∈ ta.map (·.1), c.length ≤ 251) ∧ ta.length ≤ 251 := by
        have h1 := split_small lx
        rw [← hta, List.length_map] at h1; exact h1
      have bdb : (∀ c ∈ tb.map (·.1), c.length ≤ 251) ∧ tb.length ≤ 251 := by
        have h1 := split_small ly
        rw [← htb, List.length_map] at h1; exact h1
      -- split_paths = [[c ..] ..]
      refine Wp.seqH (fun kK nk xk => Wp.assignComp (cl := [("curdir", L' + 2)]) rfl rfl rfl (by decide +kernel) (by decide +kernel) rfl (fun _ => rfl) X11 rfl rfl ?_)
      refine Wp.nL rfl rfl rfl X11 hm4 ?_
      refine Wp.itLs (its := #[.ref a, .ref b]) (n := 2) X11 mi0 (fun I1 h12 ent hI X12 => ?_)
      refine Wp.CompAsk.mk (its := ent) (fun j ys nw => ∃ rs : List (Addr × List (Str × Tok) × Nat), ys = rs.map (fun r => Value.ref r.1) ∧ rs.map (fun r => r.2.1.map (·.1)) = ([ta, tb].take j).map (fun q => (q.map (·.1)).filter keepC) ∧ nw = rs.reverse.map (fun r => (r.1, SL r.2.1 r.2.2)) ++ ((SP, listOf #[.ref a, .ref b] 2) :: (b, SL tb 0) :: (a, SL ta 0) :: (tp, tupOf #[.str x tx, .str y ty] 0) :: (L' + 2, oc') :: (L' + 1, os') :: (L, oL) :: news)) (itList hh' I1 SP #[.ref a, .ref b]) X12 hI ⟨[], rfl, rfl, rfl⟩ ?_ (by simp) (fun _ _ _ h => h.2) ?_ ?_
      · rintro _ _ _ ⟨rs, _, _, rfl⟩
        exact srcL (List.mem_append_right _ mi0)
      · clear X11 X12 hI
        rintro j ys Ca Da oL' K1 K2 k1 k2 v its₁ news₁ h₁' tk₁' mC hj _ ⟨hat, _⟩ ⟨oJ, rfl, cJ, dJ⟩ hJ hmC KL X13
        revert hmC KL X13
        refine ex1a3 hJ ?_
        clear hJ
        rintro rs rfl hrs rfl hmC KL X13
        obtain ⟨c, tc, hc, rfl, hcm, bdc⟩ : ∃ c tc, [ta, tb][j]? = some tc ∧ v = .ref c ∧ (c, SL tc 0) ∈ (SP, listOf #[.ref a, .ref b] 2) :: (b, SL tb 0) :: (a, SL ta 0) :: (tp, tupOf #[.str x tx, .str y ty] 0) :: (L' + 2, oc') :: (L' + 1, os') :: (L, oL) :: news ∧ ((∀ c ∈ tc.map (·.1), c.length ≤ 251) ∧ tc.length ≤ 251) := by
          exact at2 (C := fun j v => ∃ c tc, [ta, tb][j]? = some tc ∧ v = .ref c ∧ (c, SL tc 0) ∈ (SP, listOf #[.ref a, .ref b] 2) :: (b, SL tb 0) :: (a, SL ta 0) :: (tp, tupOf #[.str x tx, .str y ty] 0) :: (L' + 2, oc') :: (L' + 1, os') :: (L, oL) :: news ∧ ((∀ c ∈ tc.map (·.1), c.length ≤ 251) ∧ tc.length ≤ 251)) ⟨a, ta, rfl, rfl, mi2, bda⟩ ⟨b, tb, rfl, rfl, mi1, bdb⟩ hj hat
        refine Wp.test0 ?_
        refine Wp.comp (cl := [("curdir", L' + 2)]) rfl rfl (by decide +kernel) (by decide +kernel) rfl (fun _ => rfl) X13 ?_
        refine Wp.nL rfl rfl rfl X13 hmC ?_
        refine Wp.itLs (its := (tc.map vstr).toArray) (n := 0) X13 (.tail _ (.tail _ (List.mem_append_right _ (List.mem_append_right _ hcm)))) (fun I2 h14 ent2 hI2 X14 => ?_)
        refine Wp.CompAsk.mk (its := ent2) (fun k zs nw => ∃ us : List (Str × Tok), zs = us.map vstr ∧ us.map (·.1) = ((tc.map (·.1)).take k).filter keepC ∧ nw = (L', oL') :: (Da, lst (rs.map (fun r => Value.ref r.1))) :: ([(I1, oJ)] ++ (rs.reverse.map (fun r => (r.1, SL r.2.1 r.2.2)) ++ ((SP, listOf #[.ref a, .ref b] 2) :: (b, SL tb 0) :: (a, SL ta 0) :: (tp, tupOf #[.str x tx, .str y ty] 0) :: (L' + 2, oc') :: (L' + 1, os') :: (L, oL) :: news)))) (itList hh' I2 c (tc.map vstr).toArray) X14 hI2 ⟨[], rfl, rfl, rfl⟩ ?_ (by simp; omega) (fun _ _ _ h => h.2) ?_ ?_
        · rintro _ _ _ ⟨us, _, _, rfl⟩
          exact srcL (.tail _ (.tail _ (List.mem_append_right _ (List.mem_append_right _ hcm))))
        · clear X13 X14 hI2
          rintro k ys₂ Cb Db oL2 K3 K4 k3 k4 v its₂ news₂ h₂' tk₂' mC2 hk _ ⟨hat2, _⟩ ⟨oK, rfl, cK, dK⟩ hJ hmC2 KL2 X15
          revert hmC2 KL2 X15
          refine ex1a3 hJ ?_
          clear hJ
          rintro us rfl hus rfl hmC2 KL2 X15
          obtain ⟨q, hq, rfl⟩ : ∃ q, tc[k]? = some q ∧ v = vstr q := by
            rw [List.getElem?_toArray, List.getElem?_map] at hat2
            obtain ⟨q, h1, h2⟩ := Option.map_eq_some_iff.mp hat2
            exact ⟨q, h1, h2.symm⟩
          have lq := bdc.1 q.1 (List.mem_map.mpr ⟨q, List.mem_of_getElem? hq, rfl⟩)
          have htake : (tc.map (·.1)).take (k + 1) = (tc.map (·.1)).take k ++ [q.1] := by
            rw [List.take_add_one, List.getElem?_map, hq]; rfl
          have skip : keepC q.1 = false → us.map (·.1) = ((tc.map (·.1)).take (k + 1)).filter keepC := fun e => by
            rw [htake, List.filter_append, List.filter_cons, e, hus]; simp
          have take : keepC q.1 = true → (us ++ [q]).map (·.1) = ((tc.map (·.1)).take (k + 1)).filter keepC := fun e => by
            rw [htake, List.filter_append, List.filter_cons, e, List.map_append, hus]; rfl
          refine Wp.test1 (Wp.truthAnd2 (Wp.truthOf rfl (Wp.nL rfl rfl rfl X15 hmC2 (Wp.truthStB (Nat.le_trans lq (by decide)) (fun e0 => ?_) (fun e0 => ?_)))))
          · refine k4 _ _ _ [(I2, oK)] _ ⟨oK, rfl, cK, dK⟩ X15 ⟨us, rfl, skip ?_, rfl⟩
            unfold keepC; rw [decide_eq_true e0]; rfl
          · refine Wp.truthCmp rfl (Wp.nL rfl rfl rfl X15 hmC2 ?_)
            refine Wp.nC rfl rfl rfl (c := L' + 2) rfl X15 (.tail _ (.tail _ (List.mem_append_right _ (.tail _ (.tail _ (List.mem_append_right _ (List.mem_append_right _ mi4))))))) dc' ?_
            refine Wp.neStr (Wp.truthBI (fun e1 => ?_) (fun e1 => ?_))
            · refine k4 _ _ _ [(I2, oK)] _ ⟨oK, rfl, cK, dK⟩ X15 ⟨us, rfl, skip ?_, rfl⟩
              unfold keepC
              rw [show (!decide (q.1 = ".")) = false from e1, Bool.and_false]
            · refine Wp.nL rfl rfl rfl X15 hmC2 ?_
              refine k3 _ _ _ _ [(I2, oK)] _ ⟨oK, rfl, cK, dK⟩ X15 ⟨us ++ [q], by rw [List.map_append]; rfl, take ?_, rfl⟩
              unfold keepC
              rw [decide_eq_false e0, show (!decide (q.1 = ".")) = true from e1]; rfl
        · rintro Db ys₂ news₂ h15 tk15 hJ X15
          revert X15
          refine ex1a3 hJ ?_
          clear hJ
          rintro us rfl hus rfl X15
          clear X13 X14 hI2
          have htk : (tc.map (·.1)).take (tc.map vstr).toArray.size = tc.map (·.1) := List.take_of_length_le (by simp)
          rw [htk] at hus
          refine k1 _ _ _ _ [(I1, oJ)] ((Db, SL us (us.map vstr).length) :: (rs.reverse.map (fun r => (r.1, SL r.2.1 r.2.2)) ++ ((SP, listOf #[.ref a, .ref b] 2) :: (b, SL tb 0) :: (a, SL ta 0) :: (tp, tupOf #[.str x tx, .str y ty] 0) :: (L' + 2, oc') :: (L' + 1, os') :: (L, oL) :: news))) ⟨oJ, rfl, cJ, dJ⟩ (X15.perm (List.perm_middle (l₁ := [_, _, _])).symm) ⟨rs ++ [(Db, us, (us.map vstr).length)], by simp, ?_, by simp⟩
          rw [List.map_append, hrs, List.take_add_one, hc, List.map_append]
          show _ ++ [us.map (·.1)] = _
          rw [hus]; rfl
      · rintro SP2 ys news₁ h12 tk12 hJ X12
        revert X12
        refine ex1a3 hJ ?_
        clear hJ
        rintro rs rfl hrs rfl X12
        clear X11 hI
        obtain ⟨⟨a', ta', na⟩, ⟨b', tb', nb⟩, rfl, hta', htb'⟩ := map_two hrs
        dsimp only at hta' htb'
        refine Led.gen2 (nw := ((SP2, listOf #[.ref a', .ref b'] 2) :: (b', SL tb' nb) :: (a', SL ta' na) :: (L' + 1, os') :: (L, oL) :: news)) (x1 := "split_paths") (v1 := (.ref SP2)) (x2 := "isabs") (v2 := (.bool true)) (X12.sub (.cons_cons _ (.cons_cons _ (.cons_cons _ (.cons _ (.cons _ (.cons _ (.cons _ (.cons _ (List.Sublist.refl _)))))))))) (if_pos rfl) ((if_neg (by decide)).trans hm5) ?_
        intro m₆ X13 hm6 hm7
        clear X12 hm4 hm5 hrs
        have eA : ta'.map (·.1) = spl x := by rw [hta', hta]; rfl
        have eB : tb'.map (·.1) = spl y := by rw [htb', htb]; rfl
        have lA : (∀ c ∈ ta'.map (·.1), c.length ≤ 251) ∧ ta'.length ≤ 251 := by
          refine ⟨fun c hc => bda.1 c (List.mem_filter.mp (hta' ▸ hc)).1, ?_⟩
          have h1 := congrArg List.length hta'
          rw [List.length_map] at h1
          have h2 := List.length_filter_le keepC (ta.map (·.1))
          rw [List.length_map] at h2
          have := bda.2; omega
        have lB : (∀ c ∈ tb'.map (·.1), c.length ≤ 251) ∧ tb'.length ≤ 251 := by
          refine ⟨fun c hc => bdb.1 c (List.mem_filter.mp (htb' ▸ hc)).1, ?_⟩
          have h1 := congrArg List.length htb'
          rw [List.length_map] at h1
          have h2 := List.length_filter_le keepC (tb.map (·.1))
          rw [List.length_map] at h2
          have := bdb.2; omega
        clear bda bdb hta' htb' hta htb
        first | refine nk _ ?_ | refine ni _ ?_ | refine nt _ ?_ | (try dsimp only)
        obtain ⟨p, tp', np, q, tq', nq, ep, eq', hp1, hq1, hlcp, hsh, lP, lQ⟩ : ∃ p tp' np q tq' nq, (if lexOp false (tb'.map (·.1)) (ta'.map (·.1)) then b' else a') = p ∧ (if lexOp true (tb'.map (·.1)) (ta'.map (·.1)) then b' else a') = q ∧
            (p, SL tp' np) ∈ [(SP2, listOf #[.ref a', .ref b'] 2), (b', SL tb' nb), (a', SL ta' na)] ∧ (q, SL tq' nq) ∈ [(SP2, listOf #[.ref a', .ref b'] 2), (b', SL tb' nb), (a', SL ta' na)] ∧ lcp (tp'.map (·.1)) (tq'.map (·.1)) = lcp (spl x) (spl y) ∧
            (∀ i, (tp'.map (·.1)).take i = (tq'.map (·.1)).take i → i < tp'.length → i < tq'.length) ∧ ((∀ c ∈ tp'.map (·.1), c.length ≤ 251) ∧ tp'.length ≤ 251) ∧ ((∀ c ∈ tq'.map (·.1), c.length ≤ 251) ∧ tq'.length ≤ 251) := by
          rcases lex_three (ta'.map (·.1)) (tb'.map (·.1)) with ⟨e1, e2, e3⟩ | ⟨e2, e3⟩ | ⟨e2, e3⟩
          · refine ⟨a', ta', na, a', ta', na, by rw [e2]; rfl, by rw [e3]; rfl, mi2, mi2, ?_, fun i _ h => h, lA, lA⟩
            rw [← eA, ← eB, ← e1]
          · refine ⟨b', tb', nb, a', ta', na, by rw [e2]; rfl, by rw [e3]; rfl, mi1, mi2, ?_, fun i h1 h2 => ?_, lB, lA⟩
            · rw [← eA, ← eB, lcp_comm]
            · have := lex_short (tb'.map (·.1)) (ta'.map (·.1)) i ((lex_flip _ _).trans e2) h1 (by simpa using h2)
              simpa using this
          · refine ⟨a', ta', na, b', tb', nb, by rw [e2]; rfl, by rw [e3]; rfl, mi2, mi1, ?_, fun i h1 h2 => ?_, lA, lB⟩
            · rw [← eA, ← eB]
            · have := lex_short (ta'.map (·.1)) (tb'.map (·.1)) i e3 h1 (by simpa using h2)
              simpa using this
        have memb : ∀ {c : Addr} {o : Obj}, (c, o) ∈ [(SP2, listOf #[.ref a', .ref b'] 2), (b', SL tb' nb), (a', SL ta' na)] → (c, o) ∈ (SP2, listOf #[.ref a', .ref b'] 2) :: (b', SL tb' nb) :: (a', SL ta' na) :: (L' + 1, os') :: (L, oL) :: news := fun h =>
          List.mem_append_left ((L' + 1, os') :: (L, oL) :: news) h
        -- s1 = min, s2 = max, common = s1
        refine Wp.seqH (fun kK nk xk => Wp.assign rfl ?_)
        refine Wp.callN (Wp.nB (by decide) rfl rfl rfl rfl rfl X13 KX T (by k_is) PyProof.Rows.Boot.«min» ?_)
        refine Wp.withB rfl rfl (Wp.arg rfl (Wp.nL rfl rfl rfl X13 hm6 (Wp.args ?_)))
        refine Wp.min2 hh' (dn huni' (by decide)) X13 mi0 mi2 mi1 (fun h14 tk14 X14 => ?_)
        rw [ep]
        refine Wp.sL rfl rfl X14 (fun h15 X15 => ?_)
        first | refine nk _ ?_ | refine ni _ ?_ | refine nt _ ?_ | (try dsimp only)
        clear X13 X14
        refine Wp.seqH (fun kK nk xk => Wp.assign rfl ?_)
        refine Wp.callN (Wp.nB (by decide) rfl rfl rfl rfl rfl X15 KX T (by k_is) PyProof.Rows.Boot.«max» ?_)
        refine Wp.withB rfl rfl (Wp.arg rfl (Wp.nL rfl rfl rfl X15 ((if_neg (by decide)).trans hm6) (Wp.args ?_)))
        refine Wp.max2 hh' (dn huni' (by decide)) X15 mi0 mi2 mi1 (fun h16 tk16 X16 => ?_)
        rw [eq']
        refine Wp.sL rfl rfl X16 (fun h17 X17 => ?_)
        first | refine nk _ ?_ | refine ni _ ?_ | refine nt _ ?_ | (try dsimp only)
        clear X15 X16
        refine Led.gen3 (nw := ((SP2, listOf #[.ref a', .ref b'] 2) :: (b', SL tb' nb) :: (a', SL ta' na) :: (L' + 1, os') :: (L, oL) :: news)) (x1 := "isabs") (v1 := (.bool true)) (x2 := "s1") (v2 := (.ref p)) (x3 := "s2") (v3 := (.ref q)) (X17) ((if_neg (by decide)).trans ((if_neg (by decide)).trans hm7)) ((if_neg (by decide)).trans (if_pos rfl)) (if_pos rfl) ?_
        intro m₇ X17 n1 n2 n3
        clear hm6 hm7
        refine Wp.seqH (fun kK nk xk => Wp.assign rfl (Wp.nL rfl rfl rfl X17 n2 ?_))
        refine Wp.sL rfl rfl X17 (fun h18 X18 => ?_)
        first | refine nk _ ?_ | refine ni _ ?_ | refine nt _ ?_ | (try dsimp only)
        clear X17
        refine Led.gen4 (nw := ((SP2, listOf #[.ref a', .ref b'] 2) :: (b', SL tb' nb) :: (a', SL ta' na) :: (L' + 1, os') :: (L, oL) :: news)) (x1 := "isabs") (v1 := (.bool true)) (x2 := "s1") (v2 := (.ref p)) (x3 := "s2") (v3 := (.ref q)) (x4 := "common") (v4 := (.ref p)) (X18) ((if_neg (by decide)).trans n1) ((if_neg (by decide)).trans n2) ((if_neg (by decide)).trans n3) (if_pos rfl) ?_
        intro m₈ X18 n1 n2 n3 n4
        -- the loop
        obtain ⟨QQ, hQQ⟩ : ∃ QQ : Flow → Shared → Prop, QQ = fun f s' => f = .next ∧ ∃ h tk m' c tc nc, s' = { s with heap := h, toks := tk } ∧ Led h₀ L' h m' ((c, SL tc nc) :: (L' + 1, os') :: (L, oL) :: news) ∧ tc.map (·.1) = lcp (spl x) (spl y) ∧ ((∀ c ∈ tc.map (·.1), c.length ≤ 251) ∧ tc.length ≤ 251) ∧ m' "common" = some (.ref c) ∧ m' "isabs" = some (.bool true) := ⟨_, rfl⟩
        refine Wp.seqH (fun kK nk xk => Wp.mono (Q := QQ)
          (Wp.forEn (h₀ := h₀) (fun _ => rfl) hh' rfl rfl rfl ?_) (fun f s' hq => ?_))
        · refine Wp.callN (Wp.nB (by decide) rfl rfl rfl rfl rfl X18 KX T (by k_is) PyProof.Rows.Boot.«enumerate» ?_)
          refine Wp.withT rfl rfl (Wp.arg rfl (Wp.nL rfl rfl rfl X18 n2 (Wp.args ?_)))
          refine enumL (items := (tp'.map vstr).toArray) (n := np) X18 (memb hp1) (fun e I1 oI h19 hI X19 => ?_)
          refine EnAsk.mk (l := p) (items := (tp'.map vstr).toArray) (n := np) (fun i m₁ nw => nw = (SP2, listOf #[.ref a', .ref b'] 2) :: (b', SL tb' nb) :: (a', SL ta' na) :: (L' + 1, os') :: (L, oL) :: news ∧ m₁ "isabs" = some (.bool true) ∧ m₁ "s1" = some (.ref p) ∧ m₁ "s2" = some (.ref q) ∧ m₁ "common" = some (.ref p) ∧ (tp'.map (·.1)).take i = (tq'.map (·.1)).take i) X19 hI ⟨rfl, n1, n2, n3, n4, rfl⟩ ?_ ?_ ?_
          · rintro _ _ _ ⟨rfl, _⟩
            exact memb hp1
          · clear X18 X19 hI n1 n2 n3 n4
            rintro i eo oI' K kN kX v tki m₁ news₁ h20 tk20 hv ⟨rfl, n1, n2, n3, n4, hpre⟩ _ X20
            obtain ⟨z, hz, rfl⟩ : ∃ z, tp'[i]? = some z ∧ v = vstr z := by
              rw [List.getElem?_toArray, List.getElem?_map] at hv
              obtain ⟨z, h1, h2⟩ := Option.map_eq_some_iff.mp hv
              exact ⟨z, h1, h2.symm⟩
            have hip : i < tp'.length := (List.getElem?_eq_some_iff.mp hz).1
            have hiq := hsh i hpre hip
            obtain ⟨z2, hz2⟩ : ∃ z2, tq'[i]? = some z2 := ⟨_, List.getElem?_eq_getElem hiq⟩
            have lPi := lP.2
            refine Led.gen6 (nw := ((e, eo) :: (I1, oI') :: (SP2, listOf #[.ref a', .ref b'] 2) :: (b', SL tb' nb) :: (a', SL ta' na) :: (L' + 1, os') :: (L, oL) :: news)) (x1 := "isabs") (v1 := (.bool true)) (x2 := "s1") (v2 := (.ref p)) (x3 := "s2") (v3 := (.ref q)) (x4 := "common") (v4 := (.ref p)) (x5 := "i") (v5 := (.int (i : Nat) tki)) (x6 := "c") (v6 := (vstr z)) (X20) ((if_neg (by decide)).trans ((if_neg (by decide)).trans n1)) ((if_neg (by decide)).trans ((if_neg (by decide)).trans n2)) ((if_neg (by decide)).trans ((if_neg (by decide)).trans n3)) ((if_neg (by decide)).trans ((if_neg (by decide)).trans n4)) ((if_neg (by decide)).trans (if_pos rfl)) (if_pos rfl) ?_
            intro m₉ X20 k1 k2 k3 k4 k5 k6
            clear n1 n2 n3 n4
            refine Wp.seqH (fun kI ni xi => Wp.iff (Wp.truthCmp rfl (Wp.nL rfl rfl rfl X20 k6 ?_)))
            refine Wp.sub (Wp.nL rfl rfl rfl X20 k3 (Wp.nL rfl rfl rfl X20 k5 ?_))
            refine Wp.item (v := vstr z2) (by with_unfolding_all rfl) X20 (mt2 (memb hq1)) (Int.natCast_nonneg _) (ns (Nat.lt_of_lt_of_le hip lPi) (by decide)) (by simp [hz2]) ?_
            refine Wp.neStr (Wp.truthBI (fun e1 => ?_) (fun e1 => ?_))
            · refine Wp.done ?_
              first | refine nk _ ?_ | refine ni _ ?_ | refine nt _ ?_ | (try dsimp only)
              refine Wp.done ?_
              refine kN _ _ _ _ X20 ⟨rfl, k1, k2, k3, k4, ?_⟩
              have e2 : z.1 = z2.1 := by simpa using e1
              rw [List.take_add_one, List.take_add_one, hpre, List.getElem?_map, List.getElem?_map, hz, hz2]
              simp [e2]
            · have e2 : z.1 ≠ z2.1 := by simpa using e1
              refine Wp.seqH (fun kK nk xk => Wp.assign rfl (Wp.sub (Wp.nL rfl rfl rfl X20 k2 ?_)))
              refine Wp.eSlice (Wp.part0 (Wp.part1 (Wp.nL rfl rfl rfl X20 k5 (Wp.part0 ⟨_, _, _, _, X20, fun sa h21 X21 => ?_⟩))))
              refine Wp.tSlice (zs := (tp'.take i).map vstr) (by with_unfolding_all rfl) X21 (mt3 (memb hp1)) mi0 .none (.int (i : Nat) _) .none (by decide) (by simp; omega) ?_ (fun d h22 X22 => ?_)
              · rw [slicePick_upto']; simp
              refine Wp.sL rfl rfl X22 (fun h23 X23 => ?_)
              first | refine nk _ ?_ | refine ni _ ?_ | refine nt _ ?_ | (try dsimp only)
              refine Wp.seq (Wp.brk ?_)
              have hcut : (tp'.take i).map (·.1) = lcp (spl x) (spl y) := by
                rw [← hlcp, List.map_take]
                refine (lcp_at _ _ i hpre (by simpa using hip) (fun h2 => ?_)).symm
                have g1 : tp'[i] = z := by have := List.getElem?_eq_getElem hip; rw [hz] at this; exact (Option.some.inj this).symm
                have g2 : tq'[i] = z2 := by have := List.getElem?_eq_getElem hiq; rw [hz2] at this; exact (Option.some.inj this).symm
                simp only [List.getElem_map, g1, g2]; exact e2
              try dsimp only
              refine xi.brk _ ?_
              refine kX.brk _ ?_
              rw [hQQ]
              refine ⟨rfl, _, _, _, d, tp'.take i, 0, rfl, X23.sub (.cons_cons _ (.cons _ (.cons _ (.cons _ (.cons _ (.cons _ (.cons _ (List.Sublist.refl _)))))))), hcut, ⟨fun c hc => lP.1 c ?_, ?_⟩, if_pos rfl, (if_neg (by decide)).trans k1⟩
              · rw [List.map_take] at hc; exact List.mem_of_mem_take hc
              · rw [List.length_take]; omega
          · clear X18 X19 hI n1 n2 n3 n4
            rintro m₁ news₁ h20 tk20 ⟨rfl, n1, n2, n3, n4, hpre⟩ X20
            have hsz : (tp'.map vstr).toArray.size = (tp'.map (·.1)).length := by simp
            rw [hsz, List.take_of_length_le (Nat.le_refl _)] at hpre
            have hw : tp'.map (·.1) = lcp (spl x) (spl y) := by rw [← hlcp]; exact (lcp_whole _ _ hpre).symm
            have X21 : Led h₀ L' h20 m₁ ((p, SL tp' np) :: (L' + 1, os') :: (L, oL) :: news) := by
              simp only [List.mem_cons, List.not_mem_nil, or_false] at hp1
              rcases hp1 with e1 | e1 | e1
              · rw [e1]; exact X20.sub (.cons_cons _ (.cons _ (.cons _ (List.Sublist.refl _))))
              · rw [e1]; exact X20.sub (.cons _ (.cons_cons _ (.cons _ (List.Sublist.refl _))))
              · rw [e1]; exact X20.sub (.cons _ (.cons _ (.cons_cons _ (List.Sublist.refl _))))
            rw [hQQ]
            exact ⟨rfl, _, _, _, p, tp', np, rfl, X21, hw, lP, n4, n1⟩
        · clear X18 n1 n2 n3 n4
          rw [hQQ] at hq
          obtain ⟨rfl, h19, tk19, m', c, tc, nc, rfl, X19, htc, lC, n4, n1⟩ := hq
          first | refine nk _ ?_ | refine ni _ ?_ | refine nt _ ?_ | (try dsimp only)
          refine Wp.seqH (fun kK nk xk => Wp.assign rfl (Wp.ifExp (Wp.truthOf rfl (Wp.nL rfl rfl rfl X19 n1 (Wp.truthB ?_)))))
          refine Wp.nC rfl rfl rfl (c := L' + 1) rfl X19 mi1 ds' ?_
          refine Wp.sL rfl rfl X19 (fun h20 X20 => ?_)
          first | refine nk _ ?_ | refine ni _ ?_ | refine nt _ ?_ | (try dsimp only)
          refine Wp.seq (Wp.ret (Wp.bin (Wp.nL rfl rfl rfl X20 (v := .str "/" tks) (if_pos rfl) ?_)))
          refine Wp.mcall rfl (Wp.nC rfl rfl rfl (c := L' + 1) rfl X20 mi1 ds' ?_)
          refine Wp.strM PySem.F.slot_str_join PySem.F.type_str_join ?_
          refine Wp.withM rfl rfl (Wp.arg rfl (Wp.nL rfl rfl rfl X20 ((if_neg (by decide)).trans n4) (Wp.args ?_)))
          have hsum := sum_le 251 (tc.map (·.1)) lC.1
          have hone : (Str.ofString "/").length = 1 := by decide
          rw [List.length_map] at hsum
          have lC2 := lC.2
          have hjl := join_len "/" (tc.map (·.1))
          rw [hone, List.length_map] at hjl
          refine Wp.join X20 mi0 (by rw [hone]; omega) (fun t1 k1' => ?_)
          refine Wp.addS (by rw [hone]; omega) (fun t2 tk21 => ?_)
          rw [htc]
          try dsimp only
          refine xR.ret _ _ ?_
          exact h _ _ _ (Led.back (sl := oL.slots) C (X20.sub (.cons _ (.cons _ (List.Sublist.refl _)))))
end
end Mine
end

section
open PySem PySem.W PyProof.Rows PySem.Calls PySem.Spec
set_option maxRecDepth 100000
set_option linter.unusedVariables false
set_option maxHeartbeats 2000000
namespace Mine
section
variable {prog : Program} {w : World} {A : Around} {s : Shared} {h₀ : Heap} {L : Addr} {m : Str → Option Value} {news : List (Addr × Obj)} {K : Frag} {p : Program} {loose : List Str} {mean : ExcName → Option Value} {mg mb : Str → Option Value}
    {R : Result → Shared → Prop} {name qual : Str} {params : Arguments} {body : List Stmt} {scope : Scope} {dV kV doc pm cdv ct oc : Value} {an od : Option Addr} {osl : Array (Option Value)} {f : Addr} {args : Args} {binds : List (Str × Value)}

theorem enterCT (X : Led h₀ L s.heap m news) (KX : K.In h₀) (T : Top p loose mean mg mb h₀)
    (ho : K.lookup f = some ⟨oc, od, .func (fnOf name qual params body scope dV kV doc pm an cdv ct), osl⟩) (hcd : codeIn K cdv qual = true) (hroom : A.depth < recursionLimit)
    (hbind : BindsTo s (fnOf name qual params body scope dV kV doc pm an cdv ct) args binds)
    (hkind : (binds.all fun y => scope.names.lookup y.1 == some .local || scope.names.lookup y.1 == some .cell) = true)
    (hnd : ((cellsFrom 0 scope.names []).map (·.1)).Nodup)
    (h : ∀ oL h₁ tk cells, s.toks ≤ tk → TI.Caller h₀ L m oL → CellsAre (bindC (envOfC qual scope s.heap.objs.size f cdv).kindOf binds fun _ => none) (cellsFrom (s.heap.objs.size + 1) scope.names []) cells →
      (cells.map (·.1) = (cellsFrom (s.heap.objs.size + 1) scope.names []).map (·.2) → (cells.map (·.1)).Nodup → Led h₀ s.heap.objs.size h₁ (bindL (envOfC qual scope s.heap.objs.size f cdv).kindOf binds fun _ => none) (cells ++ (L, oL) :: news)) →
      wpAny (model prog w) (A.deeper (envOfC qual scope s.heap.objs.size f cdv)) (execs body (envOfC qual scope s.heap.objs.size f cdv))
        (fun fl s' => R (.ok (.ret (match fl with | .ret v => v | _ => .none))) s') No { s with heap := h₁, toks := tk })
    (hco : scope.isCoroutine = false := by rfl) (hgen : scope.isGenerator = false := by rfl) (hk : scope.kind = .function := by rfl) : codeAny (model prog w) A (.call (.ref f) args) R s := by
  have F := X.fr
  have KS := KX.keeps F.keep
  obtain ⟨oL, es, ep, hL, hLd, hLk, hLf⟩ := F.ns
  have hLt := Heap.lt_size hL
  refine codeAny_call_function hroom (KS _ _ ho) rfl hco hgen rfl (codeRec_of KS hcd) (hbind _ _ _ _ ?_)
  refine wpAny_mono (wpAny_toks (wpAny_newFunctionEnv_cells (E := No) (Q := fun env' s' => _ ∧ _) hk (kindsX hkind _) fun env' he s' x => ⟨he, x⟩)) (fun env' s' y => ?_) fun _ _ y => y.2.elim
  obtain ⟨htk, he, x⟩ := y
  subst he
  refine ⟨(T.nolimit.keeps F.keep).keeps x.toInCall.keep, codeAny_func ?_⟩
  obtain ⟨h₁, tk, rfl, _⟩ := x.done
  have hk₁ := x.toInCall.keep
  obtain ⟨cells, NC, Y⟩ := Cl.news (h₀ := s.heap) (Nat.le_refl _) fun n c hm => ⟨x.cell n c (lookup_of_mem_nodup (cellsFrom_names scope.names 0 (s.heap.objs.size + 1) [] [] rfl ▸ hnd) hm), x.above n c hm⟩
  refine wpAny_mono (h oL h₁ tk cells htk ⟨fun h' sl e => ⟨_, es, ep, e, hLd, hLk, hLf⟩, ⟨es, ep, hLd⟩, F.above⟩ Y (fun hcs hcn => ⟨⟨x.toInCall.ns, fun b o e => hk₁ b o (F.keep b o e), Nat.le_trans F.above (Nat.le_of_lt hLt)⟩, fun p hp => ?_, ?_⟩)) (fun _ _ y => y) fun _ _ y => y.elim
  · rcases List.mem_append.mp hp with hp | hp
    · refine ⟨(NC p hp).1, (NC p hp).2.1, ?_⟩
      cases q : h₀.get? p.1 with
      | none => rfl
      | some o => have := F.keep _ _ q; rw [(NC p hp).2.2] at this; cases this
    · rcases List.mem_cons.mp hp with rfl | hp
      · exact ⟨hk₁ _ _ hL, Nat.ne_of_lt hLt, Heap.get?_none_of_le F.above⟩
      · obtain ⟨h1, h2, h3⟩ := X.nw p hp
        exact ⟨hk₁ _ _ h1, Nat.ne_of_lt (Heap.lt_size h1), h3⟩
  · rw [List.map_append]
    refine List.nodup_append.mpr ⟨hcn, ?_, ?_⟩
    · rw [List.map_cons]
      refine List.nodup_cons.mpr ⟨fun hm => ?_, X.nd⟩
      obtain ⟨p, hp, e⟩ := List.mem_map.mp hm
      exact (X.nw p hp).2.1 e
    · intro a ha b hb e
      subst e
      obtain ⟨q, hq, rfl⟩ := List.mem_map.mp ha
      have hn := (NC q hq).2.2
      rw [List.map_cons] at hb
      rcases List.mem_cons.mp hb with e | hb
      · rw [e, hL] at hn; cases hn
      · obtain ⟨z, hz, e⟩ := List.mem_map.mp hb
        have h1 := (X.nw z hz).1
        rw [e, hn] at h1; cases h1
end
theorem Wp.intoCT {hp0 : Heap} {tk0 : Nat} {w : World} {A : Around} {s : Shared} {h₀ : Heap} {L : Addr} {m : Str → Option Value} {news : List (Addr × Obj)} {K : Frag} {p : Program} {loose : List Str} {mean : ExcName → Option Value} {mg mb : Str → Option Value}
    {Q : Value → Shared → Prop} {name qual : Str} {params : Arguments} {body : List Stmt} {scope : Scope} {dV kV doc pm cdv ct oc : Value} {an od : Option Addr} {osl : Array (Option Value)} {f : Addr} {args : List Value} {binds : List (Str × Value)}
    (hco : scope.isCoroutine = false) (hgen : scope.isGenerator = false) (hk : scope.kind = .function) (X : Led h₀ L hp0 m news) (KX : K.In h₀) (T : Top p loose mean mg mb h₀)
    (ho : K.lookup f = some ⟨oc, od, .func (fnOf name qual params body scope dV kV doc pm an cdv ct), osl⟩) (hcd : codeIn K cdv qual = true) (hroom : A.depth < recursionLimit)
    (hbind : BindsTo { s with heap := hp0, toks := tk0 } (fnOf name qual params body scope dV kV doc pm an cdv ct) ⟨args, []⟩ binds)
    (hkind : (binds.all fun y => scope.names.lookup y.1 == some .local || scope.names.lookup y.1 == some .cell) = true)
    (hnd : ((cellsFrom 0 scope.names []).map (·.1)).Nodup)
    (h : ∀ A' oL h₁ tk cells, tk0 ≤ tk → Under A A' (envOfC qual scope hp0.objs.size f cdv) → TI.Caller h₀ L m oL → CellsAre (bindC (envOfC qual scope hp0.objs.size f cdv).kindOf binds fun _ => none) (cellsFrom (hp0.objs.size + 1) scope.names []) cells →
      (cells.map (·.1) = (cellsFrom (hp0.objs.size + 1) scope.names []).map (·.2) → (cells.map (·.1)).Nodup → Led h₀ hp0.objs.size h₁ (bindL (envOfC qual scope hp0.objs.size f cdv).kindOf binds fun _ => none) (cells ++ (L, oL) :: news)) →
      Wp w A' (execs body (envOfC qual scope hp0.objs.size f cdv))
        (fun fl s' => Q (match fl with | .ret v => v | _ => .none) s') { s with heap := h₁, toks := tk }) : Wp w A (PySem.call (.ref f) args) Q { s with heap := hp0, toks := tk0 } := by
  refine ⟨wpAny_call ?_⟩
  exact enterCT X KX T ho hcd hroom hbind hkind hnd (fun oL h₁ tk cells a0 a b c => (h _ oL h₁ tk cells a0 (Under.mk' _ _) a b c).out) hco hgen hk


section
variable {w : World} {A : Around} {s : Shared} {h₀ : Heap} {L : Addr} {m : Str → Option Value} {news : List (Addr × Obj)} {K : Frag} {p : Program} {loose : List Str} {mean : ExcName → Option Value} {mg mb : Str → Option Value}
    {Q : Value → Shared → Prop} {name qual : Str} {params : Arguments} {body : List Stmt} {scope : Scope} {dV kV doc pm cdv ct oc : Value} {an od : Option Addr} {osl : Array (Option Value)} {f : Addr} {args : List Value}
theorem Wp.intoDT {hp0 : Heap} {tk0 : Nat} {binds : List (Str × Value)} (hco : scope.isCoroutine = false) (hgen : scope.isGenerator = false) (hk : scope.kind = .function) (X : Led h₀ L hp0 m news) (KX : K.In h₀) (T : Top p loose mean mg mb h₀)
    (ho : K.lookup f = some ⟨oc, od, .func (fnOf name qual params body scope dV kV doc pm an cdv ct), osl⟩) (hcd : codeIn K cdv qual = true) (hroom : A.depth < recursionLimit)
    (hbind : BindsTo { s with heap := hp0, toks := tk0 } (fnOf name qual params body scope dV kV doc pm an cdv ct) ⟨args, []⟩ binds) (hloc : ∀ y ∈ binds, scope.names.lookup y.1 = some .local) (hcell : ∀ x ∈ scope.names, x.2 ≠ .cell)
    (h : ∀ A' oL h₁ tk, tk0 ≤ tk → Under A A' (envOf qual scope hp0.objs.size f cdv) → TI.Caller h₀ L m oL → Led h₀ hp0.objs.size h₁ (fun y => binds.reverse.lookup y) ((L, oL) :: news) →
      Wp w A' (execs body (envOf qual scope hp0.objs.size f cdv)) (fun fl s' => Q (match fl with | .ret v => v | _ => .none) s') { s with heap := h₁, toks := tk }) : Wp w A (PySem.call (.ref f) args) Q { s with heap := hp0, toks := tk0 } := by
  refine ⟨wpAny_call ?_⟩
  exact enterD X KX T ho hcd hroom hbind hloc (fun oL h₁ a b => (h _ oL h₁ _ (Nat.le_add_right _ _) (Under.mk' _ _) a b).out) hco hgen hk hcell
end
end Mine
end

section
open PySem PySem.W PyProof.Rows PySem.Calls PySem.Spec
set_option maxRecDepth 100000
set_option maxHeartbeats 1000000
set_option linter.unusedVariables false
namespace Mine
noncomputable def mess (y : Str) : Str := Txt.replace y "/" "//./"
noncomputable def isBelow (x y : Str) : Bool := cpS x (mess y) == x
section
variable {w : World} {A : Around} {s : Shared} {h₀ : Heap} {L : Addr} {m : Str → Option Value} {news : List (Addr × Obj)} {p : Program} {loose : List Str} {mean : ExcName → Option Value} {mg mb : Str → Option Value} {Q : Value → Shared → Prop}
theorem below_call {qA : Addr} {ps : List (Str × Tok)} {pn : Nat} {x : Str} {tx : Tok} (X : Led h₀ L s.heap m news) (KX : (hd.heap_39 w.params).In h₀) (T : Top p loose mean mg mb h₀) (hroom : A.depth + 3 < recursionLimit) (hh : A.handled = none) (huni : A.units + 110 < cLine) (htk : 0 < s.toks)
    (hq : (qA, SL ps pn) ∈ news) (hx : Txt.startswith x "/" = true) (lx : x.length ≤ 250) (hps : ∀ y ∈ ps.map (·.1), Txt.startswith (mess y) "/" = true ∧ y.length ≤ 250 ∧ (mess y).length ≤ 250) (hn : ps.length ≤ 1000)
    (h : ∀ a h' n tk, Led h₀ L h' m ((a, SL (ps.filter (fun q => isBelow x q.1)) n) :: news) → Q (.ref a) { s with heap := h', toks := tk }) : Wp w A (PySem.call (.ref 146) [.str x tx, .ref qA]) Q s := by
  have hfill : (hd.heap_39 w.params).length = (hd.heap_39 w.params).length ∧ PySem.Challenge.rw_pd0045_01.foot = PySem.Challenge.rw_pd0045_01.foot := by k_fill; exact ⟨rfl, rfl⟩
  clear hfill
  refine Wp.intoCT rfl rfl rfl (binds := [("path", .str x tx), ("paths", .ref qA)]) X KX T (by k_is) (by k_is) (dn0 hroom) (BindsTo.of_eq rfl) (by rfl) (by decide +kernel) ?_
  intro A' oL h₁ tk₁ cells htk1 U C Y X1
  have hh' : A'.handled = none := U.handled.trans hh
  have hroom' : A'.depth + 2 < recursionLimit := dnU U.depth hroom (by decide)
  have huni' : A'.units + 100 < cLine := dnU U.units huni (by decide)
  obtain ⟨op, rfl, d1⟩ := CellsAre.one Y
  replace X1 := X1 rfl (by simp)
  clear Y
  generalize hL' : s.heap.objs.size = L' at X1 d1 ⊢
  have dp : op.data = .cell (some (.str x tx)) := d1
  clear d1
  refine Led.gen1 (nw := ((L' + 1, op) :: (L, oL) :: news)) (x1 := "paths") (v1 := (.ref qA)) (X1) (rfl) ?_
  intro m₁ X2 hm1
  clear X1
  refine Wp.seq (Wp.ret ?_)
  refine Wp.comp (cl := [("path", L' + 1)]) rfl rfl (by decide +kernel) (by decide +kernel) rfl (fun _ => rfl) X2 ?_
  refine Wp.nL rfl rfl rfl X2 hm1 ?_
  refine Wp.itLs (its := (ps.map vstr).toArray) (n := pn) X2 (mt2 hq) (fun I h3 ent hI X3 => ?_)
  refine Wp.CompAsk.mk (its := ent) (fun j ys nw => ys = ((ps.take j).filter (fun q => isBelow x q.1)).map vstr ∧ nw = (L' + 1, op) :: (L, oL) :: news) (itList hh' I qA (ps.map vstr).toArray) X3 hI ⟨rfl, rfl⟩ ?_ (by simp; omega) (fun _ _ _ h => h.2) ?_ ?_
  · rintro _ _ _ ⟨_, rfl⟩
    exact srcL (mt2 hq)
  · clear X2 X3 hI
    rintro j ys Ca Da oL' K1 K2 g1 g2 v its₁ news₁ h₁' tk₁' mC hj htk2 ⟨hat, _⟩ ⟨oJ, rfl, cJ, dJ⟩ ⟨rfl, rfl⟩ hmC KL X4
    obtain ⟨y, hy, rfl⟩ : ∃ y, ps[j]? = some y ∧ v = vstr y := by
      rw [List.getElem?_toArray, List.getElem?_map] at hat
      obtain ⟨y, h1, h2⟩ := Option.map_eq_some_iff.mp hat
      exact ⟨y, h1, h2.symm⟩
    have hpy := hps y.1 (List.mem_map.mpr ⟨y, List.mem_of_getElem? hy, rfl⟩)
    have htake : ps.take (j + 1) = ps.take j ++ [y] := by rw [List.take_add_one, hy]; rfl
    have htk3 : 0 < tk₁' := Nat.lt_of_lt_of_le htk (Nat.le_trans htk1 htk2)
    refine Wp.test1 (Wp.truthCmp rfl ?_)
    refine Wp.callN (Wp.nG rfl rfl rfl rfl X4 KX T (by k_is) ?_)
    refine Wp.withD KX (by k_is) rfl rfl (Wp.arg rfl (Wp.eList (Wp.arg rfl ?_)))
    refine Wp.nC rfl rfl rfl (c := L' + 1) rfl X4 (.tail _ (.tail _ (.tail _ (.head _)))) dp ?_
    refine Wp.arg rfl ?_
    refine Wp.mcall rfl (Wp.nL rfl rfl rfl X4 hmC ?_)
    refine Wp.strM PySem.F.slot_str_replace PySem.F.type_str_replace ?_
    refine Wp.withM rfl rfl (Wp.arg rfl (Wp.cStr (Wp.arg rfl (Wp.cStr (Wp.args ?_)))))
    refine Wp.replace (Nat.pos_iff_ne_zero.mp htk3) (Nat.succ_ne_zero _) (Nat.ne_of_lt (Nat.lt_succ_self _)) rfl (by omega) (by decide) (fun t5 k5 => ?_)
    refine Wp.args ?_
    refine Wp.nwList X4 (by simp) (fun la h6 X6 => ?_)
    refine Wp.args ⟨X6.fr.keep, ?_⟩
    refine cp_call (x := x) (y := mess y.1) (tx := tx) (ty := t5) X6 KX T (dn hroom' (by decide)) hh' (dn huni' (by decide)) (.head _) hx hpy.1 lx hpy.2.2 (fun h7 t7 tk7 X7 => ?_)
    have X8 := X7.sub (.cons _ (List.Sublist.refl _))
    refine Wp.nC rfl rfl rfl (c := L' + 1) rfl X8 (.tail _ (.tail _ (.tail _ (.head _)))) dp ?_
    refine Wp.eqS (Wp.truthBI (fun e1 => ?_) (fun e1 => ?_))
    · refine g2 _ _ _ [(I, oJ)] _ ⟨oJ, rfl, cJ, dJ⟩ X8 ⟨?_, rfl⟩
      rw [htake, List.filter_append, List.filter_cons, show isBelow x y.1 = false from e1]; simp
    · refine Wp.nL rfl rfl rfl X8 hmC ?_
      refine g1 _ _ _ _ [(I, oJ)] _ ⟨oJ, rfl, cJ, dJ⟩ X8 ⟨?_, rfl⟩
      rw [htake, List.filter_append, List.filter_cons, show isBelow x y.1 = true from e1]; simp
  · rintro D ys news₁ h4 tk4 ⟨rfl, rfl⟩ X4
    clear X2 X3 hI
    have hlt : ps.take (ps.map vstr).toArray.size = ps := by simp
    rw [hlt] at X4
    generalize ps.filter (fun q => isBelow x q.1) = fs at X4 h
    have X5 : Led h₀ L' h4 m₁ ((D, SL fs (fs.map vstr).length) :: (L, oL) :: news) := X4.sub (.cons_cons _ (.cons _ (List.Sublist.refl _)))
    exact h _ _ _ _ (Led.back (sl := oL.slots) C (X5.perm (List.Perm.swap _ _ _)))
end
end Mine
end

section
open PySem PySem.W PyProof.Rows PySem.Calls PySem.Spec
set_option maxRecDepth 100000
set_option maxHeartbeats 1000000
set_option linter.unusedVariables false
namespace Mine
theorem UpdAt.app {d : Addr} {o o' : Obj} {r : List (Addr × Obj)} : ∀ l : List (Addr × Obj), UpdAt d o o' (l ++ (d, o) :: r) (l ++ (d, o') :: r)
  | [] => .head
  | _ :: l => .tail (UpdAt.app l)
theorem stored_len {kvs : List (Str × Value)} {k : Str} {v : Value} : (stored kvs k v).length ≤ kvs.length + 1 := by
  unfold stored; split
  · rw [List.length_map]; omega
  · simp
theorem stored_at {kvs : List (Str × Value)} {k : Str} {v : Value} : valueAt (stored kvs k v) k = some v := by
  unfold stored valueAt
  split
  · rename_i h
    simp only [List.any_eq_true, decide_eq_true_eq] at h
    induction kvs with
    | nil => obtain ⟨_, h, _⟩ := h; simp at h
    | cons a r ih =>
      by_cases e : a.1 = k
      · simp [e]
      · obtain ⟨x, hx, hk⟩ := h
        have hx' : x ∈ r := by
          rcases List.mem_cons.mp hx with rfl | hx
          · exact absurd hk e
          · exact hx
        have := ih ⟨x, hx', hk⟩
        simpa [e] using this
  · rename_i h
    simp only [List.any_eq_true, decide_eq_true_eq, not_exists, not_and] at h
    have : kvs.find? (fun kv => decide (kv.1 = k)) = none := by
      rw [List.find?_eq_none]; intro x hx; simpa using h x hx
    simp [List.find?_append, this]
theorem stored_other {kvs : List (Str × Value)} {k k' : Str} {v : Value} (hne : k' ≠ k) : valueAt (stored kvs k v) k' = valueAt kvs k' := by
  unfold stored valueAt
  split
  · congr 1
    induction kvs with
    | nil => rfl
    | cons a r ih =>
      rename_i h
      by_cases e : a.1 = k
      · have e' : a.1 ≠ k' := by rw [e]; exact Ne.symm hne
        by_cases hr : r.any (fun kv => decide (kv.1 = k)) = true
        · simp only [List.map_cons, e, if_true, List.find?_cons, hne.symm, decide_false]
          exact ih hr
        · have hr' : r.map (fun kv => if kv.1 = k then (kv.1, v) else kv) = r := by
            refine (List.map_congr_left (g := id) fun x hx => ?_).trans (List.map_id r)
            have : x.1 ≠ k := fun q => hr (List.any_eq_true.mpr ⟨x, hx, by simpa using q⟩)
            simp [this]
          simp only [List.map_cons, e, if_true, List.find?_cons, hne.symm, decide_false, hr']
      · have hr : r.any (fun kv => decide (kv.1 = k)) = true := by simpa [e] using h
        simp only [List.map_cons, e, if_false, List.find?_cons]
        split
        · rfl
        · exact ih hr
  · simp only [List.find?_append, List.find?_cons, hne.symm, decide_false, List.find?_nil, Option.or_none]
section
variable {w : World} {A : Around} {s : Shared} {h₀ : Heap} {L : Addr} {m : Str → Option Value} {p : Program} {loose : List Str} {mean : ExcName → Option Value} {mg mb : Str → Option Value} {Q : Value → Shared → Prop} {env : Env} {outer : List Env} {rest frs : List (Addr × Obj)}
theorem played_call {G : Game} (ok : G.Ok) {qA : Addr} {ps : List (Str × Tok)} {pn : Nat} (X : Led h₀ L s.heap m (rest ++ frs)) (KX : (hd.heap_39 w.params).In h₀) (T : Top p loose mean mg mb h₀)
    (hA : A.frames = some (env :: outer)) (hf : env.frame = some L) (hke : env.scope.kind = .function) (Fs : TI.Frs outer frs) (hh : A.handled = none) (hroom : A.depth + 10 < recursionLimit) (huni : A.units + 200 < cLine) (htk : 0 < s.toks)
    (hq : (qA, SL ps pn) ∈ rest) (hP : G.Ps (ps.map (·.1))) (hB : ∀ k q, ps[k]? = some q → G.B q.1 = (ps.drop k).filter (fun z => isBelow q.1 z.1))
    (hps : ∀ y ∈ ps.map (·.1), Txt.startswith y "/" = true ∧ Txt.startswith (mess y) "/" = true ∧ y.length ≤ 250 ∧ (mess y).length ≤ 250)
    (h : ∀ wA h' tk oW kvs frs', (wA == sysModules) = false → SD PR w oW kvs → DGood G kvs → DClosed G kvs → keyOf (ps.map (·.1)) ∈ kvs.map (·.1) → TI.SameUp frs frs' → TI.Frs outer frs' → Led h₀ L h' m ((wA, oW) :: (rest ++ frs')) →
      Q (.ref wA) { s with heap := h', toks := tk }) : Wp w A (PySem.call (.ref 158) [.ref qA]) Q s := by
  have hfill : (hd.heap_39 w.params).length = (hd.heap_39 w.params).length ∧ PySem.Challenge.rw_pd0045_01.foot = PySem.Challenge.rw_pd0045_01.foot := by k_fill; exact ⟨rfl, rfl⟩
  clear hfill
  have hlen := ok.len _ hP
  rw [List.length_map] at hlen
  have hnd := ok.nodup _ hP
  refine Wp.intoDT rfl rfl rfl (binds := [("paths", .ref qA)]) X KX T (by k_is) (by k_is) (dn0 hroom) (BindsTo.of_eq rfl) (locs rfl) (by decide +kernel) ?_
  intro A' oL h₁ tk₁ htk1 U C X1
  have hh' : A'.handled = none := U.handled.trans hh
  have hA' := U.frames _ hA
  have hroom' : A'.depth + 9 < recursionLimit := dnU U.depth hroom (by decide)
  have huni' : A'.units + 190 < cLine := dnU U.units huni (by decide)
  refine Led.gen1 (nw := ((L, oL) :: (rest ++ frs))) (x1 := "paths") (v1 := (.ref qA)) (X1) (rfl) ?_
  intro m₁ X2 hm1
  clear X1
  have hFs : TI.Frs (env :: outer) ((L, oL) :: frs) := ⟨by rw [hke]; decide, hf, C.dict, Fs⟩
  -- below, worths = ({}, {})
  obtain ⟨QQ, hQQ⟩ : ∃ QQ : Flow → Shared → Prop, QQ = (fun f s' => f = .next ∧ ∃ h2 tk2 m2 bA oB wA oW, s' = { s with heap := h2, toks := tk2 } ∧ Led h₀ s.heap.objs.size h2 m2 ((wA, oW) :: (bA, oB) :: (L, oL) :: (rest ++ frs)) ∧ (wA == sysModules) = false ∧ SD PR w oW [] ∧ SD PR w oB [] ∧ m2 "paths" = some (.ref qA) ∧ m2 "below" = some (.ref bA) ∧ m2 "worths" = some (.ref wA)) := ⟨_, rfl⟩
  refine Wp.seqH (fun kK nk xk => Wp.toks (Q := QQ)
    (Wp.assignSw (h₀ := h₀) rfl rfl rfl rfl rfl hh' (Wp.eTuple (Wp.arg rfl (Wp.nwDict X2 T (fun bA h2 oB X3 _ hB0 => Wp.arg rfl (Wp.nwDict X3 T (fun wA h3 oW X4 lo hW0 => Wp.args (Wp.nwTuple X4 (by simp) (fun t h4 X5 => ?_)))))))))  (fun f s' htk2 hq' => ?_))
  · refine ⟨t, .ref bA, .ref wA, 0, _, _, rfl, X5, .head _, fun h5 tk5 X6 => ?_⟩
    rw [hQQ]
    refine ⟨rfl, h5, tk5, _, bA, oB, wA, oW, rfl, X6.sub (.cons _ (List.Sublist.refl _)), lo, hW0, hB0, ?_, if_pos rfl, ?_⟩
    · exact (if_neg (by decide)).trans ((if_neg (by decide)).trans hm1)
    · exact (if_neg (by decide)).trans (if_pos rfl)
  clear X2 hm1
  rw [hQQ] at hq'
  clear hQQ
  obtain ⟨rfl, h2, tk2, m2, bA, oB, wA, oW, rfl, X3, lo, hW0, hB0, k1, k2, k3⟩ := hq'
  have htk3 : 0 < tk2 := Nat.lt_of_lt_of_le htk (Nat.le_trans htk1 htk2)
  clear htk2 htk1
  first | refine nk _ ?_ | refine ni _ ?_ | refine nt _ ?_ | (try dsimp only)
  have hqm : ∀ {ext : List (Addr × Obj)} {oB : Obj}, (qA, SL ps pn) ∈ ext ++ ((bA, oB) :: (wA, oW) :: (L, oL) :: (rest ++ frs)) := fun {ext} {oB} => List.mem_append_right _ (mt3 (List.mem_append_left _ hq))
  refine Wp.seqH (fun kK nk xk => Wp.forEn (h₀ := h₀) (fun _ => rfl) hh' rfl rfl rfl ?_)
  refine Wp.callN (Wp.nB (by decide) rfl rfl rfl rfl rfl X3 KX T (by k_is) PyProof.Rows.Boot.«enumerate» ?_)
  refine Wp.withT rfl rfl (Wp.arg rfl (Wp.nL rfl rfl rfl X3 k1 (Wp.args ?_)))
  refine enumL (items := (ps.map vstr).toArray) (n := pn) X3 (mt3 (List.mem_append_left _ hq)) (fun e I1 oI h4 hI X4 => ?_)
  have X5 : Led h₀ s.heap.objs.size h4 m2 ((e, enO I1 0 .none) :: (I1, oI) :: ([] ++ ((bA, oB) :: (wA, oW) :: (L, oL) :: (rest ++ frs)))) := X4.perm (.cons _ (.cons _ (.swap _ _ _)))
  clear X3 X4
  refine EnAsk.mk (l := qA) (items := (ps.map vstr).toArray) (n := pn) (fun i m nw => ∃ (ext : List (Addr × Obj)) (oB : Obj) (bkvs : List (Str × Value)), nw = ext ++ ((bA, oB) :: (wA, oW) :: (L, oL) :: (rest ++ frs)) ∧ SD PR w oB bkvs ∧ bkvs.length ≤ i ∧ (∀ k q, k < i → ps[k]? = some q → ∃ a c, valueAt bkvs q.1 = some (.ref a) ∧ (a, SL (G.B q.1) c) ∈ ext) ∧ m "paths" = some (.ref qA) ∧ m "below" = some (.ref bA) ∧ m "worths" = some (.ref wA)) X5 hI ⟨[], oB, [], rfl, hB0, Nat.le_refl _, fun k q hk => absurd hk (Nat.not_lt_zero _), k1, k2, k3⟩ ?_ ?_ ?_
  · rintro _ _ _ ⟨ext, oB, bkvs, rfl, _⟩
    exact hqm
  · clear X5 hI k1 k2 k3 hB0
    rintro i eo oI' K kN kX v tki m₁ news₁ h5 tk5 hv hJ htk5 X6
    revert htk5 X6
    refine ex3a7 hJ ?_
    clear hJ
    rintro ext oB bkvs rfl hBd hbl hent k1 k2 k3 htk5 X6
    obtain ⟨q, hq', rfl⟩ : ∃ q, ps[i]? = some q ∧ v = vstr q := by
      rw [List.getElem?_toArray, List.getElem?_map] at hv
      obtain ⟨z, h1, h2⟩ := Option.map_eq_some_iff.mp hv
      exact ⟨z, h1, h2.symm⟩
    have hi : i < ps.length := (List.getElem?_eq_some_iff.mp hq').1
    have hqt := hps q.1 (List.mem_map.mpr ⟨q, List.mem_of_getElem? hq', rfl⟩)
    refine Led.gen5 (nw := ((e, eo) :: (I1, oI') :: (ext ++ ((bA, oB) :: (wA, oW) :: (L, oL) :: (rest ++ frs))))) (x1 := "paths") (v1 := (.ref qA)) (x2 := "below") (v2 := (.ref bA)) (x3 := "worths") (v3 := (.ref wA)) (x4 := "place") (v4 := (.int (i : Nat) tki)) (x5 := "path") (v5 := (vstr q)) (X6) ((if_neg (by decide)).trans ((if_neg (by decide)).trans k1)) ((if_neg (by decide)).trans ((if_neg (by decide)).trans k2)) ((if_neg (by decide)).trans ((if_neg (by decide)).trans k3)) ((if_neg (by decide)).trans (if_pos rfl)) (if_pos rfl) ?_
    intro m₃ X7 k1 k2 k3 k4 k5
    clear X6
    refine Wp.seqH (fun kK nk xk => Wp.assignI rfl ?_)
    refine Wp.callN (Wp.nG rfl rfl rfl rfl X7 KX T (by k_is) ?_)
    refine Wp.withD KX (by k_is) rfl rfl (Wp.arg rfl (Wp.nL rfl rfl rfl X7 k5 (Wp.arg rfl ?_)))
    refine Wp.sub (Wp.nL rfl rfl rfl X7 k1 ?_)
    refine Wp.eSlice (Wp.part1 (Wp.nL rfl rfl rfl X7 k4 (Wp.part0 (Wp.part0 ⟨_, _, _, _, X7, fun sa h8 X8 => ?_⟩))))
    refine Wp.tSlice (zs := (ps.drop i).map vstr) (by with_unfolding_all rfl) X8 (mt3 hqm) mi0 (.int (i : Nat) _) .none .none (by decide) (by simp; omega) ?_ (fun d h9 X9 => ?_)
    · rw [slicePick_from']; simp
    refine Wp.args ⟨X9.fr.keep, ?_⟩
    refine below_call (ps := ps.drop i) (pn := 0) (x := q.1) (tx := q.2) X9 KX T (dn hroom' (by decide)) hh' (dn huni' (by decide)) (Nat.lt_of_lt_of_le htk3 htk5) (.head _) hqt.1 hqt.2.2.1 (fun y hy => ?_) (by rw [List.length_drop]; omega) (fun a h10 n10 tk10 X10 => ?_)
    · have hy' : y ∈ ps.map (·.1) := by rw [List.map_drop] at hy; exact List.mem_of_mem_drop hy
      exact ⟨(hps y hy').2.1, (hps y hy').2.2⟩
    rw [← hB i q hq'] at X10
    refine Wp.nL rfl rfl rfl X10 k2 (Wp.nL rfl rfl rfl X10 k5 ?_)
    refine Wp.dSet (g := fun o' => (a, SL (G.B q.1) n10) :: (d, listOf ((ps.drop i).map vstr).toArray 0) :: (sa, Wp.slOf (.int (i : Nat) tki) .none .none) :: (e, eo) :: (I1, oI') :: (ext ++ ((bA, o') :: (wA, oW) :: (L, oL) :: (rest ++ frs)))) X10 (fun o' => .tail (.tail (.tail (.tail (.tail (UpdAt.app ext)))))) hBd (by omega) (fun h11 oB' hBd' X11 => ?_)
    refine nk _ (Wp.done ?_)
    have X12 : Led h₀ s.heap.objs.size h11 m₃ ((e, eo) :: (I1, oI') :: (((a, SL (G.B q.1) n10) :: ext) ++ ((bA, oB') :: (wA, oW) :: (L, oL) :: (rest ++ frs)))) :=
      (X11.sub (n' := (a, SL (G.B q.1) n10) :: (e, eo) :: (I1, oI') :: (ext ++ ((bA, oB') :: (wA, oW) :: (L, oL) :: (rest ++ frs)))) (.cons_cons _ (.cons _ (.cons _ (List.Sublist.refl _))))).perm ((List.Perm.swap _ _ _).trans (.cons _ (.swap _ _ _)))
    refine kN h11 _ m₃ _ X12 ⟨(a, SL (G.B q.1) n10) :: ext, oB', _, rfl, hBd', ?_, ?_, k1, k2, k3⟩
    · have := @stored_len bkvs q.1 (.ref a); omega
    · intro k z hk hz
      rcases Nat.lt_or_ge k i with h1 | h1
      · obtain ⟨b, c, g1, g2⟩ := hent k z h1 hz
        refine ⟨b, c, ?_, .tail _ g2⟩
        rw [stored_other, g1]
        intro eqn
        have hk' : k < (ps.map (·.1)).length := by rw [List.length_map]; omega
        have hi' : i < (ps.map (·.1)).length := by rw [List.length_map]; omega
        have e1 : (ps.map (·.1))[k] = z.1 := by rw [List.getElem_map]; congr 1; have := List.getElem?_eq_getElem (l := ps) (i := k) (by omega); rw [hz] at this; exact (Option.some.inj this).symm
        have e2 : (ps.map (·.1))[i] = q.1 := by rw [List.getElem_map]; congr 1; have := List.getElem?_eq_getElem (l := ps) (i := i) hi; rw [hq'] at this; exact (Option.some.inj this).symm
        have := (List.getElem_inj hnd).mp (e1.trans (eqn.trans e2.symm))
        omega
      · have : k = i := by omega
        subst this
        rw [hq'] at hz
        obtain rfl := Option.some.inj hz
        exact ⟨a, n10, stored_at, .head _⟩
  · clear X5 hI k1 k2 k3 hB0
    rintro m₁ news₁ h5 tk5 hJ X6
    revert X6
    refine ex3a7 hJ ?_
    clear hJ
    rintro ext oB bkvs rfl hBd hbl hent k1 k2 k3 X6
    first | refine nk _ ?_ | refine ni _ ?_ | refine nt _ ?_ | (try dsimp only)
    have hsz : (ps.map vstr).toArray.size = ps.length := by simp
    rw [hsz] at hent
    refine Wp.seqH (fun kK nk xk => Wp.expr rfl rfl ?_)
    refine Wp.callN (Wp.nG rfl rfl rfl rfl X6 KX T (by k_is) ?_)
    refine Wp.withD KX (by k_is) rfl rfl (Wp.arg rfl (Wp.nL rfl rfl rfl X6 k1 (Wp.arg rfl (Wp.nL rfl rfl rfl X6 k2 (Wp.arg rfl (Wp.nL rfl rfl rfl X6 k3 (Wp.args ⟨X6.fr.keep, ?_⟩)))))))
    have X7 : Led h₀ s.heap.objs.size h5 m₁ ((wA, oW) :: ((ext ++ (bA, oB) :: rest) ++ ((L, oL) :: frs))) := X6.perm (by
      have e1 : (ext ++ (bA, oB) :: rest) ++ ((L, oL) :: frs) = ext ++ ((bA, oB) :: (rest ++ (L, oL) :: frs)) := by simp
      rw [e1]
      refine List.Perm.trans ?_ (List.perm_middle (a := (wA, oW)) (l₁ := ext))
      refine List.Perm.append_left ext ?_
      refine (List.Perm.swap _ _ _).trans (.cons _ (.cons _ ?_))
      exact List.perm_middle.symm)
    refine worth_call ok ps.length (ps := ps) (pn := pn) (rest := ext ++ (bA, oB) :: rest) (frs := (L, oL) :: frs) (outer := env :: outer) (Nat.le_refl _) hP X7 hW0 (fun kv hm => nomatch hm) (fun qs _ hk => nomatch hk) lo (List.mem_append_right _ (.tail _ hq)) ?_ KX T hA' rfl rfl hFs hh' (by omega) (by omega) ?_
    · refine ⟨oB, bkvs, List.mem_append_right _ (.head _), hBd, fun x hx => ?_⟩
      obtain ⟨q, hq1, rfl⟩ := List.mem_map.mp hx
      obtain ⟨k, hk⟩ := List.getElem?_of_mem hq1
      obtain ⟨a, c, g1, g2⟩ := hent k q (List.getElem?_eq_some_iff.mp hk).1 hk
      exact ⟨a, c, g1, List.mem_append_left _ g2⟩
    · intro t6 h6 tk6 oW' kvs' frs₁ hW' hG' hC' _ hin SU Fs1 X8
      first | refine nk _ ?_ | refine ni _ ?_ | refine nt _ ?_ | (try dsimp only)
      refine Wp.seq (Wp.ret (Wp.nL rfl rfl rfl X8 k3 ?_))
      cases frs₁ with
      | nil => exact SU.elim
      | cons z frs₂ =>
        obtain ⟨q1, ⟨sl, q2⟩, SU2⟩ := SU
        have hz : z = (L, { oL with slots := sl }) := by
          cases z; dsimp only at q1 q2; rw [q1, q2]
        subst hz
        refine h wA h6 _ oW' kvs' frs₂ lo hW' hG' hC' hin SU2 Fs1.2.2.2 ?_
        refine Led.back C (L' := s.heap.objs.size) (m' := m₁) (sl := sl) ?_
        have e1 : (ext ++ (bA, oB) :: rest) ++ ((L, { oL with slots := sl }) :: frs₂) = ext ++ ((bA, oB) :: (rest ++ (L, { oL with slots := sl }) :: frs₂)) := by simp
        rw [e1] at X8
        have X9 := X8.sub (n' := (wA, oW') :: (rest ++ (L, { oL with slots := sl }) :: frs₂)) (.cons_cons _ ((List.Sublist.cons (bA, oB) (List.Sublist.refl _)).trans (List.sublist_append_right ext _)))
        exact X9.perm ((List.Perm.cons _ List.perm_middle).trans (List.Perm.swap _ _ _))
end
end Mine
end

section
open PySem PySem.W PyProof.Rows PySem.Calls PySem.Spec
set_option maxRecDepth 100000
set_option linter.unusedVariables false
namespace Mine
noncomputable def upOf (ups : List Nat) (i : Nat) : Nat := ups.getD (i - 1) 0
noncomputable def chainF (ups : List Nat) : Nat → Nat → List Nat
  | 0, _ => []
  | f + 1, i => if i = 0 then [] else chainF ups f (upOf ups i) ++ [i]
noncomputable def chain (ups : List Nat) (i : Nat) : List Nat := chainF ups 5 i
noncomputable def anc (ups : List Nat) (i j : Nat) : Bool := (chain ups j).contains i
noncomputable def maskOfL (l : List Nat) : Nat := (l.map fun j => 2 ^ (j - 1)).sum
noncomputable def mrem (ups : List Nat) (m i : Nat) : Nat := maskOfL ((keptM m).filter fun j => !anc ups i j)
noncomputable def allUps : List (List Nat) := (List.range 2).flatMap fun a => (List.range 3).flatMap fun b => (List.range 4).flatMap fun c => (List.range 5).map fun d => [0, a, b, c, d]
noncomputable def force {α : Type} (n : Nat) (f : Nat → α) : α := @Nat.rec (fun _ => α) (f 0) (fun k _ => f (k + 1)) n
theorem force_eq {α : Type} (n : Nat) (f : Nat → α) : force n f = f n := by cases n <;> rfl
noncomputable def chkM (ups : List Nat) (m : Nat) : Bool :=
  !closedM ups m || (decide (0 ≤ nimM ups m) && decide (nimM ups m ≤ (keptM m).length) &&
    ((keptM m).all fun i => force (mrem ups m i) fun k => closedM ups k && decide (k < m) && decide (nimM ups k ≠ nimM ups m)) &&
    ((List.range 5).all fun k => decide (nimM ups m ≤ (k : Int)) || (keptM m).any fun i => force (mrem ups m i) fun r => decide (nimM ups r = (k : Int))) &&
    (m == 31 || [1, 2, 3, 4, 5].any fun i => !(keptM m).contains i && force (m + 2 ^ (i - 1)) fun k => closedM ups k && (mrem ups k i == m)))
noncomputable def chkU (ups : List Nat) : Bool := (List.range 32).all fun m => force m (chkM ups)
set_option maxHeartbeats 4000000 in
theorem chk_all : allUps.all chkU = true := by decide +kernel
noncomputable def sublistsN : List Nat → List (List Nat)
  | [] => [[]]
  | a :: r => sublistsN r ++ (sublistsN r).map (a :: ·)
theorem sub_mem {s l : List Nat} (h : s.Sublist l) : s ∈ sublistsN l := by
  induction h with
  | slnil => exact .head _
  | cons a _ ih => exact List.mem_append_left _ ih
  | cons_cons a _ ih => exact List.mem_append_right _ (List.mem_map.mpr ⟨_, ih, rfl⟩)
noncomputable def allChains : List (List Nat) := (sublistsN [1, 2, 3, 4, 5]).filter (fun c => !c.isEmpty)
theorem chain_small : ∀ c ∈ allChains, c ≠ [] ∧ c.length ≤ 5 := by decide +kernel
theorem mask_kept : ∀ s ∈ sublistsN [1, 2, 3, 4, 5], keptM (maskOfL s) = s := by decide +kernel
theorem kept_rem (ups : List Nat) (m i : Nat) : keptM (mrem ups m i) = (keptM m).filter fun j => !anc ups i j := mask_kept _ (sub_mem (List.filter_sublist.trans List.filter_sublist))
theorem sub_chain {s : List Nat} (h : s.Sublist [1, 2, 3, 4, 5]) (h0 : s ≠ []) : s ∈ allChains := List.mem_filter.mpr ⟨sub_mem h, by
  cases s with
  | nil => exact absurd rfl h0
  | cons _ _ => rfl⟩
theorem lcp_sub (l : List Nat) : ∀ l' : List Nat, (lcp l l').Sublist l := by
  induction l with
  | nil => exact fun _ => List.Sublist.refl _
  | cons a r ih =>
    intro l'
    cases l' with
    | nil => exact List.nil_sublist _
    | cons b t =>
      by_cases e : a = b
      · rw [e, lcp_same]; exact (ih t).cons_cons _
      · rw [lcp_diff e]; exact List.nil_sublist _
end Mine
end

section
open PySem PySem.W PyProof.Rows PySem.Calls PySem.Spec
open Builtin Builtin.Str StrLaws
set_option maxRecDepth 100000
set_option linter.unusedVariables false
namespace Mine
noncomputable def posL (c : Nat) (l : List Nat) : Nat → List Nat :=
  @List.rec Nat (fun _ => Nat → List Nat) (fun _ => []) (fun a _ ih i => if a = c then i :: ih (i + 1) else ih (i + 1)) l
noncomputable def splitA (c : Nat) (l : List Nat) : List Nat → List (List Nat) :=
  @List.rec Nat (fun _ => List Nat → List (List Nat)) (fun acc => [acc]) (fun a _ ih acc => if a = c then acc :: ih [] else ih (acc ++ [a])) l
theorem posL_in {c : Nat} {r : List Nat} {i : Nat} : posL c (c :: r) i = i :: posL c r (i + 1) := if_pos rfl
theorem posL_out {c a : Nat} {r : List Nat} {i : Nat} (h : a ≠ c) : posL c (a :: r) i = posL c r (i + 1) := if_neg h
theorem splitA_in {c : Nat} {r acc : List Nat} : splitA c (c :: r) acc = acc :: splitA c r [] := if_pos rfl
theorem splitA_out {c a : Nat} {r acc : List Nat} (h : a ≠ c) : splitA c (a :: r) acc = splitA c r (acc ++ [a]) := if_neg h
theorem drop_cons' {α : Type} {L r : List α} {a : α} {k : Nat} (h : L.drop k = a :: r) : L[k]? = some a ∧ L.drop (k + 1) = r := by
  constructor
  · have := congrArg List.head? h
    rw [List.head?_drop] at this; exact this
  · rw [← List.tail_drop, h]; rfl
theorem occ_run (x : Str) (c : Nat) (l : List Nat) : ∀ (k : Nat) (st : Array Nat × Nat), x.cps.toList.drop k = l → k + l.length = x.length → st.1.size ≤ k → st.2 ≤ k →
    (forIn (List.range' k (l.length + 1)) st (occBody x ⟨#[c]⟩ x.length (x.length + 1))).run.1.toList = st.1.toList ++ posL c l k := by
  induction l with
  | nil =>
    intro k st _ hk _ _
    rw [List.length_nil, List.range'_succ, List.forIn_cons]
    unfold occBody
    rw [if_neg (fun h => absurd h.1.2 (by rw [← hk]; exact Nat.not_succ_le_self _))]
    exact (List.append_nil _).symm
  | cons a r ih =>
    intro k st hl hk h1 h2
    obtain ⟨g1, g2⟩ := drop_cons' hl
    rw [List.length_cons] at hk
    have hk' : k + 1 + r.length = x.length := by rw [← hk, Nat.add_assoc, Nat.add_comm 1]
    have hkl : k + 1 ≤ x.length := hk' ▸ Nat.le_add_right _ _
    rw [List.length_cons, List.range'_succ, List.forIn_cons]
    unfold occBody
    by_cases e : a = c
    · have hs := (subAt_one x c k).mpr (by rw [g1, e])
      rw [if_pos ⟨⟨⟨Nat.lt_succ_of_le (Nat.le_trans h1 (Nat.le_of_succ_le hkl)), h2⟩, hs.1⟩, hs.2⟩, e, posL_in]
      refine (ih (k + 1) (st.1.push k, k + 1) g2 hk' (by rw [Array.size_push]; exact Nat.succ_le_succ h1) (Nat.le_refl _)).trans ?_
      rw [Array.toList_push, List.append_assoc]; rfl
    · rw [if_neg (fun h => e (Option.some.inj (g1.symm.trans ((subAt_one x c k).mp ⟨h.1.2, h.2⟩)))), posL_out e]
      exact ih (k + 1) (st.1, st.2) g2 hk' (Nat.le_succ_of_le h1) (Nat.le_succ_of_le h2)
theorem occ_pos (x : Str) (c : Nat) : occurrences x ⟨#[c]⟩ 0 x.length (x.length + 1) = posL c x.cps.toList 0 := by
  rw [occ_eq]
  exact occ_run x c x.cps.toList 0 (#[], 0) rfl (Nat.zero_add _) (Nat.zero_le _) (Nat.zero_le _)
theorem parts_run (x : Str) (c : Nat) (l : List Nat) : ∀ (k s : Nat), x.cps.toList.drop k = l → k + l.length = x.length → s ≤ k →
    ((s :: (posL c l k).map (· + 1)).zip (posL c l k ++ [x.length])).map (fun p => strSub x p.1 p.2) = (splitA c l ((x.cps.toList.drop s).take (k - s))).map (fun p => ⟨p.toArray⟩) := by
  have sub : ∀ i j, strSub x i j = ⟨((x.cps.toList.drop i).take (j - i)).toArray⟩ := fun i j => Str.ext' (Array.toList_inj.mp (strSub_toList x i j))
  induction l with
  | nil =>
    intro k s _ hk _
    rw [show x.length = k from hk.symm]
    show [strSub x s k] = _
    rw [sub]; rfl
  | cons a r ih =>
    intro k s hl hk hs
    obtain ⟨g1, g2⟩ := drop_cons' hl
    rw [List.length_cons] at hk
    have hk' : k + 1 + r.length = x.length := by rw [← hk, Nat.add_assoc, Nat.add_comm 1]
    by_cases e : a = c
    · rw [e, posL_in, splitA_in]
      show strSub x s k :: _ = _ :: _
      have q := ih (k + 1) (k + 1) g2 hk' (Nat.le_refl _)
      rw [Nat.sub_self] at q
      rw [sub]
      exact congrArg (_ :: ·) q
    · rw [posL_out e, splitA_out e, ih (k + 1) s g2 hk' (Nat.le_succ_of_le hs)]
      congr 2
      rw [Nat.succ_sub hs, List.take_add_one, List.getElem?_drop, Nat.add_sub_of_le hs, g1]; rfl
theorem parts_eq (x : Str) (c : Nat) : partsBetween x (posL c x.cps.toList 0) 1 = (splitA c x.cps.toList []).map (fun p => ⟨p.toArray⟩) :=
  parts_run x c x.cps.toList 0 0 rfl (Nat.zero_add _) (Nat.le_refl _)
theorem slash : Str.ofString "/" = ⟨#[47]⟩ := by decide +kernel
theorem posL_ne {x : Str} {r : List Nat} (h : x.cps.toList = 47 :: r) : (posL 47 x.cps.toList 0).isEmpty = false := by rw [h, posL_in]; rfl
theorem split_eq {x : Str} {r : List Nat} (h : x.cps.toList = 47 :: r) : Txt.split x "/" = (splitA 47 x.cps.toList []).map (fun p => ⟨p.toArray⟩) := by
  have hx : x.length = r.length + 1 := (congrArg List.length h)
  have k1 : decide (x.length < (⟨#[47]⟩ : Str).length) = false := decide_eq_false (by rw [hx]; exact Nat.not_lt.mpr (Nat.succ_le_succ (Nat.zero_le _)))
  have k2 : decide (Builtin.Str.strKind x < Builtin.Str.strKind ⟨#[47]⟩) = false := by
    rw [show Builtin.Str.strKind ⟨#[47]⟩ = 1 by decide +kernel]
    unfold Builtin.Str.strKind
    refine decide_eq_false ?_
    split
    · decide
    · split <;> decide
  rw [slash]
  unfold Txt.split
  rw [k1, k2, if_neg (by decide), occ_pos, posL_ne h, if_neg (by decide)]
  exact parts_eq x 47
noncomputable def glueL (z : List Nat) : List (List Nat) → List Nat := fun l => @List.rec (List Nat) (fun _ => List Nat) [] (fun p r _ => p ++ r.flatMap (z ++ ·)) l
theorem glue_run (z : Str) (ps : List (List Nat)) : ∀ acc : Array Nat, ((ps.map (fun p => (⟨p.toArray⟩ : Str))).foldl (fun acc p => acc ++ z.cps ++ p.cps) acc).toList = acc.toList ++ ps.flatMap (z.cps.toList ++ ·) := by
  induction ps with
  | nil => exact fun acc => (List.append_nil _).symm
  | cons p r ih =>
    intro acc
    rw [List.map_cons, List.foldl_cons, ih, Array.toList_append, Array.toList_append, List.flatMap_cons, List.append_assoc, List.append_assoc]
    exact congrArg (acc.toList ++ ·) (List.append_assoc _ _ _).symm
theorem glue_eq (z : Str) (ps : List (List Nat)) : (glued z (ps.map (fun p => (⟨p.toArray⟩ : Str)))).cps.toList = glueL z.cps.toList ps := by
  cases ps with
  | nil => rfl
  | cons p r => exact glue_run z r p.toArray
theorem replace_eq {x : Str} {r : List Nat} (z : Str) (h : x.cps.toList = 47 :: r) : (Txt.replace x "/" z).cps.toList = glueL z.cps.toList (splitA 47 x.cps.toList []) := by
  rw [slash]
  unfold Txt.replace
  rw [occ_pos, posL_ne h, if_neg (by rw [Bool.false_or]; exact fun q => absurd (Bool.and_eq_true_iff.mp q).1 (by decide))]
  rw [show (⟨#[47]⟩ : Str).length = 1 from rfl, parts_eq]
  exact glue_eq z _
theorem splitA_word {n : List Nat} {c : Nat} : ∀ {r acc : List Nat}, c ∉ n → splitA c (n ++ r) acc = splitA c r (acc ++ n) := by
  induction n with
  | nil => intro r acc _; rw [List.append_nil]; rfl
  | cons a n ih =>
    intro r acc h
    rw [List.cons_append, splitA_out (fun e => h (by rw [e]; exact .head _)), ih (fun q => h (.tail _ q)), List.append_assoc]; rfl
theorem splitA_path {ns : List (List Nat)} : ∀ {acc : List Nat}, (∀ n ∈ ns, 47 ∉ n) → splitA 47 (ns.flatMap (47 :: ·)) acc = acc :: ns := by
  induction ns with
  | nil => exact fun _ => rfl
  | cons n r ih =>
    intro acc h
    rw [List.flatMap_cons, List.cons_append, splitA_in, splitA_word (h n (.head _)), ih fun q hq => h q (.tail _ hq)]; rfl
theorem splitA_mess {ns : List (List Nat)} : ∀ {acc : List Nat}, (∀ n ∈ ns, 47 ∉ n) → splitA 47 (ns.flatMap ([47, 47, 46, 47] ++ ·)) acc = acc :: ns.flatMap (fun n => [[], [46], n]) := by
  induction ns with
  | nil => exact fun _ => rfl
  | cons n r ih =>
    intro acc h
    rw [List.flatMap_cons]
    show splitA 47 (47 :: 47 :: 46 :: 47 :: (n ++ _)) acc = _
    rw [splitA_in, splitA_in, splitA_out (by decide), splitA_in, splitA_word (h n (.head _)), ih fun q hq => h q (.tail _ hq)]; rfl

structure Word (n : List Nat) : Prop where
  ne : n ≠ []
  dot : n ≠ [46]
  sl : 47 ∉ n
  nl : 10 ∉ n
  ok : ∀ c ∈ n, c < 0x110000
  len : n.length ≤ 3
noncomputable def mkS (n : List Nat) : Str := ⟨n.toArray⟩
theorem Word.keep {n : List Nat} (w : Word n) : keepC (mkS n) = true := by
  unfold keepC
  rw [decide_eq_false (show ¬ (mkS n).length = 0 from fun e => w.ne (List.length_eq_zero_iff.mp e)), decide_eq_false (show ¬ mkS n = Str.ofString "." from fun e => w.dot ((congrArg (fun x : Str => x.cps.toList) e).trans (by decide +kernel)))]
  rfl
theorem keep_ns {ns : List (List Nat)} (h : ∀ n ∈ ns, Word n) : (ns.map mkS).filter keepC = ns.map mkS :=
  List.filter_eq_self.mpr fun c hc => by obtain ⟨n, hn, rfl⟩ := List.mem_map.mp hc; exact (h n hn).keep
theorem keep_mess {ns : List (List Nat)} (h : ∀ n ∈ ns, Word n) : ((ns.flatMap (fun n => [[], [46], n])).map mkS).filter keepC = ns.map mkS := by
  induction ns with
  | nil => rfl
  | cons n r ih =>
    show (mkS [] :: mkS [46] :: mkS n :: (r.flatMap (fun n => [[], [46], n])).map mkS).filter keepC = _
    rw [List.filter_cons_of_neg (by decide +kernel), List.filter_cons_of_neg (by decide +kernel), List.filter_cons_of_pos (h n (.head _)).keep, ih fun q hq => h q (.tail _ hq)]
    rfl
section
variable {x : Str} {n : List Nat} {r : List (List Nat)}
theorem spl_path (h : x.cps.toList = (n :: r).flatMap (47 :: ·)) (w : ∀ q ∈ n :: r, Word q) : spl x = (n :: r).map mkS := by
  unfold spl
  rw [split_eq h, h, splitA_path fun q hq => (w q hq).sl]
  show (mkS [] :: (n :: r).map mkS).filter keepC = _
  rw [List.filter_cons_of_neg (by decide +kernel)]
  exact keep_ns w
theorem mess_list (h : x.cps.toList = (n :: r).flatMap (47 :: ·)) (w : ∀ q ∈ n :: r, Word q) : (mess x).cps.toList = (n :: r).flatMap ([47, 47, 46, 47] ++ ·) := by
  unfold mess
  rw [replace_eq _ h, h, splitA_path fun q hq => (w q hq).sl, show (Str.ofString "//./").cps.toList = [47, 47, 46, 47] by decide +kernel]
  rfl
theorem spl_mess (h : x.cps.toList = (n :: r).flatMap (47 :: ·)) (w : ∀ q ∈ n :: r, Word q) : spl (mess x) = (n :: r).map mkS := by
  have h' := mess_list h w
  unfold spl
  rw [split_eq h', h', splitA_mess fun q hq => (w q hq).sl]
  show (mkS [] :: ((n :: r).flatMap (fun n => [[], [46], n])).map mkS).filter keepC = _
  rw [List.filter_cons_of_neg (by decide +kernel)]
  exact keep_mess w
theorem starts47 {l : List Nat} (h : x.cps.toList = 47 :: l) : Txt.startswith x "/" = true := by
  have q := (subAt_one x 47 0).mpr (by rw [h]; rfl)
  rw [slash]
  exact Bool.and_eq_true_iff.mpr ⟨decide_eq_true q.1, q.2⟩
theorem flat_len {ns : List (List Nat)} (z : List Nat) (hz : z.length ≤ 4) (w : ∀ q ∈ ns, Word q) : (ns.flatMap (z ++ ·)).length ≤ 7 * ns.length := by
  induction ns with
  | nil => exact Nat.le_refl _
  | cons q r ih =>
    rw [List.flatMap_cons, List.length_append, List.length_append]
    exact Nat.le_trans (Nat.add_le_add (Nat.add_le_add hz (w q (.head _)).len) (ih fun q hq => w q (.tail _ hq))) (Nat.le_of_eq (Nat.add_comm 7 _))
theorem ends47 {p : List Nat} (h : x.cps.toList = p ++ n) (w : Word n) : Txt.endswith x "/" = false := by
  rw [Bool.eq_false_iff, slash]
  intro q
  obtain ⟨q1, q2⟩ := Bool.and_eq_true_iff.mp q
  have e := of_decide_eq_true q1
  have q3 := (subAt_one x 47 (x.length - 1)).mp ⟨Nat.le_of_eq (Nat.sub_add_cancel (by rw [Nat.zero_add] at e; exact e)), q2⟩
  have q4 : x.cps.toList.getLast? = some 47 := (List.getLast?_eq_getElem?).trans q3
  have en := List.dropLast_concat_getLast w.ne
  rw [h, ← en, ← List.append_assoc, List.getLast?_concat] at q4
  exact w.sl (Option.some.inj q4 ▸ List.getLast_mem w.ne)
end
theorem nm_word : ∀ k, k < 7 → Word (lawNames.getD k Str.empty).cps.toList := by
  have h : ∀ k, k < 7 → (lawNames.getD k Str.empty).cps.toList ≠ [] ∧ (lawNames.getD k Str.empty).cps.toList ≠ [46] ∧ 47 ∉ (lawNames.getD k Str.empty).cps.toList ∧ 10 ∉ (lawNames.getD k Str.empty).cps.toList ∧ (∀ c ∈ (lawNames.getD k Str.empty).cps.toList, c < 0x110000) ∧ (lawNames.getD k Str.empty).cps.toList.length ≤ 3 := by decide +kernel
  exact fun k hk => ⟨(h k hk).1, (h k hk).2.1, (h k hk).2.2.1, (h k hk).2.2.2.1, (h k hk).2.2.2.2.1, (h k hk).2.2.2.2.2⟩
noncomputable def nmOf (t i : Nat) : Str := nameAt (i - 1 + t)
noncomputable def pathC (t : Nat) (c : List Nat) : Str := c.foldl (fun acc i => (acc ++ "/") ++ nmOf t i) (Str.ofString "")
theorem nmOf_word (t i : Nat) : Word (nmOf t i).cps.toList := nm_word _ (Nat.mod_lt _ (by decide))
theorem pathC_run (t : Nat) (c : List Nat) : ∀ acc : Str, (c.foldl (fun acc i => (acc ++ "/") ++ nmOf t i) acc).cps.toList = acc.cps.toList ++ (c.map fun i => (nmOf t i).cps.toList).flatMap (47 :: ·) := by
  induction c with
  | nil => exact fun acc => (List.append_nil _).symm
  | cons i r ih =>
    intro acc
    rw [List.foldl_cons, ih]
    show ((acc.cps ++ (Str.ofString "/").cps) ++ (nmOf t i).cps).toList ++ _ = _
    rw [slash, Array.toList_append, Array.toList_append, List.map_cons, List.flatMap_cons, List.append_assoc, List.append_assoc]; rfl
theorem pathC_list (t : Nat) (c : List Nat) : (pathC t c).cps.toList = (c.map fun i => (nmOf t i).cps.toList).flatMap (47 :: ·) :=
  (pathC_run t c _).trans (congrArg (· ++ _) (by decide +kernel : (Str.ofString "").cps.toList = []))
theorem pathC_snoc (t : Nat) (c : List Nat) (i : Nat) : pathC t (c ++ [i]) = (pathC t c ++ "/") ++ nmOf t i := by
  unfold pathC; rw [List.foldl_append]; rfl
structure PathOk (t : Nat) (c : List Nat) : Prop where
  spl : spl (pathC t c) = c.map (nmOf t)
  splM : Mine.spl (mess (pathC t c)) = c.map (nmOf t)
  st : Txt.startswith (pathC t c) "/" = true
  stM : Txt.startswith (mess (pathC t c)) "/" = true
  len : (pathC t c).length ≤ 250
  lenM : (mess (pathC t c)).length ≤ 250
  noEnd : Txt.endswith (pathC t c) "/" = false
  pos : 0 < (pathC t c).length
  ok : PyData.strOk (pathC t c) = true
  form : Str.ofString "/" ++ Txt.join "/" (c.map (nmOf t)) = pathC t c
  noNl : 10 ∉ (pathC t c).cps.toList
theorem pathOkC (t i : Nat) (r : List Nat) (hl : (i :: r).length ≤ 5) : PathOk t (i :: r) := by
  have w : ∀ q ∈ (i :: r).map fun i => (nmOf t i).cps.toList, Word q := fun q hq => by obtain ⟨j, _, rfl⟩ := List.mem_map.mp hq; exact nmOf_word t j
  have h := pathC_list t (i :: r)
  have e : ((i :: r).map fun i => (nmOf t i).cps.toList).map mkS = (i :: r).map (nmOf t) := by rw [List.map_map]; rfl
  have hM := mess_list h w
  have hlen : ((i :: r).map fun i => (nmOf t i).cps.toList).length ≤ 5 := by rw [List.length_map]; exact hl
  have hm : ∀ c ∈ (pathC t (i :: r)).cps.toList, c = 47 ∨ ∃ q, Word q ∧ c ∈ q := fun c hc => by
    rw [h] at hc
    obtain ⟨q, hq, hc⟩ := List.mem_flatMap.mp hc
    exact (List.mem_cons.mp hc).imp id fun hc => ⟨q, w q hq, hc⟩
  refine ⟨(spl_path h w).trans e, (spl_mess h w).trans e, starts47 h, starts47 hM, ?_, ?_, ?_, ?_, ?_, ?_, ?_⟩
  · show (pathC t (i :: r)).cps.toList.length ≤ 250
    rw [h]
    exact Nat.le_trans (flat_len [47] (by decide) w) (Nat.le_trans (Nat.mul_le_mul_left 7 hlen) (by decide))
  · show (mess (pathC t (i :: r))).cps.toList.length ≤ 250
    rw [hM]
    exact Nat.le_trans (flat_len [47, 47, 46, 47] (by decide) w) (Nat.le_trans (Nat.mul_le_mul_left 7 hlen) (by decide))
  · obtain ⟨c', j, ec⟩ : ∃ c' j, i :: r = c' ++ [j] := ⟨_, _, (List.dropLast_concat_getLast (List.cons_ne_nil i r)).symm⟩
    rw [ec, pathC_snoc]
    exact ends47 Array.toList_append (nmOf_word t j)
  · exact Nat.lt_of_lt_of_eq (Nat.succ_pos _) (congrArg List.length h).symm
  · refine Array.all_eq_true_iff_forall_mem.mpr fun c hc => decide_eq_true ?_
    rcases hm c (Array.mem_toList_iff.mpr hc) with e | ⟨q, wq, hc⟩
    · rw [e]; decide
    · exact wq.ok c hc
  · refine Str.ext' (Array.toList_inj.mp ?_)
    show ((Str.ofString "/").cps ++ (glued (Str.ofString "/") ((i :: r).map (nmOf t))).cps).toList = _
    rw [Array.toList_append, h, ← e]
    refine (congrArg (_ ++ ·) (glue_eq _ _)).trans ?_
    rw [slash]; rfl
  · intro hc
    rcases hm 10 hc with e | ⟨q, wq, hc⟩
    · exact absurd e (by decide)
    · exact wq.nl hc
theorem pathOk {t : Nat} (_ : t < 7) {c : List Nat} (hc : c ∈ allChains) : PathOk t c := by
  have h := chain_small c hc
  cases c with
  | nil => exact absurd rfl h.1
  | cons i r => exact pathOkC t i r h.2
end Mine
end

section
open PySem PySem.W PyProof.Rows PySem.Calls PySem.Spec
set_option maxRecDepth 100000
set_option linter.unusedVariables false
namespace Mine
noncomputable def Jl (a : List Nat) (r : List (List Nat)) : List Nat := a ++ r.flatMap (10 :: ·)
theorem Jl_inj : ∀ (r : List (List Nat)) (a a' : List Nat) (r' : List (List Nat)), 10 ∉ a → 10 ∉ a' → (∀ x ∈ r, 10 ∉ x) → (∀ x ∈ r', 10 ∉ x) → Jl a r = Jl a' r' → a = a' ∧ r = r' := by
  have tw : ∀ (a : List Nat) (r : List (List Nat)), 10 ∉ a → (Jl a r).takeWhile (· != 10) = a ∧ (Jl a r).drop a.length = r.flatMap (10 :: ·) := by
    intro a r ha
    refine ⟨?_, by simp [Jl]⟩
    unfold Jl
    induction a with
    | nil => cases r <;> simp
    | cons x a ih =>
      simp only [List.mem_cons, not_or] at ha
      have hx : (x != 10) = true := by simpa using Ne.symm ha.1
      simp [hx, ih ha.2]
  intro r
  induction r with
  | nil =>
    intro a a' r' ha ha' _ hr' h
    have t1 := tw a [] ha
    have t2 := tw a' r' ha'
    have e : a = a' := by rw [← t1.1, ← t2.1, h]
    subst e
    have e2 : r'.flatMap (10 :: ·) = [] := by rw [← t2.2, ← h]; simp [Jl]
    refine ⟨rfl, ?_⟩
    cases r' with
    | nil => rfl
    | cons b t => simp at e2
  | cons b t ih =>
    intro a a' r' ha ha' hr hr' h
    have t1 := tw a (b :: t) ha
    have t2 := tw a' r' ha'
    have e : a = a' := by rw [← t1.1, ← t2.1, h]
    subst e
    have e2 : r'.flatMap (10 :: ·) = (b :: t).flatMap (10 :: ·) := by rw [← t2.2, ← t1.2, h]
    refine ⟨rfl, ?_⟩
    cases r' with
    | nil => simp at e2
    | cons b' t' =>
      simp only [List.flatMap_cons, List.cons_append, List.cons.injEq, true_and] at e2
      have := ih b b' t' (hr b (.head _)) (hr' b' (.head _)) (fun x hx => hr x (.tail _ hx)) (fun x hx => hr' x (.tail _ hx)) e2.symm
      rw [this.1, this.2]
theorem glue_list (g : Str) : ∀ (l : List Str) (acc : Array Nat), (l.foldl (fun acc p => acc ++ g.cps ++ p.cps) acc).toList = acc.toList ++ l.flatMap (fun p => g.cps.toList ++ p.cps.toList)
  | [], acc => by simp
  | a :: r, acc => by rw [List.foldl_cons, glue_list g r]; simp
noncomputable def okWord (x : Str) : Prop := x.cps.toList ≠ [] ∧ 10 ∉ x.cps.toList
theorem join_inj {l l' : List Str} (h1 : ∀ x ∈ l, okWord x) (h2 : ∀ x ∈ l', okWord x) (h : Txt.join nl l = Txt.join nl l') : l = l' := by
  have nlc : nl.cps.toList = [10] := by decide
  have form : ∀ (a : Str) (r : List Str), (Txt.join nl (a :: r)).cps.toList = Jl a.cps.toList (r.map (·.cps.toList)) := by
    intro a r
    show (r.foldl (fun acc p => acc ++ nl.cps ++ p.cps) a.cps).toList = _
    rw [glue_list, nlc, Jl, List.flatMap_map]; rfl
  have nul : (Txt.join nl []).cps.toList = [] := by decide
  cases l with
  | nil =>
    cases l' with
    | nil => rfl
    | cons a r =>
      have := form a r
      rw [← h, nul] at this
      exact absurd (List.append_eq_nil_iff.mp this.symm).1 (h2 a (.head _)).1
  | cons a r =>
    cases l' with
    | nil =>
      have := form a r
      rw [h, nul] at this
      exact absurd (List.append_eq_nil_iff.mp this.symm).1 (h1 a (.head _)).1
    | cons a' r' =>
      have e : Jl a.cps.toList (r.map (·.cps.toList)) = Jl a'.cps.toList (r'.map (·.cps.toList)) := by rw [← form, ← form, h]
      have inj := Jl_inj _ _ _ _ (h1 a (.head _)).2 (h2 a' (.head _)).2 (by
        intro x hx; obtain ⟨y, hy, rfl⟩ := List.mem_map.mp hx; exact (h1 y (.tail _ hy)).2) (by
        intro x hx; obtain ⟨y, hy, rfl⟩ := List.mem_map.mp hx; exact (h2 y (.tail _ hy)).2) e
      have toL : ∀ x y : Str, x.cps.toList = y.cps.toList → x = y := fun x y h => Str.ext' (Array.toList_inj.mp h)
      rw [toL _ _ inj.1]
      congr 1
      exact (List.map_inj_right (f := fun x : Str => x.cps.toList) (fun x y h => toL x y h)).mp inj.2
theorem key_inj {ps qs : List Str} (h1 : ∀ x ∈ ps, okWord x) (h2 : ∀ x ∈ qs, okWord x) (h : keyOf ps = keyOf qs) : ps.Perm qs := by
  have e := join_inj (l := sortS ps) (l' := sortS qs) (fun x hx => h1 x ((sortS_perm ps).mem_iff.mp hx)) (fun x hx => h2 x ((sortS_perm qs).mem_iff.mp hx)) h
  exact (sortS_perm ps).symm.trans (e ▸ sortS_perm qs)
end Mine
end

section
open PySem PySem.W PyProof.Rows PySem.Calls PySem.Spec
set_option maxRecDepth 100000
set_option linter.unusedVariables false
namespace Mine
noncomputable def chkC (ups : List Nat) : Bool :=
  ((List.range 5).all fun j => (chain ups (j + 1) == chain ups (ups.getD j 0) ++ [j + 1]) && decide (ups.getD j 0 ≤ j)) && decide (ups.length = 5) && (chain ups 0 == []) &&
  ([1, 2, 3, 4, 5].all fun i => (chain ups i).isSublist [1, 2, 3, 4, 5] && !(chain ups i).isEmpty && ([1, 2, 3, 4, 5].all fun j =>
    (anc ups i j == (lcp (chain ups i) (chain ups j) == chain ups i)) && (!anc ups i j || decide (i ≤ j)) && (!(chain ups i == chain ups j) || i == j)))
theorem chk_chains : allUps.all chkC = true := by decide +kernel
theorem nm_inj : ∀ t, t < 7 → ∀ i ∈ [1, 2, 3, 4, 5], ∀ j ∈ [1, 2, 3, 4, 5], nmOf t i = nmOf t j → i = j := by decide +kernel
theorem kept_mask : ∀ m, m < 32 → maskOfL (keptM m) = m := by decide +kernel
theorem p5 {i : Nat} : i ∈ [1, 2, 3, 4, 5] ↔ 1 ≤ i ∧ i ≤ 5 := ⟨(by decide : ∀ i ∈ [1, 2, 3, 4, 5], 1 ≤ i ∧ i ≤ 5) i, fun h => (by decide : ∀ j, j < 6 → 1 ≤ j → j ∈ [1, 2, 3, 4, 5]) i (Nat.lt_succ_of_le h.2) h.1⟩
section
variable {ups : List Nat} {t : Nat}
structure TreeOk (ups : List Nat) : Prop where
  step : ∀ j, j < 5 → chain ups (j + 1) = chain ups (ups.getD j 0) ++ [j + 1]
  le : ∀ j, j < 5 → ups.getD j 0 ≤ j
  len : ups.length = 5
  zero : chain ups 0 = []
  inAll : ∀ i ∈ [1, 2, 3, 4, 5], chain ups i ∈ allChains
  mem5 : ∀ i ∈ [1, 2, 3, 4, 5], ∀ p ∈ chain ups i, p ∈ [1, 2, 3, 4, 5]
  ancIff : ∀ i ∈ [1, 2, 3, 4, 5], ∀ j ∈ [1, 2, 3, 4, 5], anc ups i j = (lcp (chain ups i) (chain ups j) == chain ups i)
  ancLe : ∀ i ∈ [1, 2, 3, 4, 5], ∀ j ∈ [1, 2, 3, 4, 5], anc ups i j = true → i ≤ j
  inj : ∀ i ∈ [1, 2, 3, 4, 5], ∀ j ∈ [1, 2, 3, 4, 5], chain ups i = chain ups j → i = j
  lcpAll : ∀ i ∈ [1, 2, 3, 4, 5], ∀ j ∈ [1, 2, 3, 4, 5], lcp (chain ups i) (chain ups j) = [] ∨ lcp (chain ups i) (chain ups j) ∈ allChains
theorem treeOk (hu : ups ∈ allUps) : TreeOk ups := by
  have h := List.all_eq_true.mp chk_chains ups hu
  unfold chkC at h
  simp only [Bool.and_eq_true, List.all_eq_true, decide_eq_true_eq, beq_iff_eq, List.mem_range, Bool.or_eq_true, Bool.not_eq_true', List.isSublist_iff_sublist] at h
  obtain ⟨⟨⟨h1, h2⟩, h3⟩, h4⟩ := h
  have hs : ∀ i ∈ [1, 2, 3, 4, 5], (chain ups i).Sublist [1, 2, 3, 4, 5] := fun i hi => (h4 i hi).1.1
  refine ⟨fun j hj => (h1 j hj).1, fun j hj => (h1 j hj).2, h2, h3, fun i hi => sub_chain (hs i hi) (fun e => ?_), fun i hi p hp => (hs i hi).subset hp, fun i hi j hj => ((h4 i hi).2 j hj).1.1, fun i hi j hj ha => ?_, fun i hi j hj he => ?_, fun i hi j hj => ?_⟩
  · have q := (h4 i hi).1.2
    rw [e] at q; cases q
  · rcases ((h4 i hi).2 j hj).1.2 with e | e
    · rw [e] at ha; cases ha
    · exact e
  · rcases ((h4 i hi).2 j hj).2 with e | e
    · rw [he, beq_self_eq_true] at e; cases e
    · exact e
  · by_cases e : lcp (chain ups i) (chain ups j) = []
    · exact .inl e
    · exact .inr (sub_chain ((lcp_sub _ _).trans (hs i hi)) e)
noncomputable def txt (ups : List Nat) (t i : Nat) : Str := pathC t (chain ups i)
theorem textsP_eq (T : TreeOk ups) : ∀ j, j ≤ 5 → textsP ups t j = (List.range (j + 1)).map (txt ups t)
  | 0, _ => by
    show [Str.ofString ""] = [txt ups t 0]
    rw [txt, T.zero]; rfl
  | j + 1, hj => by
    have ih := textsP_eq T j (by omega)
    have hle := T.le j (by omega)
    have e : txt ups t (j + 1) = ((textsP ups t j).getD (ups.getD j 0) Str.empty ++ "/") ++ nameAt (j + t) := by
      rw [ih, List.getD_eq_getElem?_getD, List.getElem?_map, List.getElem?_range (by omega), txt, T.step j (by omega), pathC_snoc]
      rfl
    rw [textsP_s, ← e, ih, List.range_succ (n := j + 1), List.map_append]; rfl
theorem cat_assoc (a b c : Str) : a ++ (b ++ c) = (a ++ b) ++ c := by
  apply Str.ext'
  show a.cps ++ (b.cps ++ c.cps) = (a.cps ++ b.cps) ++ c.cps
  rw [Array.append_assoc]
theorem joinedP_eq (T : TreeOk ups) (ht : t < 7) : ∀ j, j ≤ 5 → joinedP ups t j = Str.ofString "/" :: (List.range j).map (fun i => txt ups t (i + 1))
  | 0, _ => rfl
  | j + 1, hj => by
    have ih := joinedP_eq T ht j (by omega)
    have hle := T.le j (by omega)
    have e : txt ups t (j + 1) = joinS ((joinedP ups t j).getD (ups.getD j 0) Str.empty) (nameAt (j + t)) := by
      rw [ih, txt, T.step j (by omega), pathC_snoc]
      rcases Nat.eq_zero_or_pos (ups.getD j 0) with h0 | h0
      · rw [h0, T.zero]
        show _ = joinS (Str.ofString "/") (nameAt (j + t))
        have : joinS (Str.ofString "/") (nameAt (j + t)) = Str.ofString "/" ++ nameAt (j + t) := by
          unfold joinS; rw [if_pos (by decide)]
        rw [this]
        have e1 : pathC t [] ++ Str.ofString "/" = Str.ofString "/" := by show Str.ofString "" ++ Str.ofString "/" = _; decide
        rw [e1]; rfl
      · obtain ⟨u, hu⟩ : ∃ u, ups.getD j 0 = u + 1 := ⟨ups.getD j 0 - 1, by omega⟩
        rw [hu, List.getD_cons_succ, List.getD_eq_getElem?_getD, List.getElem?_map, List.getElem?_range (by omega)]
        show _ = joinS (txt ups t (u + 1)) (nameAt (j + t))
        have P := pathOk ht (T.inAll (u + 1) (p5.mpr (by omega)))
        unfold joinS
        rw [if_neg (by rw [txt, P.noEnd]; decide), cat_assoc]; rfl
    rw [joinedP_s, ← e, ih, List.range_succ, List.map_append]; rfl
end
end Mine
end

section
open PySem PySem.W PyProof.Rows PySem.Calls PySem.Spec
set_option maxRecDepth 100000
set_option linter.unusedVariables false
namespace Mine
theorem map_inj_on {α β : Type} {f : α → β} {S : List α} (hf : ∀ a ∈ S, ∀ b ∈ S, f a = f b → a = b) {l : List α} : ∀ {l' : List α}, (∀ x ∈ l, x ∈ S) → (∀ x ∈ l', x ∈ S) → l.map f = l'.map f → l = l' := by
  induction l with
  | nil => exact fun _ _ h => (List.map_eq_nil_iff.mp h.symm).symm
  | cons a r ih =>
    intro l' h1 h2 h
    cases l' with
    | nil => exact absurd h (List.cons_ne_nil _ _)
    | cons b t =>
      have e := List.cons.inj h
      rw [hf a (h1 a (.head _)) b (h2 b (.head _)) e.1, ih (fun x hx => h1 x (.tail _ hx)) (fun x hx => h2 x (.tail _ hx)) e.2]
theorem lcp_map {f : Nat → Str} {S : List Nat} (hf : ∀ a ∈ S, ∀ b ∈ S, f a = f b → a = b) (l : List Nat) : ∀ l' : List Nat, (∀ x ∈ l, x ∈ S) → (∀ x ∈ l', x ∈ S) → lcp (l.map f) (l'.map f) = (lcp l l').map f := by
  induction l with
  | nil => exact fun _ _ _ => rfl
  | cons a r ih =>
    intro l' h1 h2
    cases l' with
    | nil => rfl
    | cons b t =>
      rw [List.map_cons, List.map_cons]
      by_cases e : a = b
      · rw [e, lcp_same, lcp_same, List.map_cons, ih t (fun x hx => h1 x (.tail _ hx)) (fun x hx => h2 x (.tail _ hx))]
      · rw [lcp_diff e, lcp_diff fun q => e (hf a (h1 a (.head _)) b (h2 b (.head _)) q)]; rfl
theorem lcp_mem (l : List Nat) : ∀ (l' : List Nat) (x : Nat), x ∈ lcp l l' → x ∈ l := by
  induction l with
  | nil => exact fun _ _ h => h
  | cons a r ih =>
    intro l' x h
    cases l' with
    | nil => exact absurd h List.not_mem_nil
    | cons b t =>
      by_cases e : a = b
      · rw [← e, lcp_same] at h
        exact (List.mem_cons.mp h).elim (fun q => q ▸ .head _) fun q => .tail _ (ih t x q)
      · rw [lcp_diff e] at h
        exact absurd h List.not_mem_nil
section
variable {ups : List Nat} {t : Nat}
theorem txt_inj (T : TreeOk ups) (ht : t < 7) {i j : Nat} (hi : i ∈ [1, 2, 3, 4, 5]) (hj : j ∈ [1, 2, 3, 4, 5]) (h : txt ups t i = txt ups t j) : i = j := by
  have e : (chain ups i).map (nmOf t) = (chain ups j).map (nmOf t) := by
    rw [← (pathOk ht (T.inAll i hi)).spl, ← (pathOk ht (T.inAll j hj)).spl]
    exact congrArg spl h
  exact T.inj i hi j hj (map_inj_on (nm_inj t ht) (T.mem5 i hi) (T.mem5 j hj) e)
theorem spl_root : spl (Str.ofString "/" ++ Txt.join (Str.ofString "/") []) = [] := by decide +kernel
theorem below_iff (T : TreeOk ups) (ht : t < 7) {i j : Nat} (hi : i ∈ [1, 2, 3, 4, 5]) (hj : j ∈ [1, 2, 3, 4, 5]) : isBelow (txt ups t i) (txt ups t j) = anc ups i j := by
  have Pi := pathOk ht (T.inAll i hi)
  have Pj := pathOk ht (T.inAll j hj)
  have e : lcp (spl (txt ups t i)) (spl (mess (txt ups t j))) = (lcp (chain ups i) (chain ups j)).map (nmOf t) := by
    rw [txt, txt, Pi.spl, Pj.splM]
    exact lcp_map (nm_inj t ht) _ _ (T.mem5 i hi) (T.mem5 j hj)
  rw [T.ancIff i hi j hj]
  unfold isBelow cpS
  rw [e]
  by_cases h : lcp (chain ups i) (chain ups j) = chain ups i
  · rw [h, Pi.form]
    rw [show (chain ups i == chain ups i) = true by simp]
    show (txt ups t i == txt ups t i) = true
    simp
  · have hb : (lcp (chain ups i) (chain ups j) == chain ups i) = false := by simpa using h
    rw [hb]
    have hne : Str.ofString "/" ++ Txt.join (Str.ofString "/") ((lcp (chain ups i) (chain ups j)).map (nmOf t)) ≠ txt ups t i := by
      intro q
      have q2 := congrArg spl q
      rw [txt, Pi.spl] at q2
      rcases T.lcpAll i hi j hj with h0 | h0
      · rw [h0] at q2
        rw [show (([] : List Nat).map (nmOf t)) = [] from rfl, spl_root] at q2
        have : chain ups i = [] := List.map_eq_nil_iff.mp q2.symm
        exact h (by rw [h0, this])
      · have Pc := pathOk ht h0
        rw [Pc.form, Pc.spl] at q2
        exact h (map_inj_on (nm_inj t ht) (fun x hx => T.mem5 i hi x (lcp_mem _ _ x hx)) (T.mem5 i hi) q2)
    simpa using hne
noncomputable def P5 (ups : List Nat) (t : Nat) : List Str := [1, 2, 3, 4, 5].map (txt ups t)
theorem joined_P5 (T : TreeOk ups) (ht : t < 7) : (joinedP ups t 5).drop 1 = P5 ups t := by
  rw [joinedP_eq T ht 5 (Nat.le_refl _)]; rfl
theorem P5_mem {x : Str} : x ∈ P5 ups t ↔ ∃ i ∈ [1, 2, 3, 4, 5], x = txt ups t i := by
  unfold P5; rw [List.mem_map]; exact ⟨fun ⟨i, h, e⟩ => ⟨i, h, e.symm⟩, fun ⟨i, h, e⟩ => ⟨i, h, e.symm⟩⟩
theorem nodup_map_on {α β : Type} {f : α → β} : ∀ {l : List α}, (∀ a ∈ l, ∀ b ∈ l, f a = f b → a = b) → l.Nodup → (l.map f).Nodup
  | [], _, _ => .nil
  | a :: r, hf, h => by
    rw [List.nodup_cons] at h
    rw [List.map_cons, List.nodup_cons]
    refine ⟨fun hm => ?_, nodup_map_on (fun x hx y hy => hf x (.tail _ hx) y (.tail _ hy)) h.2⟩
    obtain ⟨b, hb, e⟩ := List.mem_map.mp hm
    exact h.1 (hf b (.tail _ hb) a (.head _) e ▸ hb)
theorem P5_nodup (T : TreeOk ups) (ht : t < 7) : (P5 ups t).Nodup := nodup_map_on (fun i hi j hj => txt_inj T ht hi hj) (by decide)
noncomputable def mtxt (ups : List Nat) (t m : Nat) : List Str := (keptM m).map (txt ups t)
theorem keptM_5 {m i : Nat} (h : i ∈ keptM m) : i ∈ [1, 2, 3, 4, 5] := p5.mpr (keptM_mem h)
theorem keptM_nodup (m : Nat) : (keptM m).Nodup := by unfold keptM; exact (by decide : [1, 2, 3, 4, 5].Nodup).sublist List.filter_sublist
theorem textsOf_eq (T : TreeOk ups) (m : Nat) : textsOf ups t m = mtxt ups t m := by
  unfold textsOf mtxt
  refine List.map_congr_left fun i hi => ?_
  have h5 := keptM_mem hi
  rw [textsP_eq T 5 (Nat.le_refl _), List.getD_eq_getElem?_getD, List.getElem?_map, List.getElem?_range (by omega)]; rfl
theorem mtxt_nodup (T : TreeOk ups) (ht : t < 7) (m : Nat) : (mtxt ups t m).Nodup := nodup_map_on (fun i hi j hj => txt_inj T ht (keptM_5 hi) (keptM_5 hj)) (keptM_nodup m)
theorem mem_mtxt (T : TreeOk ups) (ht : t < 7) {m i : Nat} (hi : i ∈ [1, 2, 3, 4, 5]) : txt ups t i ∈ mtxt ups t m ↔ i ∈ keptM m := by
  unfold mtxt
  rw [List.mem_map]
  constructor
  · rintro ⟨j, hj, e⟩; rw [← txt_inj T ht (keptM_5 hj) hi e]; exact hj
  · intro h; exact ⟨i, h, rfl⟩
noncomputable def mof (ups : List Nat) (t : Nat) (ps : List Str) : Nat := maskOfL ([1, 2, 3, 4, 5].filter fun i => decide (txt ups t i ∈ ps))
theorem mof_perm {ps qs : List Str} (h : ps.Perm qs) : mof ups t ps = mof ups t qs := by
  unfold mof
  congr 1
  exact List.filter_congr fun i _ => by rw [decide_eq_decide]; exact h.mem_iff
theorem kept_filter (m : Nat) : [1, 2, 3, 4, 5].filter (fun i => decide (i ∈ keptM m)) = keptM m := by
  have : ∀ i ∈ [1, 2, 3, 4, 5], decide (i ∈ keptM m) = (m / 2 ^ (i - 1) % 2 == 1) := by
    intro i hi
    have h : i ∈ keptM m ↔ (m / 2 ^ (i - 1) % 2 == 1) = true := by
      unfold keptM
      rw [List.mem_filter]
      exact ⟨fun h => h.2, fun h => ⟨hi, h⟩⟩
    cases e : (m / 2 ^ (i - 1) % 2 == 1) with
    | true => exact decide_eq_true (h.mpr e)
    | false => exact decide_eq_false fun q => by rw [h.mp q] at e; cases e
  rw [List.filter_congr this]; rfl
theorem mof_mtxt (T : TreeOk ups) (ht : t < 7) {m : Nat} (hm : m < 32) {ps : List Str} (h : ps.Perm (mtxt ups t m)) : mof ups t ps = m := by
  rw [mof_perm h]
  unfold mof
  have : [1, 2, 3, 4, 5].filter (fun i => decide (txt ups t i ∈ mtxt ups t m)) = [1, 2, 3, 4, 5].filter (fun i => decide (i ∈ keptM m)) :=
    List.filter_congr fun i hi => by rw [decide_eq_decide]; exact mem_mtxt T ht hi
  rw [this, kept_filter, kept_mask m hm]
theorem word_ok (T : TreeOk ups) (ht : t < 7) {i : Nat} (hi : i ∈ [1, 2, 3, 4, 5]) : okWord (txt ups t i) := by
  have P := pathOk ht (T.inAll i hi)
  refine ⟨fun h => ?_, P.noNl⟩
  have := P.pos
  have e : (pathC t (chain ups i)).length = (pathC t (chain ups i)).cps.toList.length := by simp [Str.length]
  rw [txt] at h
  rw [e, h] at this
  simp at this
end
end Mine
end

section
open PySem PySem.W PyProof.Rows PySem.Calls PySem.Spec
set_option maxRecDepth 100000
set_option linter.unusedVariables false
namespace Mine
noncomputable def dropTo (x : Str) : List (Str × Tok) → List (Str × Tok)
  | [] => []
  | p :: r => if p.1 = x then p :: r else dropTo x r
theorem dropTo_same {x : Str} {p : Str × Tok} {r : List (Str × Tok)} (e : p.1 = x) : dropTo x (p :: r) = p :: r := if_pos e
theorem dropTo_diff {x : Str} {p : Str × Tok} {r : List (Str × Tok)} (e : p.1 ≠ x) : dropTo x (p :: r) = dropTo x r := if_neg e
theorem dropTo_at {q : Str × Tok} {ts : List (Str × Tok)} : (ts.map (·.1)).Nodup → ∀ {k : Nat}, ts[k]? = some q → dropTo q.1 ts = ts.drop k := by
  induction ts with
  | nil => exact fun _ _ h => nomatch h
  | cons p r ih =>
    intro hn k h
    cases k with
    | zero => exact dropTo_same (congrArg Prod.fst (Option.some.inj h))
    | succ k =>
      rw [List.map_cons, List.nodup_cons] at hn
      rw [dropTo_diff (fun e => hn.1 (e ▸ List.mem_map.mpr ⟨q, List.mem_of_getElem? h, rfl⟩)), ih hn.2 h, List.drop_succ_cons]
theorem dropTo_sub (x : Str) (ts : List (Str × Tok)) : (dropTo x ts).Sublist ts := by
  induction ts with
  | nil => exact List.Sublist.refl _
  | cons p r ih =>
    by_cases e : p.1 = x
    · rw [dropTo_same e]; exact List.Sublist.refl _
    · rw [dropTo_diff e]; exact ih.cons _
theorem lcp_self (l : List Nat) : lcp l l = l := by
  induction l with
  | nil => rfl
  | cons a r ih => rw [lcp_same, ih]
theorem bit_up : ∀ m, m < 32 → ∀ i ∈ [1, 2, 3, 4, 5], i ∉ keptM m → m + 2 ^ (i - 1) < 32 ∧ i ∈ keptM (m + 2 ^ (i - 1)) := by decide +kernel
theorem kept31 : keptM 31 = [1, 2, 3, 4, 5] := by decide +kernel
theorem closed31 (hu : ups ∈ allUps) : closedM ups 31 = true := by
  have : ∀ ups ∈ allUps, closedM ups 31 = true := by decide +kernel
  exact this ups hu
noncomputable def gameOf (ups : List Nat) (t : Nat) (ts : List (Str × Tok)) : Game where
  B x := (dropTo x ts).filter (fun z => isBelow x z.1)
  Ps ps := ∃ m, m < 32 ∧ closedM ups m = true ∧ ps.Perm (mtxt ups t m)
  g ps := nimM ups (mof ups t ps)
  keys := (List.range 32).map (fun m => keyOf (mtxt ups t m))
structure MaskOk (ups : List Nat) (m : Nat) : Prop where
  low : 0 ≤ nimM ups m
  le : nimM ups m ≤ (keptM m).length
  cl : ∀ i ∈ keptM m, closedM ups (mrem ups m i) = true
  lt : ∀ i ∈ keptM m, mrem ups m i < m
  ne : ∀ i ∈ keptM m, nimM ups (mrem ups m i) ≠ nimM ups m
  kept : ∀ i ∈ keptM m, keptM (mrem ups m i) = (keptM m).filter fun j => !anc ups i j
  mex : ∀ k : Nat, k < 5 → (k : Int) < nimM ups m → ∃ i ∈ keptM m, nimM ups (mrem ups m i) = (k : Int)
  up : m = 31 ∨ ∃ i ∈ [1, 2, 3, 4, 5], i ∉ keptM m ∧ closedM ups (m + 2 ^ (i - 1)) = true ∧ mrem ups (m + 2 ^ (i - 1)) i = m
theorem maskOk {ups : List Nat} (hu : ups ∈ allUps) {m : Nat} (hm : m < 32) (hc : closedM ups m = true) : MaskOk ups m := by
  have h := (force_eq m (chkM ups)).symm.trans (List.all_eq_true.mp (List.all_eq_true.mp chk_all ups hu) m (List.mem_range.mpr hm))
  unfold chkM at h
  rw [hc] at h
  simp only [force_eq, Bool.not_true, Bool.false_or, Bool.and_eq_true, decide_eq_true_eq, List.all_eq_true, List.mem_range, Bool.or_eq_true, List.any_eq_true, beq_iff_eq, Bool.not_eq_true'] at h
  obtain ⟨⟨⟨⟨h1, h2⟩, h3⟩, h4⟩, h5⟩ := h
  refine ⟨h1, h2, fun i hi => (h3 i hi).1.1, fun i hi => (h3 i hi).1.2, fun i hi => (h3 i hi).2, fun i _ => kept_rem ups m i, fun k hk hlt => ?_, ?_⟩
  · rcases h4 k hk with h | ⟨i, hi, e⟩
    · omega
    · exact ⟨i, hi, e⟩
  · rcases h5 with h | ⟨i, hi, a, b, c⟩
    · exact .inl h
    · refine .inr ⟨i, hi, ?_, b, c⟩
      intro q
      rw [← List.contains_iff_mem, a] at q
      cases q
section
variable {ups : List Nat} {t : Nat} {ts : List (Str × Tok)}
theorem P5_at (ups : List Nat) (t : Nat) {i : Nat} (hi : i ∈ [1, 2, 3, 4, 5]) : (P5 ups t)[i - 1]? = some (txt ups t i) := by
  simp only [List.mem_cons, List.not_mem_nil, or_false] at hi
  rcases hi with rfl | rfl | rfl | rfl | rfl <;> rfl
theorem P5_drop (ups : List Nat) (t : Nat) {i : Nat} (hi : i ∈ [1, 2, 3, 4, 5]) (x : Str) : x ∈ (P5 ups t).drop (i - 1) ↔ ∃ j ∈ [1, 2, 3, 4, 5], i ≤ j ∧ x = txt ups t j := by
  have key : (P5 ups t).drop (i - 1) = ([1, 2, 3, 4, 5].filter (fun j => decide (i ≤ j))).map (txt ups t) := by
    simp only [List.mem_cons, List.not_mem_nil, or_false] at hi
    rcases hi with rfl | rfl | rfl | rfl | rfl <;> rfl
  rw [key, List.mem_map]
  constructor
  · rintro ⟨j, hj, e⟩
    obtain ⟨h1, h2⟩ := List.mem_filter.mp hj
    exact ⟨j, h1, of_decide_eq_true h2, e.symm⟩
  · rintro ⟨j, hj, h, e⟩
    exact ⟨j, List.mem_filter.mpr ⟨hj, decide_eq_true h⟩, e.symm⟩
theorem gameB_at (hts : ts.map (·.1) = P5 ups t) (T : TreeOk ups) (ht : t < 7) {k : Nat} {q : Str × Tok} (hq : ts[k]? = some q) : (gameOf ups t ts).B q.1 = (ts.drop k).filter (fun z => isBelow q.1 z.1) := by
  show (dropTo q.1 ts).filter _ = _
  rw [dropTo_at (by rw [hts]; exact P5_nodup T ht) hq]
theorem memB (hts : ts.map (·.1) = P5 ups t) (T : TreeOk ups) (ht : t < 7) {i j : Nat} (hi : i ∈ [1, 2, 3, 4, 5]) (hj : j ∈ [1, 2, 3, 4, 5]) : txt ups t j ∈ ((gameOf ups t ts).B (txt ups t i)).map (·.1) ↔ anc ups i j = true := by
  obtain ⟨q, hq, hq1⟩ : ∃ q, ts[i - 1]? = some q ∧ q.1 = txt ups t i := by
    have h := P5_at ups t hi
    rw [← hts, List.getElem?_map] at h
    obtain ⟨q, h1, h2⟩ := Option.map_eq_some_iff.mp h
    exact ⟨q, h1, h2⟩
  rw [← hq1, gameB_at hts T ht hq, hq1]
  have e : ((ts.drop (i - 1)).filter (fun z => isBelow (txt ups t i) z.1)).map (·.1) = ((P5 ups t).drop (i - 1)).filter (fun x => isBelow (txt ups t i) x) := by
    rw [← hts, ← List.map_drop, List.filter_map]; rfl
  rw [e, List.mem_filter, P5_drop ups t hi, below_iff T ht hi hj]
  constructor
  · exact fun h => h.2
  · exact fun h => ⟨⟨j, hj, T.ancLe i hi j hj h, rfl⟩, h⟩
theorem stay_perm' (hts : ts.map (·.1) = P5 ups t) (hu : ups ∈ allUps) (T : TreeOk ups) (ht : t < 7) {m : Nat} (hm : m < 32) (hc : closedM ups m = true) {ps : List Str} (hp : ps.Perm (mtxt ups t m)) {i : Nat} (hi : i ∈ keptM m) :
    ((gameOf ups t ts).stay ps (txt ups t i)).Perm (mtxt ups t (mrem ups m i)) := by
  unfold Game.stay
  refine (List.reverse_perm _).trans ((hp.filter _).trans (List.Perm.of_eq ?_))
  unfold mtxt
  rw [(maskOk hu hm hc).kept i hi, List.filter_map]
  congr 1
  refine List.filter_congr fun j hj => ?_
  show decide (txt ups t j ∉ ((gameOf ups t ts).B (txt ups t i)).map (·.1)) = !anc ups i j
  have h := memB hts T ht (keptM_5 hi) (keptM_5 hj)
  cases e : anc ups i j with
  | true => exact decide_eq_false fun q => q (h.mpr e)
  | false => exact decide_eq_true fun q => by rw [h.mp q] at e; cases e
theorem game_ok (hts : ts.map (·.1) = P5 ups t) (hu : ups ∈ allUps) (ht : t < 7) : (gameOf ups t ts).Ok := by
  have T := treeOk hu
  have inTxt : ∀ {ps : List Str} {m : Nat}, ps.Perm (mtxt ups t m) → ∀ x ∈ ps, ∃ i ∈ keptM m, x = txt ups t i := fun hp x hx => by
    obtain ⟨i, hi, e⟩ := List.mem_map.mp (hp.mem_iff.mp hx)
    exact ⟨i, hi, e.symm⟩
  have hlen : ∀ {ps : List Str} {m : Nat}, ps.Perm (mtxt ups t m) → ps.length = (keptM m).length := fun hp => by rw [hp.length_eq, mtxt, List.length_map]
  have tl : ts.length = 5 := by have := congrArg List.length hts; rw [List.length_map] at this; exact this
  refine ⟨?_, ?_, ?_, ?_, ?_, ?_, ?_, ?_, ?_, ?_, ?_, ?_, ?_⟩
  · rintro ps ⟨m, hm, hc, hp⟩
    exact hp.nodup_iff.mpr (mtxt_nodup T ht m)
  · rintro ps ⟨m, hm, hc, hp⟩
    rw [hlen hp]; exact keptM_len m
  · rintro ps ⟨m, hm, hc, hp⟩ x hx
    obtain ⟨i, hi, rfl⟩ := inTxt hp x hx
    have := (pathOk ht (T.inAll i (keptM_5 hi))).len
    rw [txt]; omega
  · rintro ps ⟨m, hm, hc, hp⟩ x hx
    have sub : ((gameOf ups t ts).B x).Sublist ts := List.filter_sublist.trans (dropTo_sub x ts)
    refine ⟨?_, ?_, ?_⟩
    · have h1 := P5_nodup T ht
      rw [← hts] at h1
      exact h1.sublist (sub.map _)
    · have := sub.length_le; omega
    · rw [List.all_eq_true]
      intro y hy
      obtain ⟨q, hq, rfl⟩ := List.mem_map.mp hy
      have : q.1 ∈ P5 ups t := by rw [← hts]; exact List.mem_map.mpr ⟨q, sub.subset hq, rfl⟩
      obtain ⟨i, hi, e⟩ := P5_mem.mp this
      rw [e, txt]; exact (pathOk ht (T.inAll i hi)).ok
  · rintro ps ⟨m, hm, hc, hp⟩ x hx
    obtain ⟨i, hi, rfl⟩ := inTxt hp x hx
    have sp := stay_perm' hts hu T ht hm hc hp hi
    have M := maskOk hu hm hc
    refine ⟨⟨mrem ups m i, Nat.lt_trans (M.lt i hi) hm, M.cl i hi, sp⟩, ?_⟩
    rw [hlen sp, hlen hp, M.kept i hi]
    refine List.length_filter_lt_length_iff_exists.mpr ⟨i, hi, ?_⟩
    have : anc ups i i = true := by rw [T.ancIff i (keptM_5 hi) i (keptM_5 hi), lcp_self]; simp
    simp [this]
  · rintro ps ⟨m, hm, hc, hp⟩
    show 0 ≤ nimM ups (mof ups t ps)
    rw [mof_mtxt T ht hm hp]; exact (maskOk hu hm hc).low
  · rintro ps ⟨m, hm, hc, hp⟩
    show nimM ups (mof ups t ps) ≤ _
    rw [mof_mtxt T ht hm hp, hlen hp]; exact (maskOk hu hm hc).le
  · rintro ps ⟨m, hm, hc, hp⟩ x hx
    obtain ⟨i, hi, rfl⟩ := inTxt hp x hx
    have M := maskOk hu hm hc
    show nimM ups (mof ups t _) ≠ nimM ups (mof ups t ps)
    rw [mof_mtxt T ht hm hp, mof_mtxt T ht (Nat.lt_trans (M.lt i hi) hm) (stay_perm' hts hu T ht hm hc hp hi)]
    exact M.ne i hi
  · rintro ps ⟨m, hm, hc, hp⟩ k h0 hk
    have M := maskOk hu hm hc
    have hk' : k < nimM ups (mof ups t ps) := hk
    rw [mof_mtxt T ht hm hp] at hk'
    have hle := M.le
    have h5 := keptM_len m
    obtain ⟨i, hi, e⟩ := M.mex k.toNat (by omega) (by omega)
    refine ⟨txt ups t i, hp.mem_iff.mpr (List.mem_map.mpr ⟨i, hi, rfl⟩), ?_⟩
    show nimM ups (mof ups t _) = k
    rw [mof_mtxt T ht (Nat.lt_trans (M.lt i hi) hm) (stay_perm' hts hu T ht hm hc hp hi), e]
    omega
  · rintro ps qs ⟨m, hm, hc, hp⟩ ⟨m', hm', hc', hp'⟩ h
    refine key_inj (fun x hx => ?_) (fun x hx => ?_) h
    · obtain ⟨i, hi, rfl⟩ := inTxt hp x hx; exact word_ok T ht (keptM_5 hi)
    · obtain ⟨i, hi, rfl⟩ := inTxt hp' x hx; exact word_ok T ht (keptM_5 hi)
  · intro ps qs h
    show nimM ups (mof ups t ps) = nimM ups (mof ups t qs)
    rw [mof_perm h]
  · rintro ps ⟨m, hm, hc, hp⟩
    exact List.mem_map.mpr ⟨m, List.mem_range.mpr hm, (keyOf_perm hp).symm⟩
  · show ((List.range 32).map _).length ≤ 1000
    simp
theorem whole_ok (hts : ts.map (·.1) = P5 ups t) (hu : ups ∈ allUps) : (gameOf ups t ts).Ps (ts.map (·.1)) :=
  ⟨31, by decide, closed31 hu, by rw [hts]; unfold P5 mtxt; rw [kept31]⟩
theorem dicts_same (hts : ts.map (·.1) = P5 ups t) (hu : ups ∈ allUps) (ht : t < 7) {kvs kvs' : List (Str × Value)} (hg : DGood (gameOf ups t ts) kvs) (hcl : DClosed (gameOf ups t ts) kvs) (hall : keyOf (ts.map (·.1)) ∈ kvs.map (·.1))
    (hn : (kvs.map (·.1)).Nodup) (hd : DueInv ups t 32 kvs') (hn' : (kvs'.map (·.1)).Nodup) :
    kvs.length = kvs'.length ∧ ∀ kv ∈ kvs, ∃ a t u, kv.2 = .int a t ∧ valueAt kvs' kv.1 = some (.int a u) := by
  have T := treeOk hu
  have reach : ∀ k m, 31 - m = k → m < 32 → closedM ups m = true → keyOf (mtxt ups t m) ∈ kvs.map (·.1) := by
    intro k
    induction k using Nat.strongRecOn with
    | _ k ih =>
      intro m hk hm hc
      rcases (maskOk hu hm hc).up with e | ⟨i, hi, hni, hc', hr⟩
      · subst e
        rw [hts] at hall
        have : mtxt ups t 31 = P5 ups t := by unfold P5 mtxt; rw [kept31]
        rw [this]; exact hall
      · obtain ⟨hm', hi'⟩ := bit_up m hm i hi hni
        have hpos : 0 < 2 ^ (i - 1) := Nat.pow_pos (by decide)
        have h1 := ih (31 - (m + 2 ^ (i - 1))) (by omega) (m + 2 ^ (i - 1)) rfl hm' hc'
        have h2 := hcl (mtxt ups t (m + 2 ^ (i - 1))) ⟨_, hm', hc', List.Perm.refl _⟩ h1 (txt ups t i) (List.mem_map.mpr ⟨i, hi', rfl⟩)
        rw [keyOf_perm (stay_perm' hts hu T ht hm' hc' (List.Perm.refl _) hi'), hr] at h2
        exact h2
  have sub1 : ∀ x ∈ kvs.map (·.1), x ∈ kvs'.map (·.1) := fun x hx => by
    obtain ⟨kv, hm, rfl⟩ := List.mem_map.mp hx
    obtain ⟨ps, tk, ⟨m, h1, h2, h3⟩, e, _⟩ := hg kv hm
    rw [e, keyOf_perm h3, ← textsOf_eq T]
    exact hd.2 m h1 h2
  have sub2 : ∀ x ∈ kvs'.map (·.1), x ∈ kvs.map (·.1) := fun x hx => by
    obtain ⟨kv, hm, rfl⟩ := List.mem_map.mp hx
    obtain ⟨m, tk, h1, h2, e, _⟩ := hd.1 kv hm
    rw [e, textsOf_eq T]
    exact reach _ m rfl h1 h2
  refine ⟨?_, fun kv hm => ?_⟩
  · have h1 := nodup_len hn sub1
    have h2 := nodup_len hn' sub2
    rw [List.length_map, List.length_map] at h1 h2
    omega
  · obtain ⟨ps, tk, ⟨m, h1, h2, h3⟩, e, ev⟩ := hg kv hm
    have hin := sub1 kv.1 (List.mem_map.mpr ⟨kv, hm, rfl⟩)
    cases e2 : valueAt kvs' kv.1 with
    | none => exact absurd hin (valueAt_none.mp e2)
    | some v =>
      unfold valueAt at e2
      obtain ⟨kv', g1, rfl⟩ := Option.map_eq_some_iff.mp e2
      obtain ⟨m', tk', g2, g3, g4, g5⟩ := hd.1 kv' (List.mem_of_find?_eq_some g1)
      have g6 : kv'.1 = kv.1 := by simpa using List.find?_some g1
      refine ⟨(gameOf ups t ts).g ps, tk, tk', ev, ?_⟩
      rw [g5]
      have hk : keyOf (mtxt ups t m) = keyOf (mtxt ups t m') := by rw [← keyOf_perm h3, ← e, ← g6, g4, textsOf_eq T]
      have pm := (game_ok hts hu ht).inj _ _ ⟨m, h1, h2, List.Perm.refl _⟩ ⟨m', g2, g3, List.Perm.refl _⟩ hk
      have em : m = m' := by rw [← mof_mtxt T ht h1 (List.Perm.refl _), ← mof_mtxt T ht g2 (List.Perm.refl _), mof_perm pm]
      show some (Value.int (nimM ups m') tk') = some (Value.int (nimM ups (mof ups t ps)) tk')
      rw [mof_mtxt T ht h1 h3, em]
end
end Mine
end

section
open PySem PySem.W PyProof.Rows PySem.Calls PySem.Spec
set_option maxRecDepth 100000
set_option linter.unusedVariables false
set_option maxHeartbeats 1000000
namespace Mine
theorem intsAre_ex {vs : List Value} {ns : List Int} (h : IntsAre vs ns) : ∃ ts : List (Int × Tok), vs = ts.map vint ∧ ns = ts.map (·.1) := by
  induction h with
  | nil => exact ⟨[], rfl, rfl⟩
  | cons y t _ ih => obtain ⟨ts, e1, e2⟩ := ih; exact ⟨(y, t) :: ts, by rw [e1]; rfl, by rw [e2]; rfl⟩
theorem hits_of {A : Around} {s : Shared} {kb : List (Str × Value)} : ∀ {ka : List (Str × Value)}, (∀ kv ∈ ka, ∃ a t u, kv.2 = .int a t ∧ valueAt kb kv.1 = some (.int a u)) → KeqHits A s kb ka true
  | [], _ => .nil
  | (k, v) :: r, h => by
    obtain ⟨a, t, u, e, hv⟩ := h (k, v) (.head _)
    dsimp only at e hv
    subst e
    have hr := hits_of (A := A) (s := s) (kb := kb) (ka := r) fun kv hm => h kv (.tail _ hm)
    have he : SeqAt.EqAt A s (.int a t) (.int a u) true := by
      have := SeqAt.EqAt.int_int (A := A) (s := s) a t a u
      simpa using this
    exact KeqHits.hit (e := true) (b := true) hv he hr
namespace Wp
section
variable {w : World} {A : Around} {s : Shared} {h₀ : Heap} {L D : Addr} {m : Str → Option Value} {env : Env} {news news' : List (Addr × Obj)}
theorem sumI {hp0 : Heap} {tk0 : Nat} {ts : List (Int × Tok)} {n : Nat} {Q : Value → Shared → Prop} (hh : A.handled = none) (X : Led h₀ L hp0 m news) (hm : (D, IL ts n) ∈ news)
    (h : ∀ h' t tk, Led h₀ L h' m news → Q (.int (ts.map (·.1)).sum t) { s with heap := h', toks := tk }) : Wp w A (PySem.call (.builtin "sum") [.ref D]) Q { s with heap := hp0, toks := tk0 } := by
  have e : (ts.map vint).toArray = intItems ts.toArray := by simp [intItems]
  have hl : hp0.IsList D (intItems ts.toArray) := by rw [← e]; exact isListIL (s := { s with heap := hp0, toks := tk0 }) X hm
  refine ⟨sum_intListG hh hl fun h' tk t' hk => ?_⟩
  have e2 : preSum (numAt ts.toArray) ts.toArray.size = (ts.map (·.1)).sum := by
    rw [preSum_eq, List.take_of_length_le (by simp)]
  rw [e2]
  exact h h' t' tk (X.keeps hk)
theorem intI {n : Int} {u : Tok} {Q : Value → Shared → Prop} (h : Q (.int n u) s) : Wp w A (PySem.call (.type "int") [.int n u]) Q s := ⟨call_int_int h⟩
theorem pow10 {hp0 : Heap} {tk0 : Nat} {t u : Tok} {Q : Value → Shared → Prop} (h : Q (.int 1000000 tk0) { s with heap := hp0, toks := tk0 + 1 }) : Wp w A (binaryOp .Pow (.int 10 t) (.int 6 u)) Q { s with heap := hp0, toks := tk0 } :=
  ⟨AutoIntOps.pow_4 (by decide) (by decide) (by decide) (by decide) (by decide +kernel) h⟩
theorem tSliceH {hp0 : Heap} {tk0 : Nat} {value slice : Expr} {its : Array Value} {a : Addr} {vl vu vk : Value} {lo hi st : Option Int} {zs ops : List Value} {Q : Value → Shared → Prop}
    (hs : subscripted slice false (.ref D) (.ref a) = operate ops (getItem (.ref D) (.ref a))) (X : Led h₀ L hp0 m news) (hm : hp0.IsList D its) (ha : (a, slOf vl vu vk) ∈ news) (pl : IsPart vl lo) (pu : IsPart vu hi) (pk : IsPart vk st) (h0 : st ≠ some 0)
    (hz : its.size ≤ 1000) (e : (slicePick its lo hi st).toList = zs) (h : ∀ d h', Led h₀ L h' m ((d, listOf zs.toArray 0) :: news) → Q (.ref d) { s with heap := h', toks := tk0 }) : Wp w A (subscriptTail value slice (.ref D) (.ref a)) Q { s with heap := hp0, toks := tk0 } := by
  subst e
  refine ⟨tail_any hm.typeIs slot_list_getitem.lookup (wpAny_getItem_list_slice hm (show hp0.IsSliceOf a vl vu vk from ⟨_, X.get ha, rfl, rfl⟩) pl pu pk h0 ?_ (by rw [sizeLine_eq]; omega)) hs⟩
  refine h _ _ ?_
  rw [Array.toArray_toList]
  exact X.more (fun _ _ e => Heap.get?_push_of_some _ e) (Heap.get?_push_size _ rfl)
theorem eqD {a b : Addr} {oa ob : Obj} {ka kb : List (Str × Value)} {Q : Value → Shared → Prop} (X : Led h₀ L s.heap m news) (pa : (a, oa) ∈ news) (pb : (b, ob) ∈ news) (da : SD PR w oa ka) (db : SD PR w ob kb) (la : (a == sysModules) = false) (lb : (b == sysModules) = false)
    (hl : ka.length = kb.length) (hu : A.units < cLine) (hk : ∀ kv ∈ ka, ∃ a t u, kv.2 = .int a t ∧ valueAt kb kv.1 = some (.int a u)) (h : Q (.bool true) s) : Wp w A (compareOp .Eq (.ref a) (.ref b)) Q s :=
  ⟨keq_pairs X.nw pa pb da db la lb hl hu (hits_of hk) h⟩
end
end Wp
noncomputable def nums (ns : List Int) : List Int := ((ns.take 4).map (fun n : Int => n.fmod 1000000) ++ [1, 1, 0, 2]).take 4
noncomputable def upsI (ns : List Int) (k : Nat) : List Int := (List.range k).map (fun k => ((nums ns).getD k 0).fmod ((k : Int) + 2))
noncomputable def upsN (ns : List Int) : List Nat := 0 :: (List.range 4).map (fun k => (((nums ns).getD k 0).fmod ((k : Int) + 2)).toNat)
noncomputable def turnN (ns : List Int) : Nat := ((nums ns).sum.fmod 7).toNat
theorem nums_len (ns : List Int) : (nums ns).length = 4 := by
  unfold nums; rw [List.length_take, List.length_append]; simp
theorem fmod_lt (a : Int) (k : Nat) (hk : 0 < k) : 0 ≤ a.fmod (k : Int) ∧ a.fmod (k : Int) < k := by
  rw [Int.fmod_eq_emod_of_nonneg _ (Int.natCast_nonneg _)]
  exact ⟨Int.emod_nonneg _ (by omega), Int.emod_lt_of_pos _ (by omega)⟩
theorem ups_all (ns : List Int) : upsN ns ∈ allUps := by
  unfold upsN allUps
  have h : ∀ k : Nat, (((nums ns).getD k 0).fmod ((k : Int) + 2)).toNat < k + 2 := fun k => by
    have := fmod_lt ((nums ns).getD k 0) (k + 2) (by omega)
    have e : (((k + 2 : Nat)) : Int) = (k : Int) + 2 := by push_cast; rfl
    rw [e] at this; omega
  simp only [List.mem_flatMap, List.mem_map, List.mem_range]
  exact ⟨_, h 0, _, h 1, _, h 2, _, h 3, rfl⟩
theorem turn_lt (ns : List Int) : turnN ns < 7 := by
  unfold turnN; have := fmod_lt (nums ns).sum 7 (by omega); rw [show ((7 : Nat) : Int) = 7 from rfl] at this; omega
theorem ups_cast (ns : List Int) : (0 : Int) :: upsI ns 4 = (upsN ns).map Int.ofNat := by
  have h : ∀ k : Nat, Int.ofNat (((nums ns).getD k 0).fmod ((k : Int) + 2)).toNat = ((nums ns).getD k 0).fmod ((k : Int) + 2) := fun k => by
    have := fmod_lt ((nums ns).getD k 0) (k + 2) (by omega)
    have e : (((k + 2 : Nat)) : Int) = (k : Int) + 2 := by push_cast; rfl
    rw [e] at this
    exact Int.toNat_of_nonneg this.1
  unfold upsI upsN
  rw [List.map_cons, List.map_map]
  congr 1
  exact (List.map_congr_left fun k _ => h k).symm
theorem nums_of {c3 cs : List (Int × Tok)} (h : c3.map (·.1) = ((cs.map (·.1)).take 4).map (fun n : Int => n.fmod 1000000) ++ [1, 1, 0, 2]) : (c3.take 4).map (·.1) = nums (cs.map (·.1)) := by
  rw [List.map_take, h, nums]
theorem len_of {c3 cs : List (Int × Tok)} (h : c3.map (·.1) = ((cs.map (·.1)).take 4).map (fun n : Int => n.fmod 1000000) ++ [1, 1, 0, 2]) : c3.length ≤ 8 := by
  have := congrArg List.length h; simp at this; omega
end Mine
end

section
open PySem PySem.W PyProof.Rows PySem.Calls PySem.Spec
set_option maxRecDepth 100000
set_option linter.unusedVariables false
set_option maxHeartbeats 4000000
namespace Mine
theorem lw : PySem.Challenge.rw_pd0045_01.Holds := by
  refine hd ?_
  k_go0
  all_goals try k_fold
  rename_i w s₀ s₁ mg mb G Y fa o pm doc ho hg KX X V GL T B TE TW w10 w9 M w8 w7 hcd ns hs hlay0 hL1 hr1 hl2 w5 w4 l vs w1a hL ra w1 r0 hI hr hcond1 hcond K0 hD h₁ tk₁ F oc right N0 X0
  have hfill : (hd.heap_39 w.params).length = (hd.heap_39 w.params).length ∧ PySem.Challenge.rw_pd0045_01.foot = PySem.Challenge.rw_pd0045_01.foot := by k_fill; exact ⟨rfl, rfl⟩
  clear hfill
  have dc : oc.data = .cell none := right
  refine Led.gen1 (nw := [(s₁.heap.objs.size + 1, oc)]) (x1 := "script") (v1 := (.ref l)) (⟨F, N0, by simp⟩) (rfl) ?_
  intro m₁ X2 hm1
  clear F N0 X0 right G Y X V GL B TE TW M hcd hs hlay0 hL1 hr1 hl2 ra w1 r0 hr K0 hD ho
  obtain ⟨QQ, hQQ⟩ : ∃ QQ : Flow → Shared → Prop, QQ = (fun f s' => f = .ret (.bool true) ∧ ∃ h' m' nw tk, s' = { ({ s₁ with heap := h₁, toks := tk₁ } : Shared) with heap := h', toks := tk } ∧ Led s₁.heap s₁.heap.objs.size h' m' nw) := ⟨_, rfl⟩
  refine (Wp.mono (Q := QQ) (s := { s₁ with heap := h₁, toks := tk₁ }) ?_ ?_).to
  rotate_left
  · rintro f s' hq
    rw [hQQ] at hq
    obtain ⟨rfl, h', m', nw, tk, rfl, X3⟩ := hq
    refine goodW_bool X3.fr hg (raisesW_false ?_) ?_
    · wrow_none_raised
    · first | wrow_post | kc_post
  have hlen : ns.length ≤ 63 := by
    have h63 : ¬ ((63 : Nat) : Int) < (ns.length : Int) := hcond1
    omega
  clear hcond1 hcond qk ek
  obtain ⟨cs, rfl, rfl⟩ := intsAre_ex hI
  have hlen' : cs.length ≤ 63 := by rw [List.length_map] at hlen; exact hlen
  clear hlen hI
  have hA0 : ∀ e : Env, (callerA.deeper e).frames = some [e] := fun e => rfl
  have hH : ∀ e : Env, (callerA.deeper e).handled = none := fun e => rfl
  have hDp : ∀ e : Env, (callerA.deeper e).depth + 40 < recursionLimit := fun e => by show callerA.depth + 1 + 40 < recursionLimit; decide +kernel
  have hUn : ∀ e : Env, (callerA.deeper e).units + 300 < cLine := fun e => by show callerA.units + 3 + 300 < cLine; decide +kernel
  have hLl : ∀ {m' : Str → Option Value} {nw : List (Addr × Obj)} {h' : Heap}, Led s₁.heap s₁.heap.objs.size h' m' nw → h'.IsList l (cs.map vint).toArray := fun X => by
    obtain ⟨o, ho, hc, n, hd⟩ := hL
    exact ⟨o, X.fr.keep _ _ ho, hc, n, hd⟩
  replace X2 : Led s₁.heap s₁.heap.objs.size ({ s₁ with heap := h₁, toks := tk₁ } : Shared).heap m₁ [(s₁.heap.objs.size + 1, oc)] := X2
  generalize ({ s₁ with heap := h₁, toks := tk₁ } : Shared) = s at X2 hQQ ⊢
  -- numbers
  refine Wp.seqH (fun kK nk xk => Wp.assign rfl (Wp.sub (Wp.bin ?_)))
  refine Wp.comp (cl := []) rfl rfl (by decide +kernel) (by decide +kernel) rfl (fun _ => rfl) X2 ?_
  refine Wp.sub (Wp.nL rfl rfl rfl X2 hm1 ?_)
  refine Wp.eSlice (Wp.part0 (Wp.part1 (Wp.cInt (Wp.part0 ⟨_, _, _, _, X2, fun sa h3 X3 => ?_⟩))))
  refine Wp.tSliceH (zs := (cs.take 4).map vint) (by with_unfolding_all rfl) X3 (hLl X3) mi0 .none (.int 4 _) .none (by decide) (by simp; omega) ?_ (fun d h4 X4 => ?_)
  · have := slicePick_upto' (cs.map vint).toArray 4
    rw [show ((4 : Nat) : Int) = 4 from rfl] at this
    rw [this]; simp
  refine Wp.itLs (its := ((cs.take 4).map vint).toArray) (n := 0) X4 mi0 (fun I h5 ent hI X5 => ?_)
  replace X5 := X5.sub (n' := ent ++ ((d, IL (cs.take 4) 0) :: [(s₁.heap.objs.size + 1, oc)])) (List.Sublist.append_left (.cons_cons _ (.cons _ (List.Sublist.refl _))) _)
  clear X3
  refine Wp.CompAsk.mk (its := ent) (fun j ys nw => ∃ bs : List (Int × Tok), ys = bs.map vint ∧ bs.map (·.1) = (((cs.take 4).map (·.1)).take j).map (fun n : Int => n.fmod 1000000) ∧ nw = (d, IL (cs.take 4) 0) :: [(s₁.heap.objs.size + 1, oc)]) (itList (hH _) I d ((cs.take 4).map vint).toArray) X5 hI ⟨[], rfl, rfl, rfl⟩ ?_ (by simp; omega) (fun _ _ _ h => h.2) ?_ ?_
  · rintro _ _ _ ⟨_, _, _, rfl⟩
    exact srcL mi0
  · clear X2 X4 X5 hI
    rintro j ys Ca Da oL' K1 K2 g1 g2 v its₁ news₁ h₁' tk₁' mC hj _ ⟨hat, _⟩ ⟨oJ, rfl, cJ, dJ⟩ hJ hmC KL X6
    revert hmC KL X6
    refine ex1a3 hJ ?_
    clear hJ
    rintro bs rfl hbs rfl hmC KL X6
    obtain ⟨y, hy, rfl⟩ : ∃ y, (cs.take 4)[j]? = some y ∧ v = vint y := by
      rw [List.getElem?_toArray, List.getElem?_map] at hat
      obtain ⟨y, h1, h2⟩ := Option.map_eq_some_iff.mp hat
      exact ⟨y, h1, h2.symm⟩
    refine Wp.test0 ?_
    refine Wp.bin (Wp.callN (Wp.nB (by decide) rfl rfl rfl rfl rfl X6 KX T (by k_is) PyProof.Rows.Boot.«int» ?_))
    refine Wp.withT rfl rfl (Wp.arg rfl (Wp.nL rfl rfl rfl X6 hmC (Wp.args (Wp.intI ?_))))
    refine Wp.bin (Wp.cInt (Wp.cInt (Wp.pow10 ?_)))
    refine Wp.modI (c := y.1.fmod 1000000) (by decide) rfl ?_
    refine g1 _ _ _ _ [(I, oJ)] _ ⟨oJ, rfl, cJ, dJ⟩ X6 ⟨bs ++ [(y.1.fmod 1000000, _)], by rw [List.map_append]; rfl, ?_, rfl⟩
    have htake : ((cs.take 4).map (·.1)).take (j + 1) = ((cs.take 4).map (·.1)).take j ++ [y.1] := by
      rw [List.take_add_one, List.getElem?_map, hy]; rfl
    rw [htake, List.map_append, hbs, List.map_append]; rfl
  rintro b1 ys news₁ h6 tk6 hJ X6
  revert X6
  refine ex1a3 hJ ?_
  clear hJ
  rintro bs rfl hbs rfl X6
  clear X2 X4 X5 hI
  rw [List.take_of_length_le (by simp)] at hbs
  have hbl : bs.length ≤ 4 := by have := congrArg List.length hbs; simp at this; omega
  refine Wp.eList (Wp.arg rfl (Wp.cInt (Wp.arg rfl (Wp.cInt (Wp.arg rfl (Wp.cInt (Wp.arg rfl (Wp.cInt (Wp.args ?_)))))))))
  refine Wp.nwList X6 (by simp) (fun b2 h7 X7 => ?_)
  refine Wp.addL X7 mi1 mi0 (by simp; omega) (fun b3 h8 X8 => ?_)
  obtain ⟨c3, X8, hc3⟩ : ∃ c3 : List (Int × Tok), Led s₁.heap s₁.heap.objs.size h8 m₁ ((b3, IL c3 0) :: [(s₁.heap.objs.size + 1, oc)]) ∧ c3.map (·.1) = ((cs.map (·.1)).take 4).map (fun n : Int => n.fmod 1000000) ++ [1, 1, 0, 2] :=
    ⟨bs ++ [(1, _), (1, _), (0, _), (2, _)], (by
      have X9 := X8.sub (.cons_cons _ (.cons _ (.cons _ (.cons _ (List.Sublist.refl _)))))
      show Led _ _ _ _ ((b3, listOf ((bs ++ [((1 : Int), _), (1, _), (0, _), (2, _)]).map vint).toArray 0) :: _)
      rw [List.map_append]; exact X9), by rw [List.map_append, hbs, List.map_take]; rfl⟩
  clear X6 X7
  have hc3l := len_of hc3
  refine Wp.eSlice (Wp.part0 (Wp.part1 (Wp.cInt (Wp.part0 ⟨_, _, _, _, X8, fun sb h9 X9 => ?_⟩))))
  refine Wp.tSlice (zs := (c3.take 4).map vint) (by with_unfolding_all rfl) X9 mi1 mi0 .none (.int 4 _) .none (by decide) (by simp; omega) ?_ (fun b4 h10 X10 => ?_)
  · have := slicePick_upto' (c3.map vint).toArray 4
    rw [show ((4 : Nat) : Int) = 4 from rfl] at this
    rw [this]; simp
  first | refine nk _ ?_ | refine ni _ ?_ | refine nt _ ?_ | (try dsimp only)
  have hnum := nums_of hc3
  generalize c3.take 4 = c4 at X10 hnum
  replace X10 := X10.sub (n' := (b4, IL c4 0) :: [(s₁.heap.objs.size + 1, oc)]) (.cons_cons _ (.cons _ (.cons _ (List.Sublist.refl _))))
  clear X8 X9 hc3 hc3l hbs hbl
  refine Wp.sC (c := s₁.heap.objs.size + 1) (g := fun o' => (b4, IL c4 0) :: [(s₁.heap.objs.size + 1, o')]) rfl rfl rfl X10 (fun o' => .tail .head) dc (fun h11 on dn X11 => ?_)
  first | refine nk _ ?_ | refine ni _ ?_ | refine nt _ ?_ | (try dsimp only)
  clear X10 dc
  have hc4 : c4.length = 4 := by have := congrArg List.length hnum; rw [List.length_map, nums_len] at this; exact this
  -- ups
  refine Wp.seqH (fun kK nk xk => Wp.assign rfl (Wp.bin (Wp.eList (Wp.arg rfl (Wp.cInt (Wp.args ?_))))))
  refine Wp.nwList X11 (by simp) (fun u1 h12 X12 => ?_)
  generalize hz0 : [Value.int 0 _] = z0 at X12
  refine Wp.comp (cl := [("numbers", s₁.heap.objs.size + 1)]) rfl rfl (by decide +kernel) (by decide +kernel) rfl (fun _ => rfl) X12 ?_
  refine Wp.callN (Wp.nB (by decide) rfl rfl rfl rfl rfl X12 KX T (by k_is) PyProof.Rows.Boot.«range» ?_)
  refine Wp.withT rfl rfl (Wp.arg rfl (Wp.cInt (Wp.args ?_)))
  refine Wp.range1 X12 (fun r h13 t13 v13 tk13 X13 => ?_)
  refine Wp.itRg (k := 4) X13 (.head _) (by simp) (by decide) (by decide) (fun I h14 its hI X14 => ?_)
  replace X14 := X14.sub (n' := its ++ ((u1, listOf z0.toArray 0) :: (b4, IL c4 0) :: [(s₁.heap.objs.size + 1, on)])) (List.Sublist.append_left (.cons _ (List.Sublist.refl _)) _)
  refine Wp.CompAsk.mk (its := its) (fun j ys nw => ∃ bs : List (Int × Tok), ys = bs.map vint ∧ bs.map (·.1) = upsI (cs.map (·.1)) j ∧ nw = (u1, listOf z0.toArray 0) :: (b4, IL c4 0) :: [(s₁.heap.objs.size + 1, on)]) (itRange (hH _) I 0 4) X14 hI ⟨[], rfl, rfl, rfl⟩ (fun _ _ _ _ => trivial) (by omega) (fun _ _ _ h => h.2) ?_ ?_
  · clear X11 X12 X13 X14 hI
    rintro j ys Ca Da oL' K1 K2 g1 g2 v its₁ news₁ h₁' tk₁' mC hj _ ⟨⟨tw, rfl⟩, _⟩ hst hJ hmC KL X15
    revert hmC KL X15
    refine ex1a3 hJ ?_
    clear hJ
    rintro bs rfl hbs rfl hmC KL X15
    unfold RgSt at hst
    subst hst
    have e0 : (0 : Int) + (j : Int) = (j : Int) := zi j
    rw [e0] at hmC
    obtain ⟨q, hq, hq'⟩ := at_fst (d := (0 : Int)) hnum (k := j) (by omega)
    refine Wp.test0 ?_
    refine Wp.bin (Wp.sub (Wp.nC rfl rfl rfl (c := s₁.heap.objs.size + 1) rfl X15 (.tail _ (.tail _ (.tail _ (.tail _ (.tail _ (.head _)))))) dn ?_))
    refine Wp.nL rfl rfl rfl X15 hmC ?_
    refine Wp.item (v := vint q) (by with_unfolding_all rfl) X15 (.tail _ (.tail _ (.tail _ (.tail _ (.head _))))) (by omega) (by omega) (by simp [hq]) ?_
    refine Wp.bin (Wp.nL rfl rfl rfl X15 hmC (Wp.cInt (Wp.addI ?_)))
    refine Wp.modI (c := ((nums (cs.map (·.1))).getD j 0).fmod ((j : Int) + 2)) (by omega) (by rw [hq']) ?_
    refine g1 _ _ _ _ _ _ rfl X15 ⟨bs ++ [(((nums (cs.map (·.1))).getD j 0).fmod ((j : Int) + 2), _)], by rw [List.map_append]; rfl, ?_, rfl⟩
    unfold upsI at hbs ⊢
    rw [List.map_append, hbs, List.range_succ, List.map_append]; rfl
  rintro u2 ys news₁ h15 tk15 hJ X15
  revert X15
  refine ex1a3 hJ ?_
  clear hJ
  rintro bs rfl hbs rfl X15
  clear X11 X12 X13 X14 hI
  have hbl : bs.length = 4 := by have := congrArg List.length hbs; rw [List.length_map] at this; unfold upsI at this; simpa using this
  subst hz0
  refine Wp.addL X15 mi1 mi0 (by simp; omega) (fun uA h16 X16 => ?_)
  refine Wp.sL rfl rfl X16 (fun h17 X17 => ?_)
  first | refine nk _ ?_ | refine ni _ ?_ | refine nt _ ?_ | (try dsimp only)
  obtain ⟨m₂, us, X17, hus, hm2⟩ : ∃ (m₂ : Str → Option Value) (us : List (Int × Tok)), Led s₁.heap s₁.heap.objs.size h17 m₂ ((uA, IL us 0) :: (b4, IL c4 0) :: [(s₁.heap.objs.size + 1, on)]) ∧ us.map (·.1) = (upsN (cs.map (·.1))).map Int.ofNat ∧ m₂ "ups" = some (.ref uA) :=
    ⟨_, (0, _) :: bs, X17.sub (.cons_cons _ (.cons _ (.cons _ (List.Sublist.refl _)))), by rw [List.map_cons, hbs, ← ups_cast], if_pos rfl⟩
  clear X15 X16 hbs hbl
  -- turn
  refine Wp.seqH (fun kK nk xk => Wp.assign rfl (Wp.bin (Wp.callN (Wp.nB (by decide) rfl rfl rfl rfl rfl X17 KX T (by k_is) PyProof.Rows.Boot.«sum» ?_))))
  refine Wp.withB rfl rfl (Wp.arg rfl (Wp.nC rfl rfl rfl (c := s₁.heap.objs.size + 1) rfl X17 mi2 dn (Wp.args ?_)))
  refine Wp.sumI (hH _) X17 mi1 (fun h18 t18 tk18 X18 => ?_)
  refine Wp.cInt (Wp.modI (c := ((turnN (cs.map (·.1)) : Nat) : Int)) (by decide) ?_ ?_)
  · rw [hnum]
    have := fmod_lt (nums (cs.map (·.1))).sum 7 (by omega)
    exact (Int.toNat_of_nonneg this.1).symm
  refine Wp.sL rfl rfl X18 (fun h19 X19 => ?_)
  first | refine nk _ ?_ | refine ni _ ?_ | refine nt _ ?_ | (try dsimp only)
  obtain ⟨m₃, X19, hm2, hm3⟩ : ∃ m₃ : Str → Option Value, Led s₁.heap s₁.heap.objs.size h19 m₃ [(uA, IL us 0)] ∧ m₃ "ups" = some (.ref uA) ∧ m₃ "turn" = some (.int ((turnN (cs.map (·.1)) : Nat) : Int) _) :=
    ⟨_, X19.sub (.cons_cons _ (.cons _ (.cons _ (List.Sublist.refl _)))), (if_neg (by decide)).trans hm2, if_pos rfl⟩
  clear X17 X18 hnum hc4 dn
  have hu := ups_all (cs.map (·.1))
  have ht := turn_lt (cs.map (·.1))
  generalize upsN (cs.map (·.1)) = ups at hus hu
  generalize turnN (cs.map (·.1)) = t at hm3 ht
  have T5 := treeOk hu
  refine Wp.seq (Wp.ret (Wp.cmp rfl ?_))
  refine Wp.callN (Wp.nG rfl rfl rfl rfl X19 KX T (by k_is) ?_)
  refine Wp.withD KX (by k_is) rfl rfl (Wp.arg rfl ?_)
  refine Wp.callN (Wp.nG rfl rfl rfl rfl X19 KX T (by k_is) ?_)
  refine Wp.withD KX (by k_is) rfl rfl (Wp.arg rfl (Wp.nL rfl rfl rfl X19 hm2 (Wp.arg rfl (Wp.nL rfl rfl rfl X19 hm3 (Wp.args ⟨X19.fr.keep, ?_⟩)))))
  refine Wp.toks (Q := fun v s' => ∃ a h' ts n tk, v = .ref a ∧ s' = { s with heap := h', toks := tk } ∧ ts.map (·.1) = (joinedP ups t 5).drop 1 ∧ Led s₁.heap s₁.heap.objs.size h' m₃ [(a, SL ts n), (uA, IL us 0)])
    (joined_call X19 KX T (Nat.lt_of_le_of_lt (Nat.add_le_add_left (by decide) _) (hDp _)) (hH _) mi0 hus T5.len T5.le ht (fun a h' ts n tk e X => ⟨a, h', ts, n, tk, rfl, rfl, e, X⟩)) (fun v s' htk hq => ?_)
  obtain ⟨a, h20, ts, n, tk20, rfl, rfl, hts, X20⟩ := hq
  have htk0 : 0 < tk20 := Nat.lt_of_lt_of_le (Nat.succ_pos _) htk
  clear htk X19
  have htsP : ts.map (·.1) = P5 ups t := hts.trans (joined_P5 T5 ht)
  refine Wp.args ⟨X20.fr.keep, ?_⟩
  refine played_call (game_ok htsP hu ht) (rest := [(a, SL ts n), (uA, IL us 0)]) (frs := []) (outer := []) (qA := a) (ps := ts) (pn := n) (by simpa using X20) KX T (hA0 _) rfl rfl trivial (hH _) (Nat.lt_of_le_of_lt (Nat.add_le_add_left (by decide) _) (hDp _)) (Nat.lt_of_le_of_lt (Nat.add_le_add_left (by decide) _) (hUn _)) htk0 mi0 (whole_ok htsP hu) (fun k q hq => gameB_at htsP T5 ht hq) (fun y hy => ?_) (fun wA h21 tk21 oW kvs frs' lo hW hG hC hin SU Fs X21 => ?_)
  · rw [htsP] at hy
    obtain ⟨i, hi, rfl⟩ := P5_mem.mp hy
    have P := pathOk ht (T5.inAll i hi)
    exact ⟨P.st, P.stM, P.len, P.lenM⟩
  cases frs' with
  | cons z r => exact SU.elim
  | nil =>
    replace X21 : Led s₁.heap s₁.heap.objs.size h21 m₃ [(wA, oW), (a, SL ts n), (uA, IL us 0)] := by simpa using X21
    refine Wp.callN (Wp.nG rfl rfl rfl rfl X21 KX T (by k_is) ?_)
    refine Wp.withD KX (by k_is) rfl rfl (Wp.arg rfl (Wp.nL rfl rfl rfl X21 hm2 (Wp.arg rfl (Wp.nL rfl rfl rfl X21 hm3 (Wp.args ⟨X21.fr.keep, ?_⟩)))))
    refine due_call X21 KX T (Nat.lt_of_le_of_lt (Nat.add_le_add_left (by decide) _) (hDp _)) (hH _) (Nat.lt_of_le_of_lt (Nat.add_le_add_left (by decide) _) (hUn _)) mi2 hus T5.len T5.le ht (fun dA h22 oD kvs' tk22 lo' hD' hInv X22 => ?_)
    have same := dicts_same htsP hu ht hG hC hin (keysNodup_of_isDictOf hW) hInv (keysNodup_of_isDictOf hD')
    refine Wp.eqD X22 mi1 mi0 hW hD' lo lo' same.1 (Nat.lt_of_le_of_lt (Nat.le_add_right _ _) (hUn _)) same.2 ?_
    rw [hQQ]
    exact ⟨rfl, _, _, _, _, rfl, X22⟩
end Mine
end

set_option maxRecDepth 100000 in
set_option maxHeartbeats 8000000 in
theorem PySem.Challenge.cw_pd0045_01_holds : PySem.Challenge.rw_pd0045_01.Holds := by
  exact Mine.lw
