import PyProof.Rows.All
import Wide.All
import OpenK.AllK
import Wide.FinOn
import Flt.Ops
import PySem.Challenge.RW_tp0008_01
set_option Elab.async false
set_option linter.unusedVariables false
set_option linter.unusedSimpArgs false
section
open PySem PySem.W PyProof.Rows
namespace Mine
set_option maxRecDepth 100000 in
set_option maxHeartbeats 8000000 in
open_top hd for PySem.Challenge.rw_tp0008_01
end Mine
end
section
open PySem PySem.Spec PySem.Calls PySem.W PyProof.Rows
set_option maxRecDepth 100000
namespace Mine
theorem of_fin {n : Nat} {P : Int → Prop} (H : ∀ k : Fin n, P (k.val : Int)) {z : Int} (h0 : 0 ≤ z) (h : z < (n : Int)) : P z := by
  obtain ⟨m, rfl⟩ := Int.eq_ofNat_of_zero_le h0
  exact H ⟨m, Int.ofNat_lt.mp h⟩
theorem abs_goal {G : Prop} (h : ∀ P : Prop, (G → P) → P) : G := h G id

/-- a contract: the def at f, called with args where Pre holds, hands back r, its made objects tl, with Out -/
def Con (w : World) (f : Addr) (n : Nat) (args : List Value) (Pre : Heap → Prop) (Out : List (Addr × Obj) → Value → Prop) : Prop :=
  ∀ (loose : List Str) (mean : ExcName → Option Value) (mg mb : Str → Option Value) (dp un : Nat) (gd : Option (List Code)) (cn : Str) (cs : Scope) (a : Addr) (ccd : Value) (cl : List (Str × Addr)) (outer : List Env) (A₀ : Around) (base h₀ : Heap) (L : Addr) (m : Str → Option Value) (s : Shared) (Q E : Value → Shared → Prop),
    Below A₀ base outer h₀ → Fr h₀ L s.heap m → (Mine.hd.heap_39 w.params).In h₀ → Top Mine.hd.view_39 loose mean mg mb h₀ → cs.kind = .function → dp + n < recursionLimit → un + 8 * n < cLine → Pre s.heap →
    (∀ (r : Value) (tl : List (Addr × Obj)) (h' : Heap) (tk' : Nat), (∀ b o, s.heap.get? b = some o → h'.get? b = some o) → (∀ p ∈ tl, h'.get? p.1 = some p.2 ∧ s.heap.get? p.1 = none) → Out tl r → Q r { s with heap := h', toks := tk' }) →
    wpAny (model PySem.Challenge.rw_tp0008_01.row.prog w) (ktrTop dp un gd cn cs L a ccd cl outer) (call (.ref f) args) Q E s

/-- a contract, the state taken apart -/
theorem Con.of {w : World} {f : Addr} {n : Nat} {args : List Value} {Pre : Heap → Prop} {Out : List (Addr × Obj) → Value → Prop}
    (H : ∀ (loose : List Str) (mean : ExcName → Option Value) (mg mb : Str → Option Value) (dp un : Nat) (gd : Option (List Code)) (cn : Str) (cs : Scope) (a : Addr) (ccd : Value) (cl : List (Str × Addr)) (outer : List Env) (A₀ : Around) (base h₀ : Heap) (L : Addr) (m : Str → Option Value) (sh : Heap) (sg : Array GenState) (sd : Drawn) (sk : Nat) (so : OsState) (Q E : Value → Shared → Prop),
      Below A₀ base outer h₀ → Fr h₀ L sh m → (Mine.hd.heap_39 w.params).In h₀ → Top Mine.hd.view_39 loose mean mg mb h₀ → cs.kind = .function → dp + n < recursionLimit → un + 8 * n < cLine → Pre sh →
      (∀ (r : Value) (tl : List (Addr × Obj)) (h' : Heap) (tk' : Nat), (∀ b o, sh.get? b = some o → h'.get? b = some o) → (∀ p ∈ tl, h'.get? p.1 = some p.2 ∧ sh.get? p.1 = none) → Out tl r → Q r ⟨h', sg, sd, tk', so⟩) →
      wpAny (model PySem.Challenge.rw_tp0008_01.row.prog w) (ktrTop dp un gd cn cs L a ccd cl outer) (call (.ref f) args) Q E ⟨sh, sg, sd, sk, so⟩) : Con w f n args Pre Out :=
  fun loose mean mg mb dp un gd cn cs a ccd cl outer A₀ base h₀ L m ⟨sh, sg, sd, sk, so⟩ Q E => H loose mean mg mb dp un gd cn cs a ccd cl outer A₀ base h₀ L m sh sg sd sk so Q E

theorem Con.use {w : World} {f : Addr} {n : Nat} {args : List Value} {Pre : Heap → Prop} {Out : List (Addr × Obj) → Value → Prop} {loose : List Str} {mean : ExcName → Option Value} {mg mb : Str → Option Value} {dp un : Nat} {gd : Option (List Code)} {cn : Str} {cs : Scope} {a : Addr} {ccd : Value} {cl : List (Str × Addr)} {outer : List Env} {A₀ : Around} {base h₀ : Heap} {L : Addr} {m : Str → Option Value} {s : Shared} {Q E : Value → Shared → Prop} {news : List (Addr × Obj)}
    (C : Con w f n args Pre Out) (B : Below A₀ base outer h₀) (F : Fr h₀ L s.heap m) (X : (Mine.hd.heap_39 w.params).In h₀) (N : News h₀ L s.heap news) (T : Top Mine.hd.view_39 loose mean mg mb h₀) (hk : cs.kind = .function) (hd : dp + n < recursionLimit) (hu : un + 8 * n < cLine) (hp : Pre s.heap)
    (ret : ∀ (r : Value) (tl : List (Addr × Obj)) (h' : Heap) (tk' : Nat), Fr h₀ L h' m → News h₀ L h' (tl ++ news) → (∀ p ∈ tl, ∀ q ∈ news, p.1 ≠ q.1) → Out tl r → Q r { s with heap := h', toks := tk' }) :
    wpAny (model PySem.Challenge.rw_tp0008_01.row.prog w) (ktrTop dp un gd cn cs L a ccd cl outer) (call (.ref f) args) Q E s := by
  refine C loose mean mg mb dp un gd cn cs a ccd cl outer A₀ base h₀ L m s Q E B F X T hk hd hu hp fun r tl h' tk' hk' ht ho => ?_
  refine ret r tl h' tk' ⟨F.ns.at' fun o e => hk' _ o e, fun b o e => hk' b o (F.keep b o e), F.above⟩ (fun p hp => ?_) (fun p hp q hq e => ?_) ho
  · rcases List.mem_append.mp hp with hp | hp
    · refine ⟨(ht p hp).1, fun e => ?_, ?_⟩
      · obtain ⟨oL, _, _, hL, _⟩ := F.ns
        rw [← e, (ht p hp).2] at hL; cases hL
      · cases q : h₀.get? p.1 with
        | none => rfl
        | some o => have := (ht p hp).2; rw [F.keep _ _ q] at this; cases this
    · exact ⟨hk' _ _ (N p hp).1, (N p hp).2⟩
  · have := (ht p hp).2
    rw [e, (N q hq).1] at this; cases this

section
variable {prog : Program} {w : World} {A₀ A : Around} {s : Shared} {base h₀ : Heap} {outer : List Env} {L : Addr} {m : Str → Option Value} {env : Env} {K : Frag} {p : Program} {loose : List Str} {mean : ExcName → Option Value} {mg mb : Str → Option Value}
  {R : Result → Shared → Prop} {name qual : Str} {params : Arguments} {body : List Stmt} {scope : Scope} {dV kV doc pm cdv ct oc : Value} {an od : Option Addr} {osl : Array (Option Value)} {f : Addr} {args : Args} {binds : List (Str × Value)}
/-- entering a def: all that stands is kept as it stands -/
theorem callF (B : Below A₀ base outer h₀) (F : Fr h₀ L s.heap m) (X₀ : K.In h₀) (T : Top p loose mean mg mb h₀) (hA : A.frames = some (env :: outer)) (hf : env.frame = some L) (hke : env.scope.kind = .function)
    (ho : K.lookup f = some ⟨oc, od, .func (fnOf name qual params body scope dV kV doc pm an cdv ct), osl⟩) (hcd : codeIn K cdv qual = true) (hroom : A.depth < recursionLimit)
    (hbind : BindsTo s (fnOf name qual params body scope dV kV doc pm an cdv ct) args binds) (hloc : ∀ y ∈ binds, scope.names.lookup y.1 = some .local)
    (h : ∀ L' h₁, Fr s.heap L' h₁ (fun y => binds.reverse.lookup y) → News s.heap L' h₁ [] → Below A base (env :: outer) s.heap → K.In s.heap → Top p loose mean mg mb s.heap →
      wpAny (model prog w) (A.deeper (envOf qual scope L' f cdv)) (execs body (envOf qual scope L' f cdv))
        (fun fl s' => LeaveK h₀ L m s.heap R (match fl with | .ret v => v | _ => .none) s')
        (fun e s' => wpAny (model prog w) (A.deeper (envOf qual scope L' f cdv)) (leaving (envOf qual scope L' f cdv) e) (fun _ s'' => R (.error e) s'') (fun e' s'' => R (.error e') s'') s')
        { s with heap := h₁, toks := s.toks + binds.length })
    (hco : scope.isCoroutine = false) (hgen : scope.isGenerator = false) (hk : scope.kind = .function)
    (hcell : ∀ x ∈ scope.names, x.2 ≠ .cell) : codeAny (model prog w) A (.call (.ref f) args) R s := by
  have N : News h₀ L s.heap [] := News.nil
  obtain ⟨FG, BG, st, lv⟩ := groundX (R := R) B F N hA hf hke
  refine codeAny_call_def (fd := fnOf name qual params body scope dV kV doc pm an cdv ct) (body := body) (binds := binds) hroom ((X₀.keeps F.keep) _ _ ho) rfl (T.nolimit.keeps F.keep) (codeRec_of (X₀.keeps F.keep) hcd) rfl hbind hcell hloc (fun h₁ hns hk₁ => ?_) hco hgen hk
  exact wpAny_mono (h s.heap.objs.size h₁ ⟨hns, hk₁, Nat.le_refl _⟩ News.nil BG (X₀.keeps st) (T.keeps st)) (fun fl s' hl => lv _ _ hl) fun _ _ y => y

theorem callFC (B : Below A₀ base outer h₀) (F : Fr h₀ L s.heap m) (X₀ : K.In h₀) (T : Top p loose mean mg mb h₀) (hA : A.frames = some (env :: outer)) (hf : env.frame = some L) (hke : env.scope.kind = .function)
    (ho : K.lookup f = some ⟨oc, od, .func (fnOf name qual params body scope dV kV doc pm an cdv ct), osl⟩) (hcd : codeIn K cdv qual = true) (hroom : A.depth < recursionLimit)
    (hbind : BindsTo s (fnOf name qual params body scope dV kV doc pm an cdv ct) args binds) (hkind : (binds.all fun y => scope.names.lookup y.1 == some .local || scope.names.lookup y.1 == some .cell) = true)
    (hnd : ((cellsFrom 0 scope.names []).map (·.1)).Nodup)
    (h : ∀ L' h₁ tk cells, Fr s.heap L' h₁ (bindL (envOfC qual scope L' f cdv).kindOf binds fun _ => none) → News s.heap L' h₁ cells →
      CellsAre (bindC (envOfC qual scope L' f cdv).kindOf binds fun _ => none) (cellsFrom (L' + 1) scope.names []) cells → Below A base (env :: outer) s.heap → K.In s.heap → Top p loose mean mg mb s.heap →
      wpAny (model prog w) (A.deeper (envOfC qual scope L' f cdv)) (execs body (envOfC qual scope L' f cdv))
        (fun fl s' => LeaveK h₀ L m s.heap R (match fl with | .ret v => v | _ => .none) s')
        (fun e s' => wpAny (model prog w) (A.deeper (envOfC qual scope L' f cdv)) (leaving (envOfC qual scope L' f cdv) e) (fun _ s'' => R (.error e) s'') (fun e' s'' => R (.error e') s'') s')
        { s with heap := h₁, toks := tk })
    (hco : scope.isCoroutine = false) (hgen : scope.isGenerator = false) (hk : scope.kind = .function) : codeAny (model prog w) A (.call (.ref f) args) R s := by
  have N : News h₀ L s.heap [] := News.nil
  obtain ⟨FG, BG, st, lv⟩ := groundX (R := R) B F N hA hf hke
  refine codeAny_call_function hroom ((X₀.keeps F.keep) _ _ ho) rfl hco hgen rfl (codeRec_of (X₀.keeps F.keep) hcd) (hbind _ _ _ _ ?_)
  refine wpAny_newFunctionEnv_cells hk (kindsX hkind _) fun env' he s' x => ?_
  subst he
  refine ⟨(T.nolimit.keeps F.keep).keeps x.toInCall.keep, codeAny_func ?_⟩
  obtain ⟨h₁, tk, rfl, _⟩ := x.done
  have hk₁ := x.toInCall.keep
  obtain ⟨cells, NC, Y⟩ := Cl.news (h₀ := s.heap) (Nat.le_refl _) fun n c hm => ⟨x.cell n c (lookup_of_mem_nodup (cellsFrom_names scope.names 0 (s.heap.objs.size + 1) [] [] rfl ▸ hnd) hm), x.above n c hm⟩
  exact wpAny_mono (h s.heap.objs.size h₁ tk cells ⟨x.toInCall.ns, hk₁, Nat.le_refl _⟩ NC Y BG (X₀.keeps st) (T.keeps st)) (fun fl s' hl => lv _ _ hl) fun _ _ y => y
end

theorem con_end {h₀ : Heap} {L L' : Addr} {m m' : Str → Option Value} {s : Shared} {Q E : Value → Shared → Prop} {Out : List (Addr × Obj) → Value → Prop} {v : Value} {tl : List (Addr × Obj)} {h' : Heap} {tk' : Nat}
    (hret : ∀ (r : Value) (tl : List (Addr × Obj)) (h' : Heap) (tk' : Nat), (∀ b o, s.heap.get? b = some o → h'.get? b = some o) → (∀ p ∈ tl, h'.get? p.1 = some p.2 ∧ s.heap.get? p.1 = none) → Out tl r → Q r { s with heap := h', toks := tk' })
    (F' : Fr s.heap L' h' m') (N' : News s.heap L' h' tl) (ho : Out tl v) :
    LeaveK h₀ L m s.heap (fun r s' => match r with | .ok (.ret v) => Q v s' | .ok _ => False | .error e => E e s') v { s with heap := h', toks := tk' } :=
  leaveK_ F' N' fun _ _ => hret v tl h' tk' F'.keep (fun p hp => ⟨(N' p hp).1, (N' p hp).2.2⟩) ho

/-- a list that stands: its first n items are f -/
def Idx (h : Heap) (a : Addr) (n : Nat) (f : Nat → Value) : Prop := ∃ vs : List Value, h.IsList a vs.toArray ∧ ∀ i, i < n → vs[i]? = some (f i)
theorem Idx.keeps {h h' : Heap} {a : Addr} {n : Nat} {f : Nat → Value} (x : Idx h a n f) (k : ∀ b o, h.get? b = some o → h'.get? b = some o) : Idx h' a n f :=
  let ⟨vs, ⟨o, ho, r⟩, hv⟩ := x; ⟨vs, ⟨o, k _ _ ho, r⟩, hv⟩
def Rows (h : Heap) (n k : Nat) (rows : Nat → Addr) (M : Nat → Nat → Int) (tk : Nat → Nat → Tok) : Prop := ∀ i, i < n → Idx h (rows i) k fun j => .int (M i j) (tk i j)
section
variable {prog : Program} {w : World} {A : Around} {E : Value → Shared → Prop} {s : Shared} {h₀ : Heap} {L : Addr} {m : Str → Option Value} {value slice : Expr} {a : Addr} {n : Nat} {f : Nat → Value} {k : Int} {u : Tok} {Q : Value → Shared → Prop}
theorem idx_sub (I : Idx h₀ a n f) (F : Fr h₀ L s.heap m) (h0 : 0 ≤ k) (hk : k < (n : Int)) (hn : n ≤ 1000) (h : Q (f k.toNat) s)
    (hs : subscripted slice false (.ref a) (.int k u) = operate [.ref a, .int k u] (getItem (.ref a) (.int k u)) := by with_unfolding_all rfl) :
    wpAny (model prog w) A (subscriptTail value slice (.ref a) (.int k u)) Q E s := by
  obtain ⟨vs, hl, hv⟩ := I.keeps F.keep
  exact tail_any hl.typeIs slot_list_getitem.lookup (wpAny_getItem_list hl h0 (by omega) (by simpa using hv k.toNat (by omega)) h) hs
theorem row_sub {rows : Nat → Addr} {M : Nat → Nat → Int} {tk : Nat → Nat → Tok} {i n' : Nat} (I : Rows h₀ n' n rows M tk) (F : Fr h₀ L s.heap m) (hi : i < n') (h0 : 0 ≤ k) (hk : k < (n : Int)) (hn : n ≤ 1000) (h : Q (.int (M i k.toNat) (tk i k.toNat)) s)
    (hs : subscripted slice false (.ref (rows i)) (.int k u) = operate [.ref (rows i), .int k u] (getItem (.ref (rows i)) (.int k u)) := by with_unfolding_all rfl) :
    wpAny (model prog w) A (subscriptTail value slice (.ref (rows i)) (.int k u)) Q E s := idx_sub (I i hi) F h0 hk hn h hs
end
end Mine
end
section
open PySem PySem.Spec PySem.Calls PySem.W PyProof.Rows
set_option maxRecDepth 100000
namespace Mine
def IsIt (o : Obj) : Prop := o.cls = .type "list_iterator" ∨ o.cls = .type "range_iterator"
def MEnd (h₀ : Heap) (L : Addr) (J : (Str → Option Value) → List (Addr × Obj) → Prop) (I : Addr) (oI : Obj) (s₁ s₂ : Shared) : Prop :=
  ∃ h' tk m' news' nx, s₂ = { s₁ with heap := h', toks := tk } ∧ Fr h₀ L h' m' ∧ News h₀ L h' news' ∧ (I, oI) ∈ news' ∧ (∀ p ∈ nx, p ∈ news' ∧ p.1 ≠ I) ∧ J m' nx
theorem MEnd.intro {h₀ : Heap} {L : Addr} {J : (Str → Option Value) → List (Addr × Obj) → Prop} {I : Addr} {oI : Obj} {s₁ : Shared} {h' : Heap} {tk : Nat} {m' : Str → Option Value} {news' nx : List (Addr × Obj)}
    (F : Fr h₀ L h' m') (N : News h₀ L h' news') (hI : (I, oI) ∈ news') (hn : ∀ p ∈ nx, p ∈ news' ∧ p.1 ≠ I) (hj : J m' nx) : MEnd h₀ L J I oI s₁ { s₁ with heap := h', toks := tk } :=
  ⟨h', tk, m', news', nx, rfl, F, N, hI, hn, hj⟩
def MPost (h₀ : Heap) (L : Addr) (J : (Str → Option Value) → List (Addr × Obj) → Prop) (I : Addr) (oI : Obj) (s₁ : Shared) (Q : Flow → Shared → Prop) (f : Flow) (s₂ : Shared) : Prop :=
  match f with
  | .ret v => Q (.ret v) s₂
  | .brk => Q .next s₂
  | _ => MEnd h₀ L J I oI s₁ s₂

theorem MPost.next {h₀ : Heap} {L : Addr} {J : (Str → Option Value) → List (Addr × Obj) → Prop} {I : Addr} {oI : Obj} {s₁ : Shared} {Q : Flow → Shared → Prop} {h' : Heap} {tk : Nat} {m' : Str → Option Value} {news' : List (Addr × Obj)} (nx : List (Addr × Obj))
    (F : Fr h₀ L h' m') (N : News h₀ L h' news') (hI : (I, oI) ∈ news') (hn : ∀ p ∈ nx, p ∈ news' ∧ p.1 ≠ I) (hj : J m' nx) : MPost h₀ L J I oI s₁ Q .next { s₁ with heap := h', toks := tk } :=
  MEnd.intro F N hI hn hj

theorem MEnd.intro5 {h₀ : Heap} {L : Addr} {J : (Str → Option Value) → List (Addr × Obj) → Prop} {I : Addr} {oI : Obj} {s₁ : Shared} {h' : Heap} {tk : Nat} {m' : Str → Option Value} {d c1 c2 c3 : Addr × Obj} {r : List (Addr × Obj)}
    (F : Fr h₀ L h' m') (N : News h₀ L h' (d :: (I, oI) :: c1 :: c2 :: c3 :: r)) (hd : I < d.1) (h1 : c1.1 ≠ I) (h2 : c2.1 ≠ I) (h3 : c3.1 ≠ I) (hr : ∀ p ∈ r, p.1 ≠ I) (hj : J m' (c1 :: c2 :: c3 :: d :: r)) : MEnd h₀ L J I oI s₁ { s₁ with heap := h', toks := tk } :=
  MEnd.intro F N (.tail _ (.head _)) (fun p hp => by
    simp only [List.mem_cons] at hp ⊢
    rcases hp with rfl | rfl | rfl | rfl | hp
    · exact ⟨by simp, h1⟩
    · exact ⟨by simp, h2⟩
    · exact ⟨by simp, h3⟩
    · exact ⟨by simp, Nat.ne_of_gt hd⟩
    · exact ⟨by simp [hp], hr p hp⟩) hj
theorem MPost.next3 {h₀ : Heap} {L : Addr} {J : (Str → Option Value) → List (Addr × Obj) → Prop} {I : Addr} {oI : Obj} {s₁ : Shared} {Q : Flow → Shared → Prop} {h' : Heap} {tk : Nat} {m' : Str → Option Value} {a c : Addr × Obj} {r : List (Addr × Obj)}
    (F : Fr h₀ L h' m') (N : News h₀ L h' (a :: (I, oI) :: c :: r)) (hc : c.1 ≠ I) (ha : I < a.1) (hr : ∀ p ∈ r, p.1 ≠ I) (hj : J m' (c :: a :: r)) : MPost h₀ L J I oI s₁ Q .next { s₁ with heap := h', toks := tk } :=
  MEnd.intro F N (.tail _ (.head _)) (fun p hp => by
    rcases List.mem_cons.mp hp with rfl | hp
    · exact ⟨.tail _ (.tail _ (.head _)), hc⟩
    · rcases List.mem_cons.mp hp with rfl | hp
      · exact ⟨.head _, Nat.ne_of_gt ha⟩
      · exact ⟨.tail _ (.tail _ (.tail _ hp)), hr p hp⟩) hj

section
variable {prog : Program} {w : World} {A : Around} {E : Value → Shared → Prop} {s : Shared} {env : Env} {h₀ : Heap} {x : Str} {body : List Stmt} {Q : Flow → Shared → Prop}

theorem turn_step {L I : Addr} {oI : Obj} {J : (Str → Option Value) → List (Addr × Obj) → Prop} {own : List (Addr × Obj)} {s₁ s₂ : Shared}
    (hown : ∀ m nx h, J m nx → News h₀ L h nx → ∀ p ∈ own, p = (I, oI) ∨ p ∈ nx)
    (e : MEnd h₀ L J I oI s₁ s₂) : LoopStepU h₀ L [I] own J s₁ .next s₂ := by
  obtain ⟨h', tk, m', news', nx, e, F', N', hI, hn, hj⟩ := e
  have Nn : News h₀ L h' nx := fun q hq => N' q (hn q hq).1
  refine ⟨rfl, h', tk, m', nx, e, F', fun p hp => ?_, fun p hp hq => (hn p hp).2 (List.mem_singleton.mp hq), hj⟩
  rcases List.mem_append.mp hp with hp | hp
  · rcases hown m' nx h' hj Nn p hp with rfl | hp
    · exact N' _ hI
    · exact N' p (hn p hp).1
  · exact N' p (hn p hp).1

/-- for x in a list that stands below the frame -/
theorem iterB {l : Addr} {vs : List Value} {m₀ : Str → Option Value} {news : List (Addr × Obj)} (J : Nat → (Str → Option Value) → List (Addr × Obj) → Prop)
    (hh : A.handled = none) (hl : h₀.IsList l vs.toArray) (F : Fr h₀ env.locals s.heap m₀) (N : News h₀ env.locals s.heap news) (hj : J 0 m₀ news)
    (turn : ∀ i v m₁ nx h tk I oI, vs[i]? = some v → J i m₁ nx → (∀ p ∈ nx, p.1 ≠ I) → IsIt oI → Fr h₀ env.locals h (fun y => if y = x then some v else m₁ y) → News h₀ env.locals h ((I, oI) :: nx) →
      wpAny (model prog w) A (execs body env) (MPost h₀ env.locals (J (i + 1)) I oI { s with heap := h, toks := tk } Q) E { s with heap := h, toks := tk })
    (done : ∀ m₁ nx h tk, J vs.length m₁ nx → Fr h₀ env.locals h m₁ → News h₀ env.locals h nx → Q .next { s with heap := h, toks := tk }) :
    wpAny (model prog w) A (pyIter (.ref l)) (fun it s₂ => LoopAtV prog w A h₀ env x body Q E it s₂) E s := by
  have hls : s.heap.IsList l vs.toArray := hl.at fun o e => F.keep l o e
  obtain ⟨ol, hol, _⟩ := id hl
  have hlt : l < h₀.objs.size := Heap.lt_size hol
  have hne : l ≠ s.heap.objs.size := Nat.ne_of_lt (Nat.lt_trans (Nat.lt_of_lt_of_le hlt F.above) F.ns.lt)
  refine wpAny_pyIter_list hls ?_
  have W := Walks.list (prog := prog) (w := w) hh s.heap.objs.size l hne vs.toArray
  have hlen : vs.toArray.size = vs.length := by simp
  rw [hlen] at W
  refine ⟨_, _, _, vs.length, _, _, m₀, news, J, rfl, W, ?_, ?_, ?_, ⟨⟨_, Heap.get?_push_size _ rfl, rfl, rfl⟩, hls.at fun o e => Heap.get?_push_of_some _ e⟩, F.push _, (fun p hp => ⟨Heap.get?_push_of_some _ (N p hp).1, (N p hp).2⟩), hj, ?_, ?_⟩
  · intro hm
    rcases List.mem_cons.mp hm with e | hm
    · exact absurd F.ns.lt (e ▸ Nat.lt_irrefl _)
    · exact absurd (Nat.lt_of_lt_of_le hlt F.above) ((List.mem_singleton.mp hm) ▸ Nat.lt_irrefl _)
  · intro b hb
    rw [List.mem_singleton.mp hb]
    exact next_is_new F
  · intro p hp hI
    exact absurd (Heap.lt_size (N p hp).1) ((List.mem_singleton.mp hI) ▸ Nat.lt_irrefl _)
  · rintro i v m₁ nx s₁ own ⟨hh', tk', rfl⟩ hin hP hJ hoff hown hget hfp hst F₁ N₁
    have hI0 : h₀.get? s.heap.objs.size = none := next_is_new F
    obtain ⟨⟨oI, hoI, hcI, _⟩, _⟩ := id hst
    have hIown : (s.heap.objs.size, oI) ∈ own := hfp _ (List.mem_cons.mpr (.inl rfl)) hI0 _ hoI
    have hall : ∀ p ∈ own, p = (s.heap.objs.size, oI) := fun p hp => by
      have hg : hh'.get? p.1 = some p.2 := hget p hp
      rcases List.mem_cons.mp (hown p hp) with h1 | h1
      · rw [h1, hoI] at hg; exact Prod.ext h1 (Option.some.inj hg).symm
      · have h3 := (N₁ p (List.mem_append.mpr (.inl hp))).2.2
        rw [List.mem_singleton.mp h1, hol] at h3; cases h3
    have N₂ : News h₀ env.locals hh' ((s.heap.objs.size, oI) :: nx) := fun p hp => N₁ p ((List.mem_cons.mp hp).elim (fun h => List.mem_append.mpr (.inl (h ▸ hIown))) fun h => List.mem_append.mpr (.inr h))
    refine wpAny_mono (turn i v m₁ nx hh' tk' s.heap.objs.size oI (by simpa using hP) hJ (fun p hp e => hoff p hp (List.mem_singleton.mpr e)) (.inl hcI) F₁ N₂) (fun f s₂ p => ?_) fun _ _ e => e
    have fin : MEnd h₀ env.locals (J (i + 1)) s.heap.objs.size oI { s with heap := hh', toks := tk' } s₂ → LoopStepU h₀ env.locals [s.heap.objs.size] own (J (i + 1)) { s with heap := hh', toks := tk' } .next s₂ :=
      turn_step fun _ _ _ _ _ p hp => .inl (hall p hp)
    cases f with
    | ret v => exact .ret p
    | brk => exact .brk p
    | next => exact .next (fin p)
    | cont => exact .cont (fin p)
  · rintro h' tk m' news' F' N' _ hJ
    exact done m' news' h' tk hJ F' N'

/-- for x in a list of the ledger that the turns leave as it is -/
theorem iterL {l : Addr} {vs : List Value} {nn : Nat} {m₀ : Str → Option Value} {news : List (Addr × Obj)} (J : Nat → (Str → Option Value) → List (Addr × Obj) → Prop)
    (hh : A.handled = none) (hl : ∀ i m nx, J i m nx → (l, listOf vs.toArray nn) ∈ nx) (F : Fr h₀ env.locals s.heap m₀) (N : News h₀ env.locals s.heap news) (hj : J 0 m₀ news)
    (turn : ∀ i v m₁ nx h tk I oI, vs[i]? = some v → J i m₁ nx → (∀ p ∈ nx, p.1 ≠ I) → IsIt oI → Fr h₀ env.locals h (fun y => if y = x then some v else m₁ y) → News h₀ env.locals h ((I, oI) :: nx) →
      wpAny (model prog w) A (execs body env) (MPost h₀ env.locals (J (i + 1)) I oI { s with heap := h, toks := tk } Q) E { s with heap := h, toks := tk })
    (done : ∀ m₁ nx h tk, J vs.length m₁ nx → Fr h₀ env.locals h m₁ → News h₀ env.locals h nx → Q .next { s with heap := h, toks := tk }) :
    wpAny (model prog w) A (pyIter (.ref l)) (fun it s₂ => LoopAtV prog w A h₀ env x body Q E it s₂) E s := by
  have hl0 := hl _ _ _ hj
  have hol : s.heap.get? l = some (listOf vs.toArray nn) := (N _ hl0).1
  have hls : s.heap.IsList l vs.toArray := ⟨_, hol, rfl, nn, rfl⟩
  have hne : l ≠ s.heap.objs.size := Nat.ne_of_lt (Heap.lt_size hol)
  refine wpAny_pyIter_list hls ?_
  have W := Walks.list (prog := prog) (w := w) hh s.heap.objs.size l hne vs.toArray
  have hlen : vs.toArray.size = vs.length := by simp
  rw [hlen] at W
  refine ⟨_, _, _, vs.length, _, _, m₀, news, J, rfl, W, ?_, ?_, ?_, ⟨⟨_, Heap.get?_push_size _ rfl, rfl, rfl⟩, hls.at fun o e => Heap.get?_push_of_some _ e⟩, F.push _, (fun p hp => ⟨Heap.get?_push_of_some _ (N p hp).1, (N p hp).2⟩), hj, ?_, ?_⟩
  · intro hm
    rcases List.mem_cons.mp hm with e | hm
    · exact absurd F.ns.lt (e ▸ Nat.lt_irrefl _)
    · exact (N _ hl0).2.1 ((List.mem_singleton.mp hm).symm)
  · intro b hb
    rw [List.mem_singleton.mp hb]
    exact next_is_new F
  · intro p hp hI
    exact absurd (Heap.lt_size (N p hp).1) ((List.mem_singleton.mp hI) ▸ Nat.lt_irrefl _)
  · rintro i v m₁ nx s₁ own ⟨hh', tk', rfl⟩ hin hP hJ hoff hown hget hfp hst F₁ N₁
    have hI0 : h₀.get? s.heap.objs.size = none := next_is_new F
    obtain ⟨⟨oI, hoI, hcI, _⟩, _⟩ := id hst
    have hIown : (s.heap.objs.size, oI) ∈ own := hfp _ (List.mem_cons.mpr (.inl rfl)) hI0 _ hoI
    have hlo : hh'.get? l = some (listOf vs.toArray nn) := (N₁ _ (List.mem_append.mpr (.inr (hl _ _ _ hJ)))).1
    have hall : ∀ p ∈ own, p = (s.heap.objs.size, oI) ∨ p = (l, listOf vs.toArray nn) := fun p hp => by
      have hg : hh'.get? p.1 = some p.2 := hget p hp
      rcases List.mem_cons.mp (hown p hp) with h1 | h1
      · rw [h1, hoI] at hg; exact .inl (Prod.ext h1 (Option.some.inj hg).symm)
      · have h1 := List.mem_singleton.mp h1
        rw [h1, hlo] at hg; exact .inr (Prod.ext h1 (Option.some.inj hg).symm)
    have N₂ : News h₀ env.locals hh' ((s.heap.objs.size, oI) :: nx) := fun p hp => N₁ p ((List.mem_cons.mp hp).elim (fun h => List.mem_append.mpr (.inl (h ▸ hIown))) fun h => List.mem_append.mpr (.inr h))
    refine wpAny_mono (turn i v m₁ nx hh' tk' s.heap.objs.size oI (by simpa using hP) hJ (fun p hp e => hoff p hp (List.mem_singleton.mpr e)) (.inl hcI) F₁ N₂) (fun f s₂ p => ?_) fun _ _ e => e
    have fin : MEnd h₀ env.locals (J (i + 1)) s.heap.objs.size oI { s with heap := hh', toks := tk' } s₂ → LoopStepU h₀ env.locals [s.heap.objs.size] own (J (i + 1)) { s with heap := hh', toks := tk' } .next s₂ :=
      turn_step fun _ _ _ hj' _ p hp => by
        rcases hall p hp with h | h
        · exact .inl h
        · exact .inr (by rw [h]; exact hl _ _ _ hj')
    cases f with
    | ret v => exact .ret p
    | brk => exact .brk p
    | next => exact .next (fin p)
    | cont => exact .cont (fin p)
  · rintro h' tk m' news' F' N' _ hJ
    exact done m' news' h' tk hJ F' N'

def MPostT (h₀ : Heap) (L : Addr) (J : (Str → Option Value) → List (Addr × Obj) → Prop) (I : Addr) (oI : Obj) (s₁ : Shared) (f : Flow) (s₂ : Shared) : Prop := f = .next ∧ MEnd h₀ L J I oI s₁ s₂

/-- for a, b in a list that stands below the frame: any target -/
theorem iterTB {target : Expr} {l : Addr} {vs : List Value} {m₀ : Str → Option Value} {news : List (Addr × Obj)} (J : Nat → (Str → Option Value) → List (Addr × Obj) → Prop)
    (hh : A.handled = none) (hl : h₀.IsList l vs.toArray) (F : Fr h₀ env.locals s.heap m₀) (N : News h₀ env.locals s.heap news) (hj : J 0 m₀ news)
    (turn : ∀ i v m₁ nx (s₁ : Shared) I oI, vs[i]? = some v → J i m₁ nx → (∀ p ∈ nx, p.1 ≠ I) → IsIt oI → Fr h₀ env.locals s₁.heap m₁ → News h₀ env.locals s₁.heap ((I, oI) :: nx) →
      wpAny (model prog w) A (assign target env v) (fun _ s₃ => wpAny (model prog w) A (execs body env) (MPostT h₀ env.locals (J (i + 1)) I oI s₁) E s₃) E s₁)
    (done : ∀ m₁ nx h tk, J vs.length m₁ nx → Fr h₀ env.locals h m₁ → News h₀ env.locals h nx → Q .next { s with heap := h, toks := tk }) :
    wpAny (model prog w) A (pyIter (.ref l)) (fun it s₂ => LoopAtT prog w A h₀ env target body Q E it s₂) E s := by
  have hls : s.heap.IsList l vs.toArray := hl.at fun o e => F.keep l o e
  obtain ⟨ol, hol, _⟩ := id hl
  have hlt : l < h₀.objs.size := Heap.lt_size hol
  have hne : l ≠ s.heap.objs.size := Nat.ne_of_lt (Nat.lt_trans (Nat.lt_of_lt_of_le hlt F.above) F.ns.lt)
  refine wpAny_pyIter_list hls ?_
  have W := Walks.list (prog := prog) (w := w) hh s.heap.objs.size l hne vs.toArray
  have hlen : vs.toArray.size = vs.length := by simp
  rw [hlen] at W
  refine ⟨_, _, _, vs.length, _, _, m₀, news, J, rfl, W, ?_, ?_, ?_, ⟨⟨_, Heap.get?_push_size _ rfl, rfl, rfl⟩, hls.at fun o e => Heap.get?_push_of_some _ e⟩, F.push _, (fun p hp => ⟨Heap.get?_push_of_some _ (N p hp).1, (N p hp).2⟩), (fun i s' v Q' st hQ' => letGo_listiter st.1 hQ'), hj, ?_, ?_⟩
  · intro hm
    rcases List.mem_cons.mp hm with e | hm
    · exact absurd F.ns.lt (e ▸ Nat.lt_irrefl _)
    · exact absurd (Nat.lt_of_lt_of_le hlt F.above) ((List.mem_singleton.mp hm) ▸ Nat.lt_irrefl _)
  · intro b hb
    rw [List.mem_singleton.mp hb]
    exact next_is_new F
  · intro p hp hI
    exact absurd (Heap.lt_size (N p hp).1) ((List.mem_singleton.mp hI) ▸ Nat.lt_irrefl _)
  · intro i v m₁ nx s₁ own hin hP hJ hoff hown hget hfp hst F₁ N₁
    have hI0 : h₀.get? s.heap.objs.size = none := next_is_new F
    obtain ⟨⟨oI, hoI, hcI, _⟩, _⟩ := id hst
    have hIown : (s.heap.objs.size, oI) ∈ own := hfp _ (List.mem_cons.mpr (.inl rfl)) hI0 _ hoI
    have hall : ∀ p ∈ own, p = (s.heap.objs.size, oI) := fun p hp => by
      have hg : s₁.heap.get? p.1 = some p.2 := hget p hp
      rcases List.mem_cons.mp (hown p hp) with h1 | h1
      · rw [h1, hoI] at hg; exact Prod.ext h1 (Option.some.inj hg).symm
      · have h3 := (N₁ p (List.mem_append.mpr (.inl hp))).2.2
        rw [List.mem_singleton.mp h1, hol] at h3; cases h3
    have N₂ : News h₀ env.locals s₁.heap ((s.heap.objs.size, oI) :: nx) := fun p hp => N₁ p ((List.mem_cons.mp hp).elim (fun h => List.mem_append.mpr (.inl (h ▸ hIown))) fun h => List.mem_append.mpr (.inr h))
    refine wpAny_mono (turn i v m₁ nx s₁ s.heap.objs.size oI (by simpa using hP) hJ (fun p hp e => hoff p hp (List.mem_singleton.mpr e)) (.inl hcI) F₁ N₂) (fun _ s₃ h₃ => wpAny_mono h₃ (fun f s₂ p => ?_) fun _ _ e => e) fun _ _ e => e
    obtain ⟨rfl, p⟩ := p
    exact turn_step (fun _ _ _ _ _ p hp => .inl (hall p hp)) p
  · rintro h' tk m' news' F' N' _ hJ
    exact done m' news' h' tk hJ F' N'

/-- for x in range(a, b): any target -/
theorem iterTR {target : Expr} {r : Addr} {a b : Int} {t₀ u₀ v₀ : Tok} {n : Nat} {m₀ : Str → Option Value} {news : List (Addr × Obj)} (J : Nat → (Str → Option Value) → List (Addr × Obj) → Prop)
    (hh : A.handled = none) (hr : IsRange s.heap r a b 1 t₀ u₀ v₀) (hsm : Builtin.Range.small a b 1 = true) (hsz : Builtin.Range.rangeSize a b 1 = (n : Int)) (hlet : ∀ it v, letOwnedTupleGo target it v = pure ()) (F : Fr h₀ env.locals s.heap m₀) (N : News h₀ env.locals s.heap news) (hj : J 0 m₀ news)
    (turn : ∀ i t m₁ nx (s₁ : Shared) I oI, i < n → J i m₁ nx → (∀ p ∈ nx, p.1 ≠ I) → IsIt oI → Fr h₀ env.locals s₁.heap m₁ → News h₀ env.locals s₁.heap ((I, oI) :: nx) →
      wpAny (model prog w) A (assign target env (.int (a + (i : Int)) t)) (fun _ s₃ => wpAny (model prog w) A (execs body env) (MPostT h₀ env.locals (J (i + 1)) I oI s₁) E s₃) E s₁)
    (done : ∀ m₁ nx h tk, J n m₁ nx → Fr h₀ env.locals h m₁ → News h₀ env.locals h nx → Q .next { s with heap := h, toks := tk }) :
    wpAny (model prog w) A (pyIter (.ref r)) (fun it s₂ => LoopAtT prog w A h₀ env target body Q E it s₂) E s := by
  refine wpAny_pyIter_range hr hsm ?_
  have W := LCg.range_walks (prog := prog) (w := w) (I := s.heap.objs.size) hh a n
  refine ⟨_, _, _, n, _, _, m₀, news, J, rfl, W, ?_, ?_, ?_, (by show IsRangeIter _ _ _ _ _; rw [hsz]; simpa using Heap.get?_push_size _ rfl), F.push _, (fun p hp => ⟨Heap.get?_push_of_some _ (N p hp).1, (N p hp).2⟩), (fun i s' v Q' st hQ' => by rw [hlet]; exact wpAny_pure hQ'), hj, ?_, ?_⟩
  · intro hm
    exact absurd F.ns.lt ((List.mem_singleton.mp hm) ▸ Nat.lt_irrefl _)
  · intro b hb
    rw [List.mem_singleton.mp hb]
    exact next_is_new F
  · intro p hp hI
    exact absurd (Heap.lt_size (N p hp).1) ((List.mem_singleton.mp hI) ▸ Nat.lt_irrefl _)
  · intro i v m₁ nx s₁ own hin hP hJ hoff hown hget hfp hst F₁ N₁
    have hI0 : h₀.get? s.heap.objs.size = none := next_is_new F
    obtain ⟨t, rfl⟩ := hP
    have hoI : s₁.heap.get? s.heap.objs.size = some _ := hst
    have hIown := hfp _ (List.mem_singleton.mpr rfl) hI0 _ hoI
    have hall : ∀ p ∈ own, p = (s.heap.objs.size, _) := fun p hp => by
      have hg : s₁.heap.get? p.1 = some p.2 := hget p hp
      have h1 := List.mem_singleton.mp (hown p hp)
      rw [h1, hoI] at hg; exact Prod.ext h1 (Option.some.inj hg).symm
    have N₂ : News h₀ env.locals s₁.heap ((s.heap.objs.size, _) :: nx) := fun p hp => N₁ p ((List.mem_cons.mp hp).elim (fun h => List.mem_append.mpr (.inl (h ▸ hIown))) fun h => List.mem_append.mpr (.inr h))
    refine wpAny_mono (turn i t m₁ nx s₁ s.heap.objs.size _ hin hJ (fun p hp e => hoff p hp (List.mem_singleton.mpr e)) (.inr rfl) F₁ N₂) (fun _ s₃ h₃ => wpAny_mono h₃ (fun f s₂ p => ?_) fun _ _ e => e) fun _ _ e => e
    obtain ⟨rfl, p⟩ := p
    exact turn_step (fun _ _ _ _ _ p hp => .inl (hall p hp)) p
  · rintro h' tk m' news' F' N' _ hJ
    exact done m' news' h' tk hJ F' N'
end

theorem ne_it {h₀ h : Heap} {L I : Addr} {oI : Obj} {news nx : List (Addr × Obj)} (N : News h₀ L h news) (hI : (I, oI) ∈ news) (hit : IsIt oI) (hn : ∀ p ∈ nx, p ∈ news) (hk : ∀ p ∈ nx, ¬ IsIt p.2) : ∀ p ∈ nx, p ∈ news ∧ p.1 ≠ I := fun p hp =>
  ⟨hn p hp, fun e => by
    have h1 := (N _ (hn p hp)).1
    have h2 := (N _ hI).1
    rw [e] at h1
    rw [h1] at h2
    cases h2
    exact hk p hp hit⟩
end Mine
end
section
open PySem PySem.Spec PySem.Calls PySem.W PyProof.Rows
set_option maxRecDepth 100000
namespace Mine
structure Stop (P : Prop) : Prop where
  out : P
def frB (rest : Str → Option Value) : List (Str × Value) → Str → Option Value
  | [] => rest
  | (x, v) :: r => fun z => if z = x then some v else frB rest r z
theorem frB_eq {m₁ rest : Str → Option Value} {z : Str} : ∀ {ps : List (Str × Value)}, (∀ p ∈ ps, m₁ p.1 = some p.2) → ((∀ p ∈ ps, z ≠ p.1) → rest z = m₁ z) → frB rest ps z = m₁ z
  | [], _, h => h fun _ hp => nomatch hp
  | (x, v) :: r, h1, h2 => by
    show (if z = x then some v else frB rest r z) = m₁ z
    by_cases e : z = x
    · rw [if_pos e, e]
      exact (h1 (x, v) (.head _)).symm
    · rw [if_neg e]
      refine frB_eq (fun q hq => h1 q (.tail _ hq)) fun hr => h2 fun q hq => ?_
      rcases List.mem_cons.mp hq with rfl | hq
      · exact e
      · exact hr q hq
structure FrameIs (m₀ m : Str → Option Value) (ps : List (Str × Value)) (lo : List Str) : Prop where
  at_ : ∀ p ∈ ps, m p.1 = some p.2
  off : ∀ z, (∀ p ∈ ps, z ≠ p.1) → lo.contains z = false → m z = m₀ z
section
variable {m₀ m : Str → Option Value} {ps : List (Str × Value)} {lo : List Str}
theorem FrameIs.eq (h : FrameIs m₀ m ps lo) : m = frB (fun z => if lo.contains z then m z else m₀ z) ps := by
  funext z
  refine (frB_eq h.at_ fun hn => ?_).symm
  show (if lo.contains z = true then m z else m₀ z) = m z
  cases h3 : lo.contains z with
  | true => simp
  | false => simp only [Bool.false_eq_true, if_false]; exact (h.off z hn h3).symm
theorem FrameIs.nil (lo : List Str) : FrameIs m₀ m₀ [] lo := ⟨(fun _ h => nomatch h), fun _ _ _ => rfl⟩
theorem FrameIs.free {x : Str} {v : Value} (h : FrameIs m₀ m ps lo) (hx : lo.contains x = true) (hn : ps.all (fun p => !(p.1 == x)) = true) : FrameIs m₀ (fun y => if y = x then some v else m y) ps lo :=
  ⟨fun p hp => by
    have h1 := List.all_eq_true.mp hn p hp
    have h2 : p.1 ≠ x := by simpa using h1
    show (if p.1 = x then some v else m p.1) = some p.2
    rw [if_neg h2]; exact h.at_ p hp,
   fun z h1 h2 => by
    have h3 : z ≠ x := fun e => by rw [e, hx] at h2; cases h2
    show (if z = x then some v else m z) = m₀ z
    rw [if_neg h3]; exact h.off z h1 h2⟩
def putP (x : Str) (v : Value) : List (Str × Value) → List (Str × Value)
  | [] => [(x, v)]
  | p :: r => if p.1 == x then (x, v) :: r else p :: putP x v r
theorem putP_mem {x : Str} {v : Value} {p : Str × Value} : ∀ {ps : List (Str × Value)}, (ps.map (·.1)).Nodup → p ∈ putP x v ps → p = (x, v) ∨ (p ∈ ps ∧ p.1 ≠ x)
  | [], _, h => .inl (List.mem_singleton.mp h)
  | q :: r, hn, h => by
    rw [List.map_cons, List.nodup_cons] at hn
    unfold putP at h
    by_cases e : (q.1 == x) = true
    · rw [if_pos e] at h
      rcases List.mem_cons.mp h with h | h
      · exact .inl h
      · refine .inr ⟨.tail _ h, fun e' => hn.1 ?_⟩
        rw [beq_iff_eq.mp e, ← e']; exact List.mem_map_of_mem h
    · rw [if_neg e] at h
      rcases List.mem_cons.mp h with h | h
      · exact .inr ⟨h ▸ .head _, fun e' => e (by rw [← h, e']; simp)⟩
      · exact (putP_mem hn.2 h).imp id fun h => ⟨.tail _ h.1, h.2⟩
theorem putP_keys {x z : Str} {v : Value} : ∀ {ps : List (Str × Value)}, (∀ p ∈ putP x v ps, z ≠ p.1) → z ≠ x ∧ ∀ p ∈ ps, z ≠ p.1
  | [], h => ⟨h _ (.head _), fun _ hp => nomatch hp⟩
  | q :: r, h => by
    unfold putP at h
    by_cases e : (q.1 == x) = true
    · rw [if_pos e] at h
      refine ⟨h _ (.head _), fun p hp => ?_⟩
      rcases List.mem_cons.mp hp with rfl | hp
      · rw [beq_iff_eq.mp e]; exact h _ (.head _)
      · exact h _ (.tail _ hp)
    · rw [if_neg e] at h
      have := putP_keys (ps := r) fun p hp => h p (.tail _ hp)
      refine ⟨this.1, fun p hp => ?_⟩
      rcases List.mem_cons.mp hp with rfl | hp
      · exact h _ (.head _)
      · exact this.2 p hp
theorem FrameIs.put {x : Str} {v : Value} (h : FrameIs m₀ m ps lo) (hn : (ps.map (·.1)).Nodup) : FrameIs m₀ (fun y => if y = x then some v else m y) (putP x v ps) lo :=
  ⟨fun p hp => by
    show (if p.1 = x then some v else m p.1) = some p.2
    rcases putP_mem hn hp with rfl | ⟨hp, hne⟩
    · exact if_pos rfl
    · rw [if_neg hne]; exact h.at_ p hp,
   fun z h1 h2 => by
    obtain ⟨h3, h4⟩ := putP_keys h1
    show (if z = x then some v else m z) = m₀ z
    rw [if_neg h3]; exact h.off z h4 h2⟩
theorem FrameIs.kst {u : Str → Option Value} (hn : (ps.map (·.1)).Nodup) : FrameIs m₀ (frB (fun z => if lo.contains z then u z else m₀ z) ps) ps lo := by
  refine ⟨fun p hp => ?_, fun z h1 h2 => ?_⟩
  · induction ps with
    | nil => cases hp
    | cons q r ih =>
      rw [List.map_cons, List.nodup_cons] at hn
      show (if p.1 = q.1 then some q.2 else frB _ r p.1) = some p.2
      rcases List.mem_cons.mp hp with rfl | hp
      · exact if_pos rfl
      · rw [if_neg (fun e : p.1 = q.1 => hn.1 (by rw [← e]; exact List.mem_map_of_mem hp))]; exact ih hn.2 hp
  · induction ps with
    | nil => show (if lo.contains z = true then u z else m₀ z) = m₀ z; rw [h2]; rfl
    | cons q r ih =>
      rw [List.map_cons, List.nodup_cons] at hn
      show (if z = q.1 then some q.2 else frB _ r z) = m₀ z
      rw [if_neg (h1 q (.head _))]; exact ih hn.2 fun p hp => h1 p (.tail _ hp)
theorem FrameIs.fr {h₀ h : Heap} {L : Addr} (x : FrameIs m₀ m ps lo) (F : Fr h₀ L h m) : Fr h₀ L h (frB (fun z => if lo.contains z then m z else m₀ z) ps) := by
  rw [← x.eq]; exact F
theorem FrameIs.fr1 {h₀ h : Heap} {L : Addr} {y : Str} {v : Option Value} (x : FrameIs m₀ m ps lo) (F : Fr h₀ L h (fun z => if z = y then v else m z)) : Fr h₀ L h (fun z => if z = y then v else frB (fun z => if lo.contains z then m z else m₀ z) ps z) := by
  rw [← x.eq]; exact F
end
theorem fm8 (a : Int) : a.fmod 8 = a % 8 := Int.fmod_eq_emod_of_nonneg a (by decide)
theorem fd8 (a : Int) : a.fdiv 8 = a / 8 := Int.fdiv_eq_ediv_of_nonneg a (by decide)

abbrev NoN : Str → Option Value := fun _ => none
theorem frB_nod {ps : List (Str × Value)} {lo : List Str} (hn : (ps.map (·.1)).Nodup) : FrameIs NoN (frB NoN ps) ps lo := by
  have := FrameIs.kst (m₀ := NoN) (lo := lo) (u := NoN) hn
  have e : (fun z => if lo.contains z = true then NoN z else NoN z) = NoN := by funext z; simp
  rw [e] at this
  exact this
def nodK : List (Str × Value) → Bool
  | [] => true
  | p :: r => !(r.any fun q => q.1 == p.1) && nodK r
theorem nodK_of : ∀ {ps : List (Str × Value)}, nodK ps = true → (ps.map (·.1)).Nodup
  | [], _ => List.nodup_nil
  | p :: r, h => by
    obtain ⟨h1, h2⟩ := Bool.and_eq_true_iff.mp h
    rw [List.map_cons, List.nodup_cons]
    refine ⟨fun hm => ?_, nodK_of h2⟩
    obtain ⟨q, hq, e⟩ := List.mem_map.mp hm
    have : (r.any fun q => q.1 == p.1) = true := List.any_eq_true.mpr ⟨q, hq, by simp [e]⟩
    rw [this] at h1; cases h1
theorem FrameIs.base {ps : List (Str × Value)} {lo : List Str} (hn : nodK ps = true := by rfl) : FrameIs NoN (frB NoN ps) ps lo := frB_nod (nodK_of hn)
theorem FrameIs.kstb {m₀ u : Str → Option Value} {ps : List (Str × Value)} {lo : List Str} (hn : nodK ps = true := by rfl) : FrameIs m₀ (frB (fun z => if lo.contains z then u z else m₀ z) ps) ps lo := FrameIs.kst (nodK_of hn)
theorem FrameIs.set {m₀ m : Str → Option Value} {ps ps' : List (Str × Value)} {lo : List Str} {x : Str} {v : Value} (h : FrameIs m₀ m ps lo) (e : putP x v ps = ps' := by rfl) (hn : nodK ps = true := by rfl) : FrameIs m₀ (fun y => if y = x then some v else m y) ps' lo := e ▸ h.put (nodK_of hn)
theorem FrameIs.drop {m₀ m : Str → Option Value} {ps : List (Str × Value)} {lo : List Str} {x : Str} {v : Value} (h : FrameIs m₀ m (ps ++ [(x, v)]) lo) (hx : lo.contains x = true := by rfl) : FrameIs m₀ m ps lo :=
  ⟨fun p hp => h.at_ p (List.mem_append_left _ hp), fun z h1 h2 => h.off z (fun p hp => by
    rcases List.mem_append.mp hp with hp | hp
    · exact h1 p hp
    · rw [List.mem_singleton.mp hp]
      intro e
      rw [e] at h2
      rw [hx] at h2; cases h2) h2⟩
theorem FrameIs.skip {m₀ m : Str → Option Value} {ps : List (Str × Value)} {lo : List Str} {x : Str} {v : Value} (h : FrameIs m₀ m ps lo) (hx : lo.contains x = true := by rfl) (hn : ps.all (fun p => !(p.1 == x)) = true := by rfl) : FrameIs m₀ (fun y => if y = x then some v else m y) ps lo := h.free hx hn
theorem look_rev {z : Str} : ∀ {ps : List (Str × Value)}, (ps.map (·.1)).Nodup → ps.reverse.lookup z = frB NoN ps z
  | [], _ => rfl
  | p :: r, hn => by
    rw [List.map_cons, List.nodup_cons] at hn
    rw [List.reverse_cons, List.lookup_append, look_rev hn.2]
    show _ = if z = p.1 then some p.2 else frB NoN r z
    by_cases e : z = p.1
    · have h1 : frB NoN r z = none := by
        have := (frB_nod (lo := []) hn.2).off z (fun q hq e' => hn.1 (by rw [← e, e']; exact List.mem_map_of_mem hq)) rfl
        exact this
      rw [h1, if_pos e, e]
      simp [List.lookup]
    · rw [if_neg e]
      have h1 : (z == p.1) = false := by simpa using e
      cases h2 : frB NoN r z with
      | none => simp [List.lookup, h1]
      | some v => simp
section
variable {prog : Program} {w : World} {A₀ A : Around} {s : Shared} {base h₀ : Heap} {outer : List Env} {L : Addr} {m : Str → Option Value} {env : Env} {K : Frag} {p : Program} {loose : List Str} {mean : ExcName → Option Value} {mg mb : Str → Option Value}
  {R : Result → Shared → Prop} {name qual : Str} {params : Arguments} {body : List Stmt} {scope : Scope} {dV kV doc pm cdv ct oc : Value} {an od : Option Addr} {osl : Array (Option Value)} {f : Addr} {args : Args} {binds : List (Str × Value)}
theorem callG (B : Below A₀ base outer h₀) (F : Fr h₀ L s.heap m) (X₀ : K.In h₀) (T : Top p loose mean mg mb h₀) (hA : A.frames = some (env :: outer)) (hf : env.frame = some L) (hke : env.scope.kind = .function)
    (ho : K.lookup f = some ⟨oc, od, .func (fnOf name qual params body scope dV kV doc pm an cdv ct), osl⟩) (hcd : codeIn K cdv qual = true) (hroom : A.depth < recursionLimit)
    (hbind : BindsTo s (fnOf name qual params body scope dV kV doc pm an cdv ct) args binds) (hloc : ∀ y ∈ binds, scope.names.lookup y.1 = some .local) (hnd : nodK binds = true)
    (h : ∀ L' h₁, Fr s.heap L' h₁ (frB NoN binds) → News s.heap L' h₁ [] → Below A base (env :: outer) s.heap → K.In s.heap → Top p loose mean mg mb s.heap →
      wpAny (model prog w) (A.deeper (envOf qual scope L' f cdv)) (execs body (envOf qual scope L' f cdv))
        (fun fl s' => LeaveK h₀ L m s.heap R (match fl with | .ret v => v | _ => .none) s')
        (fun e s' => wpAny (model prog w) (A.deeper (envOf qual scope L' f cdv)) (leaving (envOf qual scope L' f cdv) e) (fun _ s'' => R (.error e) s'') (fun e' s'' => R (.error e') s'') s')
        { s with heap := h₁, toks := s.toks + binds.length })
    (hco : scope.isCoroutine = false) (hgen : scope.isGenerator = false) (hk : scope.kind = .function)
    (hcell : ∀ x ∈ scope.names, x.2 ≠ .cell) : codeAny (model prog w) A (.call (.ref f) args) R s :=
  callF B F X₀ T hA hf hke ho hcd hroom hbind hloc (fun L' h₁ F' => h L' h₁ (by
    have : (fun y => binds.reverse.lookup y) = frB NoN binds := funext fun y => look_rev (nodK_of hnd)
    rw [← this]; exact F')) hco hgen hk hcell
end

inductive All2 {α β : Type} (R : α → β → Prop) : List α → List β → Prop
  | nil : All2 R [] []
  | cons {a : α} {b : β} {l : List α} {m : List β} : R a b → All2 R l m → All2 R (a :: l) (b :: m)
section
variable {α β : Type} {R R' : α → β → Prop} {l l' : List α} {m m' : List β}
theorem All2.length (h : All2 R l m) : l.length = m.length := by
  induction h with
  | nil => rfl
  | cons _ _ ih => rw [List.length_cons, List.length_cons, ih]
theorem All2.mono (hs : ∀ a b, R a b → R' a b) (h : All2 R l m) : All2 R' l m := by
  induction h with
  | nil => exact .nil
  | cons h _ ih => exact .cons (hs _ _ h) ih
theorem All2.append (h : All2 R l m) (k : All2 R l' m') : All2 R (l ++ l') (m ++ m') := by
  induction h with
  | nil => exact k
  | cons h _ ih => exact .cons h ih
theorem All2.get (h : All2 R l m) {i : Nat} {a : α} (hi : l[i]? = some a) : ∃ b, m[i]? = some b ∧ R a b := by
  induction h generalizing i with
  | nil => cases hi
  | cons h _ ih =>
    cases i with
    | zero => cases hi; exact ⟨_, rfl, h⟩
    | succ i => exact ih hi
end
/-- a pair of ints that stands -/
def PairAt (h : Heap) (v : Value) (p : Int × Int) : Prop := ∃ a t1 t2, v = .ref a ∧ IsTup h a #[.int p.1 t1, .int p.2 t2]
def TiesAt (h : Heap) (l : Addr) (vs : List Value) (ties : List (Int × Int)) : Prop := h.IsList l vs.toArray ∧ All2 (PairAt h) vs ties
/-- lists of ints, in the ledger -/
def ListsIn (nx : List (Addr × Obj)) : List Value → List (List Int) → Prop := All2 fun v s => ∃ a vs n, v = .ref a ∧ (a, listOf vs.toArray n) ∈ nx ∧ IntsAre vs s
theorem ListsIn.mono {nx nx' : List (Addr × Obj)} {ws : List Value} {ss : List (List Int)} (h : ListsIn nx ws ss) (hs : ∀ p ∈ nx, p ∈ nx') : ListsIn nx' ws ss := All2.mono (fun _ _ ⟨a, vs, n, e, hm, hi⟩ => ⟨a, vs, n, e, hs _ hm, hi⟩) h
theorem take_one {α : Type} {l : List α} {i : Nat} {a : α} (h : l[i]? = some a) : l.take (i + 1) = l.take i ++ [a] := by rw [List.take_add_one, h]; rfl
theorem int_at {vs : List Value} {ns : List Int} (hi : IntsAre vs ns) {i : Nat} {v : Value} (hv : vs[i]? = some v) : ∃ a, ns[i]? = some a ∧ ∃ t, v = .int a t := by
  have hlt : i < ns.length := by rw [← hi.length]; exact (List.getElem?_eq_some_iff.mp hv).1
  obtain ⟨t, hx⟩ := hi.get i ns[i] (by simp [hlt])
  exact ⟨ns[i], by simp [hlt], t, by rw [hv] at hx; exact Option.some.inj hx⟩
theorem fm4 (a : Int) : a.fmod 4 = a % 4 := Int.fmod_eq_emod_of_nonneg a (by decide)
theorem allLt_mem {d : Addr} {l : List (Addr × Obj)} (h : AllLt d l) : ∀ p ∈ l, p.1 < d := by
  induction l with
  | nil => intro p hp; cases hp
  | cons q r ih =>
    intro p hp
    rcases List.mem_cons.mp hp with rfl | hp
    · exact h.1
    · exact ih h.2 p hp
theorem allLt_ne {d : Addr} {l : List (Addr × Obj)} (h : AllLt d l) : ∀ p ∈ l, p.1 ≠ d := fun p hp => Nat.ne_of_lt (allLt_mem h p hp)
theorem all_cons {α : Type} {P : α → Prop} {a : α} {l : List α} (h : P a) (k : ∀ p ∈ l, P p) : ∀ p ∈ a :: l, P p := fun p hp => by
  rcases List.mem_cons.mp hp with rfl | hp
  · exact h
  · exact k p hp
theorem ListsIn.get {nx : List (Addr × Obj)} {ws : List Value} {ss : List (List Int)} (h : ListsIn nx ws ss) {i : Nat} {v : Value} (hv : ws[i]? = some v) : ∃ s, ss[i]? = some s ∧ ∃ a vs n, v = .ref a ∧ (a, listOf vs.toArray n) ∈ nx ∧ IntsAre vs s := All2.get h hv
theorem list_no_it {vs : List Value} {n : Nat} : ¬ IsIt (listOf vs.toArray n) := by
  intro h
  rcases h with h | h
  · exact absurd (Value.type.inj h) (by decide)
  · exact absurd (Value.type.inj h) (by decide)
/-- the ledger but for the iterator -/
def butI (I : Addr) (news : List (Addr × Obj)) : List (Addr × Obj) := news.filter fun p => decide (p.1 ≠ I)
theorem butI_sub {I : Addr} {news : List (Addr × Obj)} : ∀ p ∈ butI I news, p ∈ news ∧ p.1 ≠ I := fun p hp => ⟨(List.mem_filter.mp hp).1, by simpa using (List.mem_filter.mp hp).2⟩
theorem butI_list {h₀ h : Heap} {L I a : Addr} {oI : Obj} {news : List (Addr × Obj)} {vs : List Value} {n : Nat} (N : News h₀ L h news) (hI : (I, oI) ∈ news) (hit : IsIt oI) (hm : (a, listOf vs.toArray n) ∈ news) : (a, listOf vs.toArray n) ∈ butI I news :=
  List.mem_filter.mpr ⟨hm, decide_eq_true fun e => by
    have e' : a = I := e
    have h1 := (N _ hm).1
    rw [e'] at h1
    have h2 := (N _ hI).1
    rw [h1] at h2; cases h2; exact list_no_it hit⟩
theorem butI_lists {h₀ h : Heap} {L I : Addr} {oI : Obj} {news nx : List (Addr × Obj)} {ws : List Value} {ss : List (List Int)} (N : News h₀ L h news) (hI : (I, oI) ∈ news) (hit : IsIt oI) (hs : ∀ p ∈ nx, p ∈ news) (x : ListsIn nx ws ss) : ListsIn (butI I news) ws ss :=
  All2.mono (fun _ _ ⟨a, vs, n, e, hm, hi⟩ => ⟨a, vs, n, e, butI_list N hI hit (hs _ hm), hi⟩) x
theorem name_it {P : Nat → Prop} {a : Nat} (h : P a) : ∃ b, b = a ∧ P b := ⟨a, rfl, h⟩
theorem news_sub {h₀ h : Heap} {L : Addr} {news news' : List (Addr × Obj)} (N : News h₀ L h news) (hs : ∀ p ∈ news', p ∈ news) : News h₀ L h news' := fun p hp => N p (hs p hp)
theorem mem_fwd {α : Type} {l r : List α} {x p : α} (hp : p ∈ l ++ x :: r) : p ∈ x :: (l ++ r) := by
  rcases List.mem_append.mp hp with hp | hp
  · exact .tail _ (List.mem_append_left _ hp)
  · cases hp with
    | head => exact .head _
    | tail _ hp => exact .tail _ (List.mem_append_right _ hp)
theorem mem_bwd {α : Type} {l r : List α} {x p : α} (hp : p ∈ x :: (l ++ r)) : p ∈ l ++ x :: r := by
  cases hp with
  | head => exact List.mem_append_right _ (.head _)
  | tail _ hp =>
    rcases List.mem_append.mp hp with hp | hp
    · exact List.mem_append_left _ hp
    · exact List.mem_append_right _ (.tail _ hp)
theorem mem_moved {α : Type} {l r : List α} {x y p : α} (hp : p ∈ l ++ x :: r) : p ∈ x :: y :: (l ++ r) := by
  cases mem_fwd hp with
  | head => exact .head _
  | tail _ hp => exact .tail _ (.tail _ hp)
theorem mem_c2 {α : Type} {a b c : α} {r : List α} : ∀ p ∈ c :: a :: b :: r, p ∈ a :: b :: c :: r := fun _ hp => mem_bwd (l := [a, b]) hp
theorem mem_c1 {α : Type} {a b : α} {r : List α} : ∀ p ∈ b :: a :: r, p ∈ a :: b :: r := fun _ hp => mem_fwd (l := [b]) hp
section
variable {prog : Program} {w : World} {A : Around} {E : Value → Shared → Prop} {s : Shared} {h₀ : Heap} {L : Addr} {m : Str → Option Value} {news : List (Addr × Obj)} {l : Addr} {vs : List Value} {n : Nat} {Q : Value → Shared → Prop}
theorem copy_L (F : Fr h₀ L s.heap m) (N : News h₀ L s.heap news) (hm : (l, listOf vs.toArray n) ∈ news) (hz : vs.length ≤ 1000)
    (h : ∀ D c h', Fr h₀ L h' m → News h₀ L h' ((D, listOf vs.toArray c) :: news) → (∀ q ∈ news, q.1 < D) → Q (.ref D) { s with heap := h' }) : wpAny (model prog w) A (call (.type "list") [.ref l]) Q E s :=
  list_copyK F N ⟨_, (N _ hm).1, rfl, n, rfl⟩ h (by rw [List.size_toArray]; exact Nat.le_trans hz (by decide))
end
section
variable {prog : Program} {w : World} {A : Around} {E : Value → Shared → Prop} {s : Shared} {h₀ : Heap} {L : Addr} {m : Str → Option Value} {news news' : List (Addr × Obj)} {d : Addr} {vs : List Value} {v : Value} {n : Nat} {Q : Value → Shared → Prop}
theorem append_L (F : Fr h₀ L s.heap m) (N : News h₀ L s.heap news) (U : Upd d (listOf vs.toArray n) (listOf (vs ++ [v]).toArray (n + 1)) news news') (hz : vs.length ≤ 10000) (h : ∀ h', Fr h₀ L h' m → News h₀ L h' news' → Q .none { s with heap := h' }) :
    wpAny (model prog w) A (call (.builtin "list.append") [.ref d, v]) Q E s :=
  append_K F N (by rw [List.push_toArray]; exact U) h (by rw [List.size_toArray]; exact Nat.le_trans hz (by decide))
end
theorem mem_c3 {α : Type} {a b c d : α} {r : List α} : ∀ p ∈ b :: c :: d :: a :: r, p ∈ a :: b :: c :: d :: r := fun _ hp => mem_fwd (l := [b, c, d]) hp
theorem fr_cast {h₀ h : Heap} {L : Addr} {m m' : Str → Option Value} (F : Fr h₀ L h m) (e : m = m') : Fr h₀ L h m' := e ▸ F
theorem ints_app {vs us : List Value} {ns ms : List Int} (h : IntsAre vs ns) (k : IntsAre us ms) : IntsAre (vs ++ us) (ns ++ ms) := by
  induction h with
  | nil => exact k
  | cons i t _ ih => exact .cons i t ih
theorem mem_d2 {α : Type} {a b : α} {r : List α} : ∀ p ∈ a :: r, p ∈ a :: b :: r := fun p hp => by
  rcases List.mem_cons.mp hp with rfl | hp
  · exact .head _
  · exact .tail _ (.tail _ hp)
section
variable {prog : Program} {w : World} {A : Around} {E : Value → Shared → Prop} {s : Shared} {h₀ : Heap} {L : Addr} {news : List (Addr × Obj)} {l : Addr} {vs : List Value} {n : Nat} {Q : Value → Shared → Prop}
theorem len_L (N : News h₀ L s.heap news) (hm : (l, listOf vs.toArray n) ∈ news) (hz : vs.length ≤ 10000) (h : Q (.int (vs.length : Int) (s.toks + 1)) { s with toks := s.toks + 1 + 1 }) : wpAny (model prog w) A (call (.builtin "len") [.ref l]) Q E s :=
  len_list (items := vs.toArray) ⟨_, (N _ hm).1, rfl, n, rfl⟩ (by rw [List.size_toArray]; omega) (by rw [List.size_toArray]; exact h)
end
theorem small_L {n : Nat} (h : n ≤ 10000) : Builtin.Range.small 0 (n : Int) 1 = true := small_one (by omega) (by omega) (by omega) (by omega)
end Mine
end
section
open PySem PySem.Spec PySem.Calls PySem.W PyProof.Rows PyProof.Rows.LCg
set_option maxRecDepth 100000
namespace Mine
/-- v can be unpacked: a tuple or a list of vals -/
def Unp (h : Heap) (v : Value) (vals : List Value) : Prop := ∃ a, v = .ref a ∧ (IsTup h a vals.toArray ∨ h.IsList a vals.toArray)
def nameEs (xs : List (Str × Pos)) : List Expr := xs.map fun x => .Name x.1 x.2
theorem each_names (env : Env) : ∀ xs : List (Str × Pos), assignEach (nameEs xs) env = xs.map fun x => (false, assign (.Name x.1 x.2) env)
  | [] => rfl
  | x :: r => by
    show (false, assign (.Name x.1 x.2) env) :: assignEach (nameEs r) env = _
    rw [each_names env r]; rfl
section
variable {prog : Program} {w : World} {A : Around} {E : Value → Shared → Prop} {s : Shared} {env : Env}
theorem asg_each {C : Addr} (hC : env.locals = C) (hp : (env.scope.kind == .class || (env.scope.kind == .module && env.locals != env.globals)) = false) :
    ∀ (xs : List (Str × Pos)) (vals : List Value) (s : Shared) (m' : Str → Option Value) (Q : Unit → Shared → Prop), xs.length = vals.length → (∀ x ∈ xs, env.kindOf x.1 = some .local) → s.heap.Ns C m' →
      (∀ h' tk', Heap.SameBut C s.heap h' ∨ h' = s.heap → h'.Ns C (fun z => (((xs.map (·.1)).zip vals).reverse.lookup z).or (m' z)) → Q () { s with heap := h', toks := tk' }) →
      wpAny (model prog w) A (assignInOrder (xs.map fun x => assign (.Name x.1 x.2) env) vals) Q E s := by
  intro xs
  induction xs with
  | nil =>
    intro vals s m' Q hl _ hn hQ
    obtain rfl : vals = [] := List.length_eq_zero_iff.mp hl.symm
    refine assignInOrder_nil ?_
    exact hQ s.heap s.toks (.inr rfl) (by simpa using hn)
  | cons x r ih =>
    intro vals s m' Q hl hk hn hQ
    match vals, hl with
    | v :: vs, hl =>
      subst hC
      refine assignInOrder_cons (wpAny_assign_Name (wpAny_storeName_local (hk x (.head _)) hn (fun h₁ hn₁ hs₁ => ?_) hp))
      refine ih vs _ _ _ (by simpa using hl) (fun y hy => hk y (.tail _ hy)) hn₁ fun h' tk' hs' hn' => ?_
      refine hQ h' tk' (.inl ?_) ?_
      · rcases hs' with hs' | hs'
        · exact ⟨hs'.1.trans hs₁.1, fun b hb => (hs'.2 b hb).trans (hs₁.2 b hb)⟩
        · exact hs' ▸ hs₁
      · have e : (fun z => ((((x :: r).map (·.1)).zip (v :: vs)).reverse.lookup z).or (m' z)) = fun z => (((r.map (·.1)).zip vs).reverse.lookup z).or (if z = x.1 then some v else m' z) := by
          funext z
          rw [List.map_cons, List.zip_cons_cons, List.reverse_cons, List.lookup_append]
          cases List.lookup z ((r.map (·.1)).zip vs).reverse with
          | some u => rfl
          | none =>
            by_cases h : z = x.1
            · simp [h, List.lookup]
            · have h1 : (z == x.1) = false := by simpa using h
              simp [h, h1, List.lookup]
        rw [e]; exact hn'
theorem asg_tup {C : Addr} {xs : List (Str × Pos)} {vals : List Value} {k} {tp : Pos} {v : Value} {m' : Str → Option Value} {Q : Unit → Shared → Prop} (hh : A.handled = none) (hC : env.locals = C) (hp : (env.scope.kind == .class || (env.scope.kind == .module && env.locals != env.globals)) = false)
    (hu : Unp s.heap v vals) (hl : xs.length = vals.length) (hk : ∀ x ∈ xs, env.kindOf x.1 = some .local) (hn : s.heap.Ns C m')
    (hQ : ∀ h' tk', (∀ b o, b ≠ C → s.heap.get? b = some o → h'.get? b = some o) → h'.Ns C (fun z => (((xs.map (·.1)).zip vals).reverse.lookup z).or (m' z)) → Q () { s with heap := h', toks := tk' }) :
    wpAny (model prog w) A (assign (.Tuple (nameEs xs) k tp) env v) Q E s := by
  obtain ⟨a, rfl, hu⟩ := hu
  have go : ∀ h₅, Heap.ExtBut s.heap.objs.size s.heap h₅ → wpAny (model prog w) A (assignInOrder ((assignEach (nameEs xs) env).map (·.2)) vals) Q E { s with heap := h₅ } := fun h₅ he => by
    have he' : ∀ b o, s.heap.get? b = some o → h₅.get? b = some o := fun b o e => he b o (Nat.ne_of_lt (Heap.lt_size e)) e
    rw [each_names, List.map_map]
    refine asg_each hC hp xs vals _ m' Q hl hk (hn.at' fun o e => he' _ o e) fun h' tk' hs' hn' => ?_
    refine hQ h' tk' (fun b o hb e => ?_) hn'
    rcases hs' with hs' | hs'
    · exact (hs'.2 b hb).trans (he' b o e)
    · rw [hs']; exact he' b o e
  have hlen : (assignEach (nameEs xs) env).length = vals.toArray.size := by rw [each_names]; simp [hl]
  have hstar : (assignEach (nameEs xs) env).findIdx? (·.1) = none := by rw [each_names]; simp [List.findIdx?_eq_none_iff]
  rcases hu with ht | hli
  · exact assign_Tuple_tuple hh ht hlen hstar go
  · rw [assign_Tuple]
    refine wpAny_bind (wpAny_standAt ?_)
    unfold unpack
    rw [hlen, hstar]
    exact wpAny_bind (wpAny_holding (kun_itemsOf hh hli go))
end

/-- what a comprehension's turn leaves -/
def CEnd (h₀ : Heap) (L : Addr) (m : Str → Option Value) (s₁ : Shared) (I : Addr) (oI : Obj) (C : Addr) (oC : Obj) (D : Addr) (oD : Obj) (J : List (Addr × Obj) → Prop) (s₂ : Shared) : Prop :=
  ∃ h' tk' nx', s₂ = { s₁ with heap := h', toks := tk' } ∧ Fr h₀ L h' m ∧ News h₀ L h' ((I, oI) :: (C, oC) :: (D, oD) :: nx') ∧ Off3 I C D nx' ∧ J nx'
def CTurn (prog : Program) (w : World) (A : Around) (h₀ : Heap) (L : Addr) (m : Str → Option Value) (env : Env) (elt : Expr) (names : List Str) (scope : Scope) (cl : List (Str × Addr)) (s₁ : Shared) (J : List Value → List (Addr × Obj) → Prop) (v : Value) (ys : List Value) (nx : List (Addr × Obj)) : Prop :=
  ∃ vals, names.length = vals.length ∧ (∀ h, (∀ b o, h₀.get? b = some o → h.get? b = some o) → News h₀ L h nx → Unp h v vals) ∧
    ∀ I oI C oC D m₂ h tk E', IsIt oI → NsObj oC m₂ → (∀ z u, (names.zip vals).reverse.lookup z = some u → m₂ z = some u) → Fr h₀ L h m → News h₀ L h ((I, oI) :: (C, oC) :: (D, lst ys) :: nx) → Off3 I C D nx → ((@Ne Nat I C) ∧ (@Ne Nat I D) ∧ (@Ne Nat C D)) →
      wpAny (model prog w) A (eval elt (compEnvC scope cl C env)) (fun y s' => CEnd h₀ L m s₁ I oI C oC D (lst ys) (J (ys ++ [y])) s') E' { s₁ with heap := h, toks := tk }
def CSrc (prog : Program) (w : World) (A : Around) (h₀ : Heap) (L : Addr) (m : Str → Option Value) (env : Env) (elt : Expr) (names : List Str) (scope : Scope) (cl : List (Str × Addr)) (Q : Value → Shared → Prop) (xv : Value) (s₁ : Shared) : Prop :=
  ∃ (ax : Addr) (its : List Value) (news : List (Addr × Obj)) (J : Nat → List Value → List (Addr × Obj) → Prop), xv = .ref ax ∧ Fr h₀ L s₁.heap m ∧ News h₀ L s₁.heap news ∧ its.length ≤ sizeLine ∧ J 0 [] news ∧
    (∀ i ys nx h, J i ys nx → (∀ b o, h₀.get? b = some o → h.get? b = some o) → News h₀ L h nx → h.IsList ax its.toArray) ∧
    (∀ i v ys nx, its[i]? = some v → J i ys nx → CTurn prog w A h₀ L m env elt names scope cl s₁ (J (i + 1)) v ys nx) ∧
    ∀ ys nx D h tk, J its.length ys nx → Fr h₀ L h m → News h₀ L h ((D, lst ys) :: nx) → (∀ p ∈ nx, p.1 ≠ D) → Q (.ref D) { s₁ with heap := h, toks := tk }
theorem add_lt {i k n : Nat} (h : i + (k + 1) = n) : i < n := by omega
theorem add_eq {i k n : Nat} (h : i + (k + 1) = n) : i + 1 + k = n := by omega
theorem lt_step {n i : Nat} (h : i < n) : n + 1 - (i + 1) < n + 1 - i := Nat.sub_lt_sub_left (Nat.lt_succ_of_lt h) (Nat.lt_succ_self i)
theorem lt_of_some {α : Type} {l : List α} {i : Nat} {v : α} (h : l[i]? = some v) : i < l.length := (List.getElem?_eq_some_iff.mp h).1
inductive CmpSt (h₀ : Heap) (L : Addr) (m : Str → Option Value) (s₁ : Shared) (ax I : Addr) (its : List Value) (J : Nat → List Value → List (Addr × Obj) → Prop) (r : Nat) (s' : Shared) : Prop
  | mk (h' : Heap) (tk i : Nat) (ys : List Value) (m' : Str → Option Value) (nx : List (Addr × Obj)) (_ : s' = { s₁ with heap := h', toks := tk }) (_ : i ≤ its.length) (_ : r = its.length + 1 - i) (_ : ys.length = i) (_ : h'.IsListIter I ax i) (_ : Fr h₀ L h' m) (_ : h'.Ns (I + 2) m') (_ : News h₀ L h' ((I + 1, lst ys) :: nx)) (_ : Off3 I (I + 2) (I + 1) nx) (_ : J i ys nx) : CmpSt h₀ L m s₁ ax I its J r s'
section
variable {prog : Program} {w : World} {A : Around} {E : Value → Shared → Prop} {s : Shared} {h₀ : Heap} {L : Addr} {m : Str → Option Value} {env : Env}
theorem comp_block {elt iter : Expr} {xs : List (Str × Pos)} {k} {tp : Pos} {scope : Scope} {cl : List (Str × Addr)} {pos : Pos} {RR : Value → Addr → Result → Shared → Prop} {s₁ : Shared} {ax : Addr} {its : List Value} {news : List (Addr × Obj)} {J : Nat → List Value → List (Addr × Obj) → Prop} (hh : A.handled = none)
    (hcell : ∀ y ∈ scope.names, y.2 ≠ .cell) (hkind : scope.kind = .function) (hxs : ∀ x ∈ xs, scope.names.lookup x.1 = some .local)
    (F : Fr h₀ L s₁.heap m) (N : News h₀ L s₁.heap news) (hsz : its.length ≤ sizeLine) (hj : J 0 [] news)
    (hsrc : ∀ i ys nx h, J i ys nx → (∀ b o, h₀.get? b = some o → h.get? b = some o) → News h₀ L h nx → h.IsList ax its.toArray)
    (turn : ∀ i v ys nx, its[i]? = some v → J i ys nx → CTurn prog w A h₀ L m env elt (xs.map (·.1)) scope cl s₁ (J (i + 1)) v ys nx)
    (done : ∀ ys nx D C m' h tk, J its.length ys nx → Fr h₀ L h m → News h₀ L h ((D, lst ys) :: nx) → (∀ p ∈ nx, p.1 ≠ D) → h.Ns C m' → h₀.get? C = none → C ≠ L → (∀ p ∈ (D, lst ys) :: nx, p.1 ≠ C) → RR (.ref D) C (.ok .next) { s₁ with heap := h, toks := tk }) :
    wpAny (model prog w) A (pyIter (.ref ax)) (fun it s₂ => wpAny (model prog w) A (newList []) (fun acc s₃ => wpAny (model prog w) A (newFunctionEnv scope env.globals cl [] env.qual none .none (some env)) (fun cenv s₄ =>
      codeAny (model prog w) A (.compStart (.ListComp elt [⟨.Tuple (nameEs xs) k tp, iter, [], 0⟩] scope pos) 0 it acc { cenv with scope := relabel scope env }) (RR acc cenv.locals) s₄) E s₃) E s₂) E s₁ := by
  have hl := hsrc _ _ _ _ hj F.keep N
  have hax : ax < s₁.heap.objs.size := by obtain ⟨_, e, _⟩ := hl; exact Heap.lt_size e
  refine wpAny_pyIter_list hl ?_
  -- the iterator I, the new list D, the block's names C
  generalize hI : s₁.heap.objs.size = I
  generalize hH1 : s₁.heap.push { cls := .type "list_iterator", data := .fields #[.ref ax, .int 0 0] } = H1
  have hI1 : H1.objs.size = I + 1 := by rw [← hH1, Heap.size_push, hI]
  refine wpAny_newObj_type (wpAny_newFunctionEnv hcell (by intro y hy; simp at hy) (fun h₂ hns hsb => ?_) hkind)
  dsimp only at hns hsb ⊢
  generalize hH2 : H1.push { cls := .type "list", dict := none, data := .seq ([] : List Value).toArray } = H2 at hns hsb ⊢
  have hC : H2.objs.size = I + 2 := by rw [← hH2, Heap.size_push, hI1]
  rw [hC] at hns hsb
  simp only [hI1, hC]
  have up1 : ∀ b o, s₁.heap.get? b = some o → H1.get? b = some o := fun b o e => hH1 ▸ Heap.get?_push_of_some _ e
  have up2 : ∀ b o, H1.get? b = some o → H2.get? b = some o := fun b o e => hH2 ▸ Heap.get?_push_of_some _ e
  have up3 : ∀ b o, H2.get? b = some o → h₂.get? b = some o := fun b o e => hsb.extBut b o (by have := Heap.lt_size e; rw [hC] at this; exact Nat.ne_of_lt this) (Heap.get?_push_of_some _ e)
  have up : ∀ b o, s₁.heap.get? b = some o → h₂.get? b = some o := fun b o e => up3 b o (up2 b o (up1 b o e))
  have lt1 : ∀ b o, s₁.heap.get? b = some o → b < I := fun b o e => hI ▸ Heap.lt_size e
  have new0 : ∀ a, I ≤ a → h₀.get? a = none := fun a ha => by
    cases e : h₀.get? a with
    | none => rfl
    | some o => exact absurd (lt1 a o (F.keep a o e)) (Nat.not_lt.mpr ha)
  have hL : L < I := hI ▸ F.ns.lt
  have lt2 : ∀ n : Nat, L < I + n := fun n => Nat.lt_of_lt_of_le hL (Nat.le_add_right _ _)
  have hL2 : L ≠ I + 2 := Nat.ne_of_lt (lt2 2)
  have hI2 : I ≠ I + 2 := Nat.ne_of_lt (Nat.lt_add_of_pos_right (by decide))
  have hI1' : I ≠ I + 1 := Nat.ne_of_lt (Nat.lt_succ_self _)
  have hD2 : I + 1 ≠ I + 2 := Nat.ne_of_lt (Nat.lt_succ_self _)
  have gI : h₂.IsListIter I ax 0 := by
    refine ⟨{ cls := .type "list_iterator", data := .fields #[.ref ax, .int 0 0] }, up3 _ _ (up2 _ _ ?_), rfl, rfl⟩
    rw [← hH1, ← hI]; exact Heap.get?_push_size _ rfl
  have gD : h₂.get? (I + 1) = some (lst []) := up3 _ _ (by rw [← hH2, ← hI1]; exact Heap.get?_push_size _ rfl)
  have loop : ∀ s₃ : Shared, s₃ = { s₁ with heap := h₂, toks := s₁.toks + ([] : List (Str × Value)).length } →
      codeAny (model prog w) A (.compLoop (.ListComp elt [⟨.Tuple (nameEs xs) k tp, iter, [], 0⟩] scope pos) 0 (.ref I) (.ref (I + 1)) (compEnvC scope cl (I + 2) env))
        (RR (.ref (I + 1)) (I + 2)) s₃ := by
    rintro s₃ rfl
    refine LCp.codeAny_compLoop_pair
      (CmpSt h₀ L m s₁ ax I its J) ?_ (its.length + 1)
      ⟨h₂, _, 0, [], _, news, rfl, Nat.zero_le _, rfl, rfl, gI, F.keeps up, hns, fun p hp => ?_, Off3.of fun p hp => ?_, hj⟩
    · intro r s' hst
      refine abs_goal fun PP kPP => ?_
      obtain ⟨h', tk, i, ys, m', nx, rfl, hi, rfl, hyl, hit, F', hn', N', off', hJ⟩ := hst
      refine kPP ?_
      clear kPP
      have off := off'.mem
      have Nn : News h₀ L h' nx := fun p hp => N' p (.tail _ hp)
      have hl' := hsrc _ _ _ _ hJ F'.keep Nn
      by_cases hlt : i < its.length
      · have hx : its[i]? = some its[i] := by simp [hlt]
        obtain ⟨vals, hlen, hunp, go⟩ := turn i _ ys nx hx hJ
        refine wpAny_pyNext_list_item hit hl' (x := its[i]) (by simp [hlt]) fun h₃ hit₃ hs₃ => ?_
        have k3 : ∀ b o, b ≠ I → h'.get? b = some o → h₃.get? b = some o := fun b o hb e => hs₃.extBut b o hb e
        have F₃ : Fr h₀ L h₃ m := F'.change hs₃ (Nat.ne_of_gt hL) (new0 _ (Nat.le_refl _))
        have N₃ : News h₀ L h₃ ((I + 1, lst ys) :: nx) := fun p hp => ⟨k3 _ _ (by
          rcases List.mem_cons.mp hp with rfl | hp
          · exact Nat.succ_ne_self I
          · exact (off p hp).1) (N' p hp).1, (N' p hp).2⟩
        obtain ⟨a, ha, hu⟩ := hunp h₃ F₃.keep fun p hp => N₃ p (.tail _ hp)
        rw [ha]
        refine wpAny_letOwnedTupleGo_listiter hit₃ ?_
        refine asg_tup (C := I + 2) hh rfl (by simp [compEnvC, relabel, hkind]) ⟨a, rfl, hu⟩ (by simpa using hlen) (fun x hx => lookup_relabel_local (hxs x hx)) (hn'.at' fun o e => k3 _ o (Ne.symm hI2) e) fun h₄ tk₄ k4 hn₄ => ?_
        obtain ⟨oI, eI, cI, dI⟩ := hit₃
        obtain ⟨oC, eC, hoC⟩ := ns_obj hn₄
        have F₄ : Fr h₀ L h₄ m := ⟨F₃.ns.at' fun o e => k4 _ o hL2 e, fun b o e => k4 b o (fun q => by rw [q, new0 _ (Nat.le_add_right _ _)] at e; cases e) (F₃.keep b o e), F₃.above⟩
        have hne : ∀ p ∈ (I + 1, lst ys) :: nx, p.1 ≠ I + 2 := fun p hp => by
          rcases List.mem_cons.mp hp with rfl | hp
          · exact Nat.ne_of_lt (Nat.lt_succ_self _)
          · exact (off p hp).2.1
        have N₄ : News h₀ L h₄ ((I, oI) :: (I + 2, oC) :: (I + 1, lst ys) :: nx) := fun p hp => by
          rcases List.mem_cons.mp hp with rfl | hp
          · exact ⟨k4 _ _ hI2 eI, (Nat.ne_of_gt hL), new0 _ (Nat.le_refl _)⟩
          · rcases List.mem_cons.mp hp with rfl | hp
            · exact ⟨eC, Nat.ne_of_gt (lt2 _), new0 _ (Nat.le_add_right _ _)⟩
            · exact ⟨k4 _ _ (hne p hp) (N₃ p hp).1, (N₃ p hp).2⟩
        refine wpAny_mono (go I oI (I + 2) oC (I + 1) _ h₄ _ _ (.inl cI) hoC (fun z u hz => by rw [hz]; rfl) F₄ N₄ off' ⟨hI2, hI1', Ne.symm hD2⟩) (fun y s₄ h₄ => ?_) fun _ _ e => e
        refine abs_goal fun PP kPP => ?_
        obtain ⟨h₅, tk₅, nx', rfl, F₅, N₅, off₅, hJ₅⟩ := h₄
        refine kPP ?_
        clear kPP
        have off5 := off₅.mem
        have zI := (N₅ (I, oI) (.head _)).1
        have zC := (N₅ (I + 2, oC) (.tail _ (.head _))).1
        have zD := (N₅ (I + 1, lst ys) (.tail _ (.tail _ (.head _)))).1
        refine append_at (hsz := by show ys.toArray.size ≤ sizeLine; rw [List.size_toArray, hyl]; exact Nat.le_trans hi hsz) zD fun h₆ hs₆ hD₆ => ?_
        refine ⟨its.length + 1 - (i + 1), lt_step hlt, h₆, tk₅, i + 1, ys ++ [y], _, nx', rfl, hlt, rfl, by rw [List.length_append, List.length_singleton, hyl], ⟨oI, hs₆.extBut _ _ hI1' zI, cI, dI⟩,
          F₅.change hs₆ (Nat.ne_of_gt (lt2 _)) (new0 _ (Nat.le_add_right _ _)), (hoC.ns zC).sameBut hs₆ (Ne.symm hD2), fun p hp => ?_, off₅, hJ₅⟩
        rcases List.mem_cons.mp hp with rfl | hp
        · exact ⟨hD₆.trans (congrArg some (lst_snoc ys y)), (N₅ _ (.tail _ (.tail _ (.head _)))).2⟩
        · exact ⟨hs₆.extBut _ _ (off5 p hp).2.2 (N₅ p (.tail _ (.tail _ (.tail _ hp)))).1, (N₅ p (.tail _ (.tail _ (.tail _ hp)))).2⟩
      · obtain rfl : i = its.length := Nat.le_antisymm hi (Nat.not_lt.mp hlt)
        refine wpAny_pyNext_list_end hh hit hl' (by simp) fun h₃ he₃ => ?_
        have k3 : ∀ b o, b ≠ I → h'.get? b = some o → h₃.get? b = some o := fun b o hb e => he₃ b o hb e
        refine done ys nx (I + 1) (I + 2) m' h₃ tk hJ ⟨F'.ns.at' fun o e => k3 _ o (Nat.ne_of_lt hL) e, fun b o e => k3 b o (fun q => by rw [q, new0 _ (Nat.le_refl _)] at e; cases e) (F'.keep b o e), F'.above⟩ (fun p hp => ⟨?_, (N' p hp).2⟩) (fun p hp => (off p hp).2.2) (hn'.at' fun o e => k3 _ o (Ne.symm hI2) e) (new0 _ (Nat.le_add_right _ _)) (Ne.symm hL2) fun p hp => ?_
        · rcases List.mem_cons.mp hp with rfl | hp
          · exact k3 _ _ (Nat.succ_ne_self I) (N' _ (.head _)).1
          · exact k3 _ _ (off p hp).1 (N' p (.tail _ hp)).1
        · rcases List.mem_cons.mp hp with rfl | hp
          · exact hD2
          · exact (off p hp).2.1
    · rcases List.mem_cons.mp hp with rfl | hp
      · exact ⟨gD, Nat.ne_of_gt (lt2 _), new0 _ (Nat.le_add_right _ _)⟩
      · exact ⟨up _ _ (N p hp).1, (N p hp).2⟩
    · have := lt1 _ _ (N p hp).1
      exact ⟨Nat.ne_of_lt this, Nat.ne_of_lt (Nat.lt_of_lt_of_le this (Nat.le_add_right _ _)), Nat.ne_of_lt (Nat.lt_of_lt_of_le this (Nat.le_add_right _ _))⟩
  exact codeAny_compStart_list (loop _ rfl) (wpAny_pyIter_listiter gI (loop _ rfl))

theorem after_C {h h'' : Heap} {C D : Addr} {ys : List Value} {nx : List (Addr × Obj)} (F : Fr h₀ L h m) (N : News h₀ L h ((D, lst ys) :: nx)) (hC₀ : h₀.get? C = none) (hCL : C ≠ L) (hne : ∀ p ∈ (D, lst ys) :: nx, p.1 ≠ C) (hs : Heap.SameBut C h h'') :
    Fr h₀ L h'' m ∧ News h₀ L h'' ((D, lst ys) :: nx) := ⟨F.change hs hCL hC₀, fun p hp => ⟨hs.extBut _ _ (hne p hp) (N p hp).1, (N p hp).2⟩⟩

theorem compG {elt iter : Expr} {xs : List (Str × Pos)} {k} {tp : Pos} {scope : Scope} {cl : List (Str × Addr)} {pos : Pos} {Q : Value → Shared → Prop} (_F₀ : Fr h₀ L s.heap m) (hh : A.handled = none)
    (hclos : closureFor scope env = pure cl) (hcell : ∀ y ∈ scope.names, y.2 ≠ .cell) (hkind : scope.kind = .function)
    (hnames : ∀ y ∈ scope.names, y.2 = .local → scope.names.lookup y.1 = some .local) (hxs : ∀ x ∈ xs, scope.names.lookup x.1 = some .local)
    (h : wpAny (model prog w) A (eval iter env) (CSrc prog w A h₀ L m env elt (xs.map (·.1)) scope cl Q) E s)
    (hs : ∀ x, foldedSetIterable iter env x = pure x := by intro _; rfl) :
    wpAny (model prog w) A (eval (.ListComp elt [⟨.Tuple (nameEs xs) k tp, iter, [], 0⟩] scope pos) env) Q E s := by
  rw [eval_ListComp]
  refine wpAny_comprehension_free (use := none) rfl hs hclos hkind hnames (wpAny_mono h (fun xv s₁ h₁ => ?_) fun _ _ e => e)
  obtain ⟨ax, its, news, J, rfl, F, N, hsz, hj, hsrc, turn, done⟩ := h₁
  refine comp_block hh hcell hkind hxs F N hsz hj hsrc turn fun ys nx D C m' h tk hJ F' N' hne hn hC₀ hCL hneC => ?_
  refine ⟨m', hn, fun h'' hs'' => ?_⟩
  obtain ⟨F₂, N₂⟩ := after_C F' N' hC₀ hCL hneC hs''
  exact done ys nx D h'' tk hJ F₂ N₂ hne

/-- the same where a name takes it at once -/
def CSrcA (prog : Program) (w : World) (A : Around) (h₀ : Heap) (L : Addr) (m : Str → Option Value) (env : Env) (elt : Expr) (names : List Str) (scope : Scope) (cl : List (Str × Addr)) (y : Str) (Q : Flow → Shared → Prop) (xv : Value) (s₁ : Shared) : Prop :=
  ∃ (ax : Addr) (its : List Value) (news : List (Addr × Obj)) (J : Nat → List Value → List (Addr × Obj) → Prop), xv = .ref ax ∧ Fr h₀ L s₁.heap m ∧ News h₀ L s₁.heap news ∧ its.length ≤ sizeLine ∧ J 0 [] news ∧
    (∀ i ys nx h, J i ys nx → (∀ b o, h₀.get? b = some o → h.get? b = some o) → News h₀ L h nx → h.IsList ax its.toArray) ∧
    (∀ i v ys nx, its[i]? = some v → J i ys nx → CTurn prog w A h₀ L m env elt names scope cl s₁ (J (i + 1)) v ys nx) ∧
    ∀ ys nx D h tk, J its.length ys nx → Fr h₀ L h (fun z => if z = y then some (.ref D) else m z) → News h₀ L h ((D, lst ys) :: nx) → (∀ p ∈ nx, p.1 ≠ D) → Q .next { s₁ with heap := h, toks := tk }
theorem compA {elt iter : Expr} {xs : List (Str × Pos)} {y : Str} {py : Pos} {k} {tp : Pos} {scope : Scope} {cl : List (Str × Addr)} {pos spos : Pos} {Q : Flow → Shared → Prop} (_F₀ : Fr h₀ L s.heap m) (hh : A.handled = none) (hLe : env.locals = L)
    (hsw : swapsWith (.ListComp elt [⟨.Tuple (nameEs xs) k tp, iter, [], 0⟩] scope pos) (some (.Name y py)) spos.line env = pure true)
    (hclos : closureFor scope env = pure cl) (hcell : ∀ y ∈ scope.names, y.2 ≠ .cell) (hkind : scope.kind = .function)
    (hnames : ∀ y ∈ scope.names, y.2 = .local → scope.names.lookup y.1 = some .local) (hxs : ∀ x ∈ xs, scope.names.lookup x.1 = some .local)
    (hy : env.kindOf y = some .local) (hp : (env.scope.kind == .class || (env.scope.kind == .module && env.locals != env.globals)) = false)
    (h : wpAny (model prog w) A (eval iter env) (CSrcA prog w A h₀ L m env elt (xs.map (·.1)) scope cl y Q) E s)
    (hs : ∀ x, foldedSetIterable iter env x = pure x := by intro _; rfl) :
    wpAny (model prog w) A (exec (.Assign [.Name y py] (.ListComp elt [⟨.Tuple (nameEs xs) k tp, iter, [], 0⟩] scope pos) spos) env) Q E s := by
  subst hLe
  rw [exec_Assign_Name_used _ _ _ _ hsw]
  refine wpAny_bind (wpAny_standAt (wpAny_bind ?_))
  show wpAny _ A (do let _ ← comprehension (.ListComp elt [⟨.Tuple (nameEs xs) k tp, iter, [], 0⟩] scope pos) scope env _ (newList []) false (eval iter env) (some (assign (.Name y py) env))) _ _ s
  refine wpAny_bind (wpAny_mono (wpAny_comprehension_free (use := some (assign (.Name y py) env)) (Q := fun _ s' => Q .next s') rfl hs hclos hkind hnames
    (wpAny_mono h (fun xv s₁ h₁ => ?_) fun _ _ e => e)) (fun _ s' hq => wpAny_pure (wpAny_pure hq)) fun _ _ e => e)
  obtain ⟨ax, its, news, J, rfl, F, N, hsz, hj, hsrc, turn, done⟩ := h₁
  refine comp_block hh hcell hkind hxs F N hsz hj hsrc turn fun ys nx D C m' h tk hJ F' N' hne hn hC₀ hCL hneC => ?_
  refine wpAny_assign_Name (wpAny_storeName_local hy F'.ns (fun h₂ hn₂ hs₂ => ?_) hp)
  refine ⟨m', hn.sameBut hs₂ hCL, fun h'' hs'' => ?_⟩
  obtain ⟨F₂, N₂⟩ := after_C (F'.set hn₂ hs₂) (N'.set hs₂) hC₀ hCL hneC hs''
  exact done ys nx D h'' _ hJ F₂ N₂ hne
end

section
variable {prog : Program} {w : World} {A : Around} {s : Shared} {h₀ : Heap} {L : Addr} {m : Str → Option Value} {env : Env} {elt ct : Expr} {x : Str} {scope : Scope} {cl : List (Str × Addr)} {S : List (Addr × Obj) → Prop} {P : Nat → Value → Prop} {Fin : List Value → List (Addr × Obj) → Prop}
theorem cend_mono {s₁ s₂ : Shared} {I C D : Addr} {oI oC oD : Obj} {r r' : Value → List (Addr × Obj) → Prop} {y : Value} (h : CompEnd h₀ L m s₁ I oI C oC D oD S r y s₂) (k : ∀ nx, r y nx → r' y nx) : CompEnd h₀ L m s₁ I oI C oC D oD S r' y s₂ := by
  refine abs_goal fun PP kPP => ?_
  obtain ⟨h', tk, nx, e, F, N, o, hS, hr⟩ := h
  exact kPP ⟨h', tk, nx, e, F, N, o, hS, k nx hr⟩
/-- a comprehension by an invariant -/
theorem restU {n : Nat} (J : Nat → List Value → List (Addr × Obj) → Prop)
    (turn : ∀ i ys nx v I oI C oC D m₂ h tk (E' : Value → Shared → Prop), i < n → P i v → J i ys nx → NsObj oC m₂ → m₂ x = some v → Fr h₀ L h m → News h₀ L h ((I, oI) :: (C, oC) :: (D, lst ys) :: nx) → Off3 I C D nx → ((@Ne Nat I C) ∧ (@Ne Nat I D) ∧ (@Ne Nat C D)) →
      wpAny (model prog w) A (eval elt (compEnvC scope cl C env)) (CompEnd h₀ L m { s with heap := h, toks := tk } I oI C oC D (lst ys) S fun y nx' => J (i + 1) (ys ++ [y]) nx') E' { s with heap := h, toks := tk })
    (fin : ∀ ys nx, J n ys nx → Fin ys nx) : ∀ k i ys nx, i + k = n → J i ys nx → CompRest prog w A h₀ L m env elt x scope cl s S P Fin k i ys nx := by
  intro k
  induction k with
  | zero => intro i ys nx hi hj; exact CompRest.zero (fin ys nx (by rw [← hi]; exact hj))
  | succ k ih =>
    intro i ys nx hi hj
    refine CompRest.succ fun v I oI C oC D m₂ h tk E' hP hC hx F N off ne => ?_
    refine wpAny_mono (turn i ys nx v I oI C oC D m₂ h tk E' (add_lt hi) hP hj hC hx F N off ne) (fun y s' e => cend_mono e fun nx' hj' => ih (i + 1) _ nx' (add_eq hi) hj') fun _ _ e => e
theorem restT {n : Nat} (J : Nat → List Value → List (Addr × Obj) → Prop)
    (turn : ∀ i ys nx v I oI C oC D m₂ h tk (E' : Value → Shared → Prop), i < n → P i v → J i ys nx → NsObj oC m₂ → m₂ x = some v → Fr h₀ L h m → News h₀ L h ((I, oI) :: (C, oC) :: (D, lst ys) :: nx) → Off3 I C D nx → ((@Ne Nat I C) ∧ (@Ne Nat I D) ∧ (@Ne Nat C D)) →
      wpAny (model prog w) A (isTrue ct (compEnvC scope cl C env) (eval ct (compEnvC scope cl C env))) (fun ok s' => if ok = true then
        wpAny (model prog w) A (eval elt (compEnvC scope cl C env)) (CompEnd h₀ L m { s with heap := h, toks := tk } I oI C oC D (lst ys) S fun y nx' => J (i + 1) (ys ++ [y]) nx') E' s'
        else CompEnd h₀ L m { s with heap := h, toks := tk } I oI C oC D (lst ys) S (fun _ nx' => J (i + 1) ys nx') Value.none s') E' { s with heap := h, toks := tk })
    (fin : ∀ ys nx, J n ys nx → Fin ys nx) : ∀ k i ys nx, i + k = n → J i ys nx → LCt.CompRestT prog w A h₀ L m env ct elt x scope cl s S P Fin k i ys nx := by
  intro k
  induction k with
  | zero => intro i ys nx hi hj; exact LCt.CompRestT.zero (fin ys nx (by rw [← hi]; exact hj))
  | succ k ih =>
    intro i ys nx hi hj
    refine LCt.CompRestT.succ fun v I oI C oC D m₂ h tk E' hP hC hx F N off ne => ?_
    refine wpAny_mono (turn i ys nx v I oI C oC D m₂ h tk E' (add_lt hi) hP hj hC hx F N off ne) (fun ok s' e => ?_) fun _ _ e => e
    split at e
    · rename_i ho
      rw [if_pos ho]
      exact wpAny_mono e (fun y s'' e => cend_mono e fun nx' hj' => ih (i + 1) _ nx' (add_eq hi) hj') fun _ _ e => e
    · rename_i ho
      rw [if_neg ho]
      exact cend_mono e fun nx' hj' => ih (i + 1) _ nx' (add_eq hi) hj'
end
end Mine
end
section
open PySem PySem.Spec PySem.Calls PySem.W PyProof.Rows PySem.Flt
set_option maxRecDepth 100000
namespace Mine
section
variable {prog : Program} {w : World} {A : Around} {E : Value → Shared → Prop} {s : Shared} {Q : Value → Shared → Prop} {a b c : Value}
theorem max3_num (hh : A.handled = none) (ha : NumV a) (hb : NumV b) (hc : NumV c)
    (h : ∀ h' tk, (∀ c o, s.heap.get? c = some o → h'.get? c = some o) → Q (if ltV a b then (if ltV b c then c else b) else (if ltV a c then c else a)) { s with heap := h', toks := tk }) :
    wpAny (model prog w) A (call (.builtin "max") [a, b, c]) Q E s := by
  have hT : (s.heap.push { cls := .type "tuple", data := .seq #[a, b, c] }).IsTuple s.heap.objs.size #[a, b, c] := ⟨_, Heap.get?_push_size _ rfl, rfl, 0, rfl⟩
  refine call_max_three (wpAny_pyIter_tuple hT ?_)
  have hsz : (s.heap.push { cls := .type "tuple", data := .seq #[a, b, c] }).objs.size = s.heap.objs.size + 1 := Heap.size_push ..
  refine ⟨_, [_, s.heap.objs.size], [_], _, _, _, _, rfl, Walks.tuple (A := A.in1) hh _ s.heap.objs.size (by rw [hsz]; exact Nat.ne_of_lt (Nat.lt_succ_self _)) #[a, b, c],
    ⟨⟨_, Heap.get?_push_size _ rfl, rfl, rfl⟩, hT.push _⟩, fun d hd => ?_, by simp, cmpOf_gt #[a, b, c] (by simp [ha, hb, hc]), fun v h' tk hP hk => ?_⟩
  · show d < ((s.heap.push _).push _).objs.size
    rw [Heap.size_push, hsz]
    rcases List.mem_cons.mp hd with rfl | hd
    · rw [hsz]; exact Nat.lt_succ_self _
    · rcases List.mem_cons.mp hd with rfl | hd
      · exact Nat.lt_succ_of_lt (Nat.lt_succ_self _)
      · cases hd
  · have hold : ∀ c o, s.heap.get? c = some o → h'.get? c = some o := fun c o e => by
      refine hk c o (fun hm => ?_) (Heap.get?_push_of_some _ (Heap.get?_push_of_some _ e))
      rcases List.mem_cons.mp hm with e1 | hm
      · have := Heap.lt_size e; rw [e1, hsz] at this; exact Nat.lt_irrefl _ (Nat.lt_of_succ_lt this)
      · cases hm
    have := h h' tk hold
    have hv : v = if ltV a b then (if ltV b c then c else b) else (if ltV a c then c else a) := by
      cases h1 : ltV a b <;> cases h2 : ltV b c <;> cases h3 : ltV a c <;> simp [argBest, h1, h2, h3] at hP <;> simp [hP]
    rw [hv]; exact this
theorem min3_num (hh : A.handled = none) (ha : NumV a) (hb : NumV b) (hc : NumV c)
    (h : ∀ h' tk, (∀ c o, s.heap.get? c = some o → h'.get? c = some o) → Q (if ltV b a then (if ltV c b then c else b) else (if ltV c a then c else a)) { s with heap := h', toks := tk }) :
    wpAny (model prog w) A (call (.builtin "min") [a, b, c]) Q E s := by
  have hT : (s.heap.push { cls := .type "tuple", data := .seq #[a, b, c] }).IsTuple s.heap.objs.size #[a, b, c] := ⟨_, Heap.get?_push_size _ rfl, rfl, 0, rfl⟩
  refine call_min_three (wpAny_pyIter_tuple hT ?_)
  have hsz : (s.heap.push { cls := .type "tuple", data := .seq #[a, b, c] }).objs.size = s.heap.objs.size + 1 := Heap.size_push ..
  refine ⟨_, [_, s.heap.objs.size], [_], _, _, _, _, rfl, Walks.tuple (A := A.in1) hh _ s.heap.objs.size (by rw [hsz]; exact Nat.ne_of_lt (Nat.lt_succ_self _)) #[a, b, c],
    ⟨⟨_, Heap.get?_push_size _ rfl, rfl, rfl⟩, hT.push _⟩, fun d hd => ?_, by simp, cmpOf_lt #[a, b, c] (by simp [ha, hb, hc]), fun v h' tk hP hk => ?_⟩
  · show d < ((s.heap.push _).push _).objs.size
    rw [Heap.size_push, hsz]
    rcases List.mem_cons.mp hd with rfl | hd
    · rw [hsz]; exact Nat.lt_succ_self _
    · rcases List.mem_cons.mp hd with rfl | hd
      · exact Nat.lt_succ_of_lt (Nat.lt_succ_self _)
      · cases hd
  · have hold : ∀ c o, s.heap.get? c = some o → h'.get? c = some o := fun c o e => by
      refine hk c o (fun hm => ?_) (Heap.get?_push_of_some _ (Heap.get?_push_of_some _ e))
      rcases List.mem_cons.mp hm with e1 | hm
      · have := Heap.lt_size e; rw [e1, hsz] at this; exact Nat.lt_irrefl _ (Nat.lt_of_succ_lt this)
      · cases hm
    have := h h' tk hold
    have hv : v = if ltV b a then (if ltV c b then c else b) else (if ltV c a then c else a) := by
      cases h1 : ltV b a <;> cases h2 : ltV c b <;> cases h3 : ltV c a <;> simp [argBest, h1, h2, h3] at hP <;> simp [hP]
    rw [hv]; exact this
end
def ltF (x y : UInt64) : Bool := Float64.cmp x y == some .lt
def max3 (x y z : UInt64) : UInt64 := if ltF x y then (if ltF y z then z else y) else (if ltF x z then z else x)
def min3 (x y z : UInt64) : UInt64 := if ltF y x then (if ltF z y then z else y) else (if ltF z x then z else x)
section
variable {prog : Program} {w : World} {A : Around} {E : Value → Shared → Prop} {s : Shared} {Q : Value → Shared → Prop} {x y z : UInt64} {t u v : Tok} {h₀ : Heap} {L : Addr} {m : Str → Option Value} {news : List (Addr × Obj)}
theorem max3_f (hh : A.handled = none) (F : Fr h₀ L s.heap m) (N : News h₀ L s.heap news)
    (h : ∀ h' tk v, Fr h₀ L h' m → News h₀ L h' news → Q (.float (max3 x y z) v) { s with heap := h', toks := tk }) :
    wpAny (model prog w) A (call (.builtin "max") [.float x t, .float y u, .float z v]) Q E s := by
  refine max3_num hh (.float x t) (.float y u) (.float z v) fun h' tk kp => ?_
  have e : ∃ tt, (if ltV (.float x t) (.float y u) then (if ltV (.float y u) (.float z v) then .float z v else .float y u) else (if ltV (.float x t) (.float z v) then .float z v else .float x t)) = Value.float (max3 x y z) tt := by
    show ∃ tt, (if ltF x y then (if ltF y z then Value.float z v else .float y u) else (if ltF x z then .float z v else .float x t)) = _
    unfold max3
    cases ltF x y <;> cases ltF y z <;> cases ltF x z <;> exact ⟨_, rfl⟩
  obtain ⟨tt, e⟩ := e
  rw [e]
  exact h h' tk tt (F.grownK kp) (N.grown kp)
theorem min3_f (hh : A.handled = none) (F : Fr h₀ L s.heap m) (N : News h₀ L s.heap news)
    (h : ∀ h' tk v, Fr h₀ L h' m → News h₀ L h' news → Q (.float (min3 x y z) v) { s with heap := h', toks := tk }) :
    wpAny (model prog w) A (call (.builtin "min") [.float x t, .float y u, .float z v]) Q E s := by
  refine min3_num hh (.float x t) (.float y u) (.float z v) fun h' tk kp => ?_
  have e : ∃ tt, (if ltV (.float y u) (.float x t) then (if ltV (.float z v) (.float y u) then .float z v else .float y u) else (if ltV (.float z v) (.float x t) then .float z v else .float x t)) = Value.float (min3 x y z) tt := by
    show ∃ tt, (if ltF y x then (if ltF z y then Value.float z v else .float y u) else (if ltF z x then .float z v else .float x t)) = _
    unfold min3
    cases ltF y x <;> cases ltF z y <;> cases ltF z x <;> exact ⟨_, rfl⟩
  obtain ⟨tt, e⟩ := e
  rw [e]
  exact h h' tk tt (F.grownK kp) (N.grown kp)
end
end Mine
end
section
open PySem PySem.Spec PySem.Calls PySem.W PyProof.Rows
set_option maxRecDepth 100000
namespace Mine
def setL (d : Addr) (o : Obj) (news : List (Addr × Obj)) : List (Addr × Obj) := news.map fun p => if p.1 = d then (d, o) else p
section
variable {prog : Program} {w : World} {A : Around} {E : Value → Shared → Prop} {s : Shared} {h₀ : Heap} {L d : Addr} {m : Str → Option Value} {news : List (Addr × Obj)} {vs : List Value} {n : Nat} {k x : Int} {t u : Tok}
theorem setrow {Q : Unit → Shared → Prop} (F : Fr h₀ L s.heap m) (N : News h₀ L s.heap news) (hm : (d, listOf vs.toArray n) ∈ news) (h0 : 0 ≤ k) (h1 : k < (vs.length : Int)) (hz : vs.length ≤ 1000)
    (h : ∀ h', Fr h₀ L h' m → News h₀ L h' (setL d (listOf (vs.set k.toNat (.int x u)).toArray n) news) → Q () { s with heap := h' }) :
    wpAny (model prog w) A (setItem (.ref d) (.int k t) (.int x u)) Q E s := by
  have z := N _ hm
  refine ki_setAt z.1 h0 (by omega) (by simpa using h1) (h _ (F.update N hm (Heap.SameBut.update ..)) (N.update hm (Heap.SameBut.update ..) ?_))
  have q := PySem.IsL.update z.1 (fun a : Array Value => a.setIfInBounds k.toNat (.int x u))
  have e : vs.toArray.setIfInBounds k.toNat (.int x u) = (vs.set k.toNat (.int x u)).toArray := by
    apply Array.toList_inj.mp
    simp
  rw [e] at q
  simpa using q
theorem ref_sub {value slice : Expr} {Q : Value → Shared → Prop} {as : List Addr} (N : News h₀ L s.heap news) (hm : (d, listOf (as.map Value.ref).toArray n) ∈ news) (h0 : 0 ≤ k) (hk : k < (as.length : Int)) (hn : as.length ≤ 1000) (h : Q (.ref (as.getD k.toNat 0)) s)
    (hs : subscripted slice false (.ref d) (.int k u) = operate [.ref d, .int k u] (getItem (.ref d) (.int k u)) := by with_unfolding_all rfl) :
    wpAny (model prog w) A (subscriptTail value slice (.ref d) (.int k u)) Q E s := by
  have hl : s.heap.IsList d (as.map Value.ref).toArray := ⟨_, (N _ hm).1, rfl, _, rfl⟩
  refine tail_any hl.typeIs slot_list_getitem.lookup (wpAny_getItem_list hl h0 (by omega) ?_ h) hs
  have hj : k.toNat < as.length := by omega
  simp [List.getD_eq_getElem?_getD, hj]
theorem tup3_sub {value slice : Expr} {Q : Value → Shared → Prop} {x y z : Value} (N : News h₀ L s.heap news) (hm : (d, ({ cls := .type "tuple", data := .seq #[x, y, z] } : Obj)) ∈ news) (h0 : 0 ≤ k) (hk : k < 3) (h : Q (if k = 0 then x else if k = 1 then y else z) s)
    (hs : subscripted slice false (.ref d) (.int k u) = operate [.ref d, .int k u] (getItem (.ref d) (.int k u)) := by with_unfolding_all rfl) :
    wpAny (model prog w) A (subscriptTail value slice (.ref d) (.int k u)) Q E s := by
  have hl : IsTup s.heap d [x, y, z].toArray := ⟨_, (N _ hm).1, rfl, _, rfl⟩
  have hk3 : k = 0 ∨ k = 1 ∨ k = 2 := by omega
  rcases hk3 with rfl | rfl | rfl
  · exact item_tupleT (j := 0) hl (by decide) (by decide) (by rfl) rfl h hs
  · exact item_tupleT (j := 1) hl (by decide) (by decide) (by rfl) rfl h hs
  · exact item_tupleT (j := 2) hl (by decide) (by decide) (by rfl) rfl h hs
theorem tup3_s0 {value slice : Expr} {Q : Value → Shared → Prop} {x y z : Value} (N : News h₀ L s.heap news) (hm : (d, ({ cls := .type "tuple", data := .seq #[x, y, z] } : Obj)) ∈ news) (hk : k = 0) (h : Q x s)
    (hs : subscripted slice false (.ref d) (.int k u) = operate [.ref d, .int k u] (getItem (.ref d) (.int k u)) := by with_unfolding_all rfl) :
    wpAny (model prog w) A (subscriptTail value slice (.ref d) (.int k u)) Q E s := by subst hk; exact tup3_sub N hm (by decide) (by decide) h hs
theorem tup3_s1 {value slice : Expr} {Q : Value → Shared → Prop} {x y z : Value} (N : News h₀ L s.heap news) (hm : (d, ({ cls := .type "tuple", data := .seq #[x, y, z] } : Obj)) ∈ news) (hk : k = 1) (h : Q y s)
    (hs : subscripted slice false (.ref d) (.int k u) = operate [.ref d, .int k u] (getItem (.ref d) (.int k u)) := by with_unfolding_all rfl) :
    wpAny (model prog w) A (subscriptTail value slice (.ref d) (.int k u)) Q E s := by subst hk; exact tup3_sub N hm (by decide) (by decide) h hs
theorem tup3_s2 {value slice : Expr} {Q : Value → Shared → Prop} {x y z : Value} (N : News h₀ L s.heap news) (hm : (d, ({ cls := .type "tuple", data := .seq #[x, y, z] } : Obj)) ∈ news) (hk : k = 2) (h : Q z s)
    (hs : subscripted slice false (.ref d) (.int k u) = operate [.ref d, .int k u] (getItem (.ref d) (.int k u)) := by with_unfolding_all rfl) :
    wpAny (model prog w) A (subscriptTail value slice (.ref d) (.int k u)) Q E s := by subst hk; exact tup3_sub N hm (by decide) (by decide) h hs
end
/-- the rows of a table, in the ledger -/
def TabIn (rs : List Addr) (M : List (List Int)) (cst : List (Addr × Obj)) : Prop := ∀ i, i < rs.length → ∃ vs n, (rs.getD i 0, listOf vs.toArray n) ∈ cst ∧ IntsAre vs (M.getD i [])
theorem nodup_getD {rs : List Addr} (h : rs.Nodup) {i j : Nat} (hi : i < rs.length) (hj : j < rs.length) (e : rs.getD i 0 = rs.getD j 0) : i = j := by
  rw [List.getD_eq_getElem?_getD, List.getD_eq_getElem?_getD, List.getElem?_eq_getElem hi, List.getElem?_eq_getElem hj] at e
  exact (List.getElem_inj h).mp e
theorem mem_setL {d : Addr} {o : Obj} {p : Addr × Obj} {cst : List (Addr × Obj)} (hm : p ∈ cst) (hne : p.1 ≠ d) : p ∈ setL d o cst := List.mem_map.mpr ⟨p, hm, if_neg hne⟩
theorem mem_setL_at {d : Addr} {o o' : Obj} {cst : List (Addr × Obj)} (hm : (d, o') ∈ cst) : (d, o) ∈ setL d o cst := List.mem_map.mpr ⟨_, hm, if_pos rfl⟩
theorem TabIn.set {rs : List Addr} {M : List (List Int)} {cst : List (Addr × Obj)} {i k : Nat} {vs : List Value} {n : Nat} {x : Int} {u : Tok} (h : TabIn rs M cst) (hnd : rs.Nodup) (hM : M.length = rs.length) (hi : i < rs.length) (hm : (rs.getD i 0, listOf vs.toArray n) ∈ cst) (hv : IntsAre vs (M.getD i [])) (o' : Nat) :
    TabIn rs (M.set i ((M.getD i []).set k x)) (setL (rs.getD i 0) (listOf (vs.set k (.int x u)).toArray o') cst) := fun j hj => by
  by_cases e : i = j
  · subst e
    refine ⟨_, _, mem_setL_at hm, ?_⟩
    rw [show (M.set i ((M.getD i []).set k x)).getD i [] = (M.getD i []).set k x from by simp [List.getD_eq_getElem?_getD, hM, hi]]
    exact ints_set hv _
  · obtain ⟨ws, n', hw, hi'⟩ := h j hj
    refine ⟨ws, n', mem_setL hw (fun e' => e (nodup_getD hnd hi hj e'.symm)), ?_⟩
    rw [show (M.set i ((M.getD i []).set k x)).getD j [] = M.getD j [] from by simp [List.getD_eq_getElem?_getD, List.getElem?_set_ne e]]
    exact hi'
end Mine
end
section
open PySem PySem.Builtin PySem.Builtin.Str PyProof.Rows PySem.W
set_option maxRecDepth 100000
namespace Mine
def tx (l : List Nat) : PySem.Str := ⟨l.toArray⟩
theorem tx_len (l : List Nat) : (tx l).length = l.length := by simp [tx, PySem.Str.length]
theorem tx_app (l m : List Nat) : tx l ++ tx m = tx (l ++ m) := by
  show PySem.Str.append (tx l) (tx m) = _
  simp [PySem.Str.append, tx]
/-- the places of a sign -/
def places (c : Nat) : Nat → List Nat → List Nat
  | _, [] => []
  | k, a :: l => if a = c then k :: places c (k + 1) l else places c (k + 1) l
theorem places_app (c : Nat) (l m : List Nat) : ∀ k, places c k (l ++ m) = places c k l ++ places c (k + l.length) m := by
  induction l with
  | nil => intro k; simp [places]
  | cons a l ih =>
    intro k
    simp only [List.cons_append, places, ih, List.length_cons]
    rw [show k + 1 + l.length = k + (l.length + 1) from by omega]
    split <;> rfl
theorem places_none {c : Nat} {l : List Nat} (h : c ∉ l) : ∀ k, places c k l = [] := by
  induction l with
  | nil => intro k; rfl
  | cons a l ih =>
    intro k
    simp only [List.mem_cons, not_or] at h
    rw [places, if_neg (Ne.symm h.1), ih h.2]
theorem subAt_one (l d : List Nat) (a c i : Nat) (e : l.drop i = a :: d) : subAt (tx l) (tx [c]) i = decide (a = c) := by
  show (l.toArray.extract i (i + 1) == [c].toArray) = _
  rw [show l.toArray.extract i (i + 1) = [a].toArray from by
    rw [List.extract_toArray, List.extract_eq_take_drop, e, show i + 1 - i = 1 from by omega]; rfl]
  rw [Bool.eq_iff_iff]; simp
theorem occ_go (l : List Nat) (c limit : Nat) : ∀ (d : List Nat) (i : Nat) (acc : Array Nat) (free : Nat), l.drop i = d → i + d.length = l.length → free ≤ i → acc.size ≤ limit →
    (forIn (List.range' i (d.length + 1)) (acc, free) (StrLaws.occBody (tx l) (tx [c]) l.length limit)).run.fst.toList = acc.toList ++ (places c i d).take (limit - acc.size) := by
  intro d
  induction d with
  | nil =>
    intro i acc free hd hi hf hs
    simp only [List.length_nil, Nat.zero_add, List.range'_succ, List.range'_zero, List.forIn_cons, List.forIn_nil]
    unfold StrLaws.occBody
    rw [if_neg (by rintro ⟨⟨_, h⟩, _⟩; rw [tx_len] at h; simp only [List.length_cons, List.length_nil] at h hi; omega)]
    simp [places]
  | cons a d ih =>
    intro i acc free hd hi hf hs
    have hd' : l.drop (i + 1) = d := by rw [← List.drop_drop, hd]; rfl
    have hi' : i + 1 + d.length = l.length := by simp only [List.length_cons] at hi; omega
    rw [List.length_cons, List.range'_succ, List.forIn_cons]
    unfold StrLaws.occBody
    have hle : i + (tx [c]).length ≤ l.length := by rw [tx_len]; simp only [List.length_cons, List.length_nil] at hi ⊢; omega
    by_cases hc : a = c
    · by_cases hl : acc.size < limit
      · rw [if_pos ⟨⟨⟨hl, hf⟩, hle⟩, by rw [subAt_one l d a c i hd]; simpa using hc⟩]
        have := ih (i + 1) (acc.push i) (i + (tx [c]).length) hd' hi' (by rw [tx_len]; simp) (by rw [Array.size_push]; omega)
        refine Eq.trans this ?_
        rw [places, if_pos hc, Array.size_push, Array.toList_push, List.append_assoc]
        congr 1
        rw [show limit - acc.size = (limit - (acc.size + 1)) + 1 from by omega]
        rfl
      · rw [if_neg (fun h => hl h.1.1.1)]
        have := ih (i + 1) acc free hd' hi' (by omega) hs
        refine Eq.trans this ?_
        rw [show limit - acc.size = 0 from by omega]; simp
    · rw [if_neg (fun h => by have := h.2; rw [subAt_one l d a c i hd] at this; exact hc (by simpa using this))]
      have := ih (i + 1) acc free hd' hi' (by omega) hs
      refine Eq.trans this ?_
      rw [places, if_neg hc]
theorem occ_places (l : List Nat) (c lo limit : Nat) (h : lo ≤ l.length) : occurrences (tx l) (tx [c]) lo (tx l).length limit = (places c lo (l.drop lo)).take limit := by
  rw [StrLaws.occ_eq, tx_len]
  have := occ_go l c limit (l.drop lo) lo #[] lo rfl (by rw [List.length_drop]; omega) (Nat.le_refl _) (Nat.zero_le _)
  rw [List.length_drop] at this
  rw [show l.length + 1 - lo = l.length - lo + 1 from by omega]
  refine Eq.trans this ?_
  simp
theorem tx_slice (l : List Nat) {a b : Nat} (hab : a ≤ b) (hb : b ≤ l.length) : Txt.slice (tx l) (some (a : Int)) (some (b : Int)) = tx ((l.drop a).take (b - a)) :=
  StrLaws.sliceText_nat (tx l) hab (by rw [tx_len]; exact hb)
theorem tx_slice_to (l : List Nat) {b : Nat} (hb : b ≤ l.length) : Txt.slice (tx l) none (some (b : Int)) = tx (l.take b) := by
  have := StrLaws.sliceText_to (x := tx l) (j := (b : Int)) ⟨by omega, by show (b : Int) ≤ (l.toArray.toList.length : Int); simpa using hb⟩
  refine Eq.trans this ?_
  rw [show (((b : Int) - 0).toNat) = b from by omega]; rfl
theorem tx_item (l : List Nat) {i a : Nat} (h : l[i]? = some a) : Txt.item (tx l) (i : Int) = tx [a] := by
  have hlt : i < l.length := (List.getElem?_eq_some_iff.mp h).1
  have : Txt.charAt (tx l) (i : Int) = some a := by
    refine StrLaws.at_nonneg (by omega) ?_
    show l.toArray[(i : Int).toNat]? = some a
    simpa using h
  show PySem.Str.mk #[(Txt.charAt (tx l) (i : Int)).getD 0] = _
  rw [this]; rfl
theorem tx_sub (l : List Nat) (i j : Nat) : strSub (tx l) i j = tx ((l.drop i).take (j - i)) := by
  show PySem.Str.mk (l.toArray.extract i j) = _
  rw [List.extract_toArray, List.extract_eq_take_drop]; rfl
theorem tx_kind {l : List Nat} (h : ∀ a ∈ l, a < 256) : PySem.Builtin.Str.strKind (tx l) = 1 := by
  unfold PySem.Builtin.Str.strKind
  rw [if_pos]
  simpa [tx] using h
theorem tx_pre : PySem.Str.ofString "229 tie (" = tx [50, 50, 57, 32, 116, 105, 101, 32, 40] := by rfl
theorem tx_close : PySem.Str.ofString ")" = tx [41] := by rfl
theorem tx_open : PySem.Str.ofString "(" = tx [40] := by rfl
theorem tx_229 : PySem.Str.ofString "229" = tx [50, 50, 57] := by rfl
theorem tx_mul2 (c : Nat) : Txt.mul (tx [c]) 2 = tx [c, c] := by rfl
theorem tx_mul3 (c : Nat) : Txt.mul (tx [c]) 3 = tx [c, c, c] := by rfl
theorem tx_num {x : Int} (h0 : 0 ≤ x) (h1 : x < 10 ^ 10) : ∃ ds : List Nat, PySem.Str.ofString (toString x) = tx ds ∧ ds.length ≤ 10 ∧ ∀ d ∈ ds, 48 ≤ d ∧ d ≤ 57 := by
  have hl := KT.len_num h0 h1
  obtain ⟨m, rfl⟩ := Int.eq_ofNat_of_zero_le h0
  refine ⟨(PySem.Str.ofString (toString ((m : Nat) : Int))).cps.toList, rfl, by simpa [PySem.Str.length] using hl, fun c hc => ?_⟩
  rw [KIN.signs_num] at hc
  obtain ⟨ch, hch, e⟩ := List.mem_map.mp hc
  have r := digit_range (Nat.isDigit_of_mem_toDigits (by decide) (by decide) hch)
  rw [← e]
  exact r
def reply (c : Nat) (j : Nat) (ds : List Nat) : List Nat := [50, 50, 57, 32, 116, 105, 101, 32, 40] ++ (List.replicate j c ++ (ds ++ [c, 41]))
section
variable {c j : Nat} {ds : List Nat}
theorem reply_len : (reply c j ds).length = 11 + j + ds.length := by simp [reply]; omega
theorem reply_find : Txt.find (tx (reply c j ds)) (PySem.Str.ofString "(") = 8 := by
  rw [tx_open]
  have e := occ_places (reply c j ds) 40 0 1 (Nat.zero_le _)
  unfold Txt.find
  rw [e, List.drop_zero, reply, places_app]
  rfl
theorem reply_find3 (h41 : 41 ∉ ds) (hc : c ≠ 41) : Txt.find3 (tx (reply c j ds)) (PySem.Str.ofString ")") 9 = ((10 + j + ds.length : Nat) : Int) := by
  rw [tx_close]
  have e := occ_places (reply c j ds) 41 9 1 (by rw [reply_len]; omega)
  have e9 : fromIndex (tx (reply c j ds)).length 9 = 9 := rfl
  unfold Txt.find3
  rw [e9, e]
  have : (reply c j ds).drop 9 = List.replicate j c ++ (ds ++ [c, 41]) := rfl
  rw [this, places_app, places_app, places_none (by rw [List.mem_replicate]; rintro ⟨_, h⟩; exact hc h.symm), places_none h41]
  simp only [List.nil_append, places, if_neg hc, List.length_replicate]
  show ((9 + j + ds.length + 1 : Nat) : Int) = _
  congr 1; omega
theorem reply_229 : Txt.slice (tx (reply c j ds)) none (some 3) = PySem.Str.ofString "229" := by
  rw [tx_229]
  exact tx_slice_to (reply c j ds) (b := 3) (by rw [reply_len]; omega)
theorem reply_i1 (hj : 1 ≤ j) : Txt.item (tx (reply c j ds)) 9 = tx [c] := by
  refine tx_item (reply c j ds) (i := 9) ?_
  obtain ⟨j', rfl⟩ := Nat.exists_eq_add_of_le hj
  rw [show 1 + j' = j' + 1 from by omega, reply, List.replicate_succ]
  rfl
theorem reply_i2 : Txt.item (tx (reply c j ds)) ((9 + j + ds.length : Nat) : Int) = tx [c] := by
  refine tx_item (reply c j ds) (i := 9 + j + ds.length) ?_
  rw [reply, List.getElem?_append_right (by simp; omega), List.getElem?_append_right (by simp; omega), List.getElem?_append_right (by simp; omega)]
  simp only [List.length_replicate, List.length_cons, List.length_nil]
  rw [show 9 + j + ds.length - (0 + 1 + 1 + 1 + 1 + 1 + 1 + 1 + 1 + 1) - j - ds.length = 0 from by omega]
  rfl
theorem reply_mid : Txt.slice (tx (reply c j ds)) (some 9) (some ((10 + j + ds.length : Nat) : Int)) = tx (List.replicate j c ++ (ds ++ [c])) := by
  have := tx_slice (reply c j ds) (a := 9) (b := 10 + j + ds.length) (by omega) (by rw [reply_len]; omega)
  refine Eq.trans this ?_
  have e : (reply c j ds).drop 9 = (List.replicate j c ++ (ds ++ [c])) ++ [41] := by rw [show (reply c j ds).drop 9 = List.replicate j c ++ (ds ++ [c, 41]) from rfl]; simp
  rw [e, List.take_append_of_le_length (by simp; omega), List.take_of_length_le (by simp; omega)]
theorem mid_places (hd : c ∉ ds) : places c 0 (List.replicate j c ++ (ds ++ [c])) = List.range j ++ [j + ds.length] := by
  have hr : ∀ j k, places c k (List.replicate j c) = List.range' k j := by
    intro j
    induction j with
    | zero => intro k; rfl
    | succ j ih => intro k; rw [List.replicate_succ, places, if_pos rfl, ih, List.range'_succ]
  rw [places_app, places_app, hr, places_none hd, List.range_eq_range']
  simp [places]
theorem mid_split (hd : c ∉ ds) (h256 : c < 256) (hd256 : ∀ d ∈ ds, d < 256) : Txt.split (tx (List.replicate j c ++ (ds ++ [c]))) (tx [c]) = partsBetween (tx (List.replicate j c ++ (ds ++ [c]))) (List.range j ++ [j + ds.length]) 1 := by
  unfold Txt.split
  have hl : (tx (List.replicate j c ++ (ds ++ [c]))).length = j + ds.length + 1 := by rw [tx_len]; simp; omega
  rw [tx_kind (l := List.replicate j c ++ (ds ++ [c])) (by
    intro a ha
    simp only [List.mem_append, List.mem_replicate, List.mem_singleton] at ha
    rcases ha with ⟨_, rfl⟩ | ha | rfl
    · exact h256
    · exact hd256 a ha
    · exact h256), tx_kind (l := [c]) (by intro a ha; rw [List.mem_singleton.mp ha]; exact h256), hl]
  have e := occ_places (List.replicate j c ++ (ds ++ [c])) c 0 (j + ds.length + 1 + 1) (Nat.zero_le _)
  rw [List.drop_zero, mid_places hd, hl, List.take_of_length_le (by simp; omega)] at e
  rw [e, tx_len, if_neg (by simp), if_neg (by simp)]
  rfl
theorem mid3 (hd : c ∉ ds) (h256 : c < 256) (hd256 : ∀ d ∈ ds, d < 256) : Txt.split (tx (List.replicate 3 c ++ (ds ++ [c]))) (tx [c]) = [tx [], tx [], tx [], tx ds, tx []] := by
  rw [mid_split hd h256 hd256]
  simp only [partsBetween, show List.range 3 = [0, 1, 2] from rfl, List.cons_append, List.nil_append, List.map_cons, List.map_nil, List.zip_cons_cons, List.zip_nil_right, tx_sub, tx_len]
  simp only [show ds.length + 3 - (3 + ds.length) = 0 from by omega, List.take_zero, List.replicate_succ, List.replicate_zero, List.cons_append, List.nil_append, List.drop_zero, List.drop_succ_cons, List.length_cons, List.length_append, List.length_nil, Nat.sub_self, Nat.zero_add, show 3 + ds.length - 3 = ds.length from by omega, List.take_left', List.take_left]
  rw [show ds.length + 1 + 1 + 1 + 1 - (3 + ds.length + 1) = 0 from by omega, List.take_zero]
theorem mid2 (hd : c ∉ ds) (h256 : c < 256) (hd256 : ∀ d ∈ ds, d < 256) : Txt.split (tx (List.replicate 2 c ++ (ds ++ [c]))) (tx [c]) = [tx [], tx [], tx ds, tx []] := by
  rw [mid_split hd h256 hd256]
  simp only [partsBetween, show List.range 2 = [0, 1] from rfl, List.cons_append, List.nil_append, List.map_cons, List.map_nil, List.zip_cons_cons, List.zip_nil_right, tx_sub, tx_len]
  simp only [List.take_zero, List.replicate_succ, List.replicate_zero, List.cons_append, List.nil_append, List.drop_zero, List.drop_succ_cons, List.length_cons, List.length_append, List.length_nil, Nat.sub_self, Nat.zero_add, show 2 + ds.length - 2 = ds.length from by omega, List.take_left', List.take_left]
  rw [show ds.length + 1 + 1 + 1 - (2 + ds.length + 1) = 0 from by omega, List.take_zero]
end
/-- what a reply's text answers -/
structure ReplyOk (R M T : PySem.Str) (r : Int) (parts : List PySem.Str) : Prop where
  len : R.length ≤ 100
  first : Txt.slice R none (some 3) = PySem.Str.ofString "229"
  left : Txt.find R (PySem.Str.ofString "(") = 8
  right : Txt.find3 R (PySem.Str.ofString ")") (8 + 1) = r
  lo : 11 ≤ r
  hi : r < (R.length : Int)
  one : Txt.item R (8 + 1) = M
  two : Txt.item R (r - 1) = M
  mid : Txt.slice R (some (8 + 1)) (some r) = T
  midlen : T.length ≤ 100
  cut : Txt.split T M = parts
theorem ok_of {c j : Nat} {x : Int} {parts : List PySem.Str} (h0 : 0 ≤ x) (h1 : x < 60000) (hc : (c < 48 ∨ 57 < c) ∧ c ≠ 41 ∧ c < 256) (hj : 1 ≤ j ∧ j ≤ 3) {B : PySem.Str} (hB : B = tx (List.replicate j c))
    (hp : ∀ ds, PySem.Str.ofString (toString x) = tx ds → c ∉ ds → (∀ d ∈ ds, d < 256) → Txt.split (tx (List.replicate j c ++ (ds ++ [c]))) (tx [c]) = parts) :
    ∃ R T r, R = PySem.Str.ofString "229 tie (" ++ B ++ PySem.Str.ofString (toString x) ++ tx [c] ++ PySem.Str.ofString ")" ∧ ReplyOk R (tx [c]) T r parts := by
  obtain ⟨ds, e, hl, hd⟩ := tx_num h0 (show x < 10 ^ 10 by omega)
  have hcd : c ∉ ds := fun h => by have := hd _ h; omega
  have h41 : 41 ∉ ds := fun h => by have := hd _ h; omega
  have h256 : ∀ d ∈ ds, d < 256 := fun d h => by have := hd _ h; omega
  refine ⟨_, tx (List.replicate j c ++ (ds ++ [c])), ((10 + j + ds.length : Nat) : Int), rfl, ?_⟩
  have eR : PySem.Str.ofString "229 tie (" ++ B ++ PySem.Str.ofString (toString x) ++ tx [c] ++ PySem.Str.ofString ")" = tx (reply c j ds) := by
    rw [e, tx_pre, tx_close, hB, tx_app, tx_app, tx_app, tx_app, reply]; simp
  rw [eR]
  refine ⟨by rw [tx_len, reply_len]; omega, reply_229, reply_find, reply_find3 h41 hc.2.1, by omega, by rw [tx_len, reply_len]; omega, reply_i1 hj.1, ?_, reply_mid, by rw [tx_len]; simp; omega, hp ds e hcd h256⟩
  rw [show ((10 + j + ds.length : Nat) : Int) - 1 = ((9 + j + ds.length : Nat) : Int) from by omega]
  exact reply_i2
theorem ok3 {M : PySem.Str} {c : Nat} {x : Int} (h0 : 0 ≤ x) (h1 : x < 60000) (hM : M = tx [c]) (hc : (c < 48 ∨ 57 < c) ∧ c ≠ 41 ∧ c < 256) :
    ∃ R T r, R = PySem.Str.ofString "229 tie (" ++ Txt.mul M 3 ++ PySem.Str.ofString (toString x) ++ M ++ PySem.Str.ofString ")" ∧ ReplyOk R (tx [c]) T r [tx [], tx [], tx [], PySem.Str.ofString (toString x), tx []] := by
  subst hM
  refine ok_of h0 h1 hc (j := 3) (by decide) (tx_mul3 c) fun ds e hd h256 => ?_
  rw [mid3 hd hc.2.2 h256, e]
theorem ok2 {M : PySem.Str} {c : Nat} {x : Int} (h0 : 0 ≤ x) (h1 : x < 60000) (hM : M = tx [c]) (hc : (c < 48 ∨ 57 < c) ∧ c ≠ 41 ∧ c < 256) :
    ∃ R T r, R = PySem.Str.ofString "229 tie (" ++ Txt.mul M 2 ++ PySem.Str.ofString (toString x) ++ M ++ PySem.Str.ofString ")" ∧ ReplyOk R (tx [c]) T r [tx [], tx [], PySem.Str.ofString (toString x), tx []] := by
  subst hM
  refine ok_of h0 h1 hc (j := 2) (by decide) (tx_mul2 c) fun ds e hd h256 => ?_
  rw [mid2 hd hc.2.2 h256, e]
theorem mark_of (a : Int) : ((Txt.item (PySem.Str.ofString "|!#$~") ((a.fdiv 12).fmod 5) = tx [126]) ∧ a / 12 % 5 = 4) ∨ ∃ c, (c < 48 ∨ 57 < c) ∧ c ≠ 41 ∧ c < 256 ∧ c ≠ 126 ∧ Txt.item (PySem.Str.ofString "|!#$~") ((a.fdiv 12).fmod 5) = tx [c] ∧ a / 12 % 5 ≠ 4 := by
  have e : (a.fdiv 12).fmod 5 = a / 12 % 5 := by rw [Int.fdiv_eq_ediv_of_nonneg a (by decide), Int.fmod_eq_emod_of_nonneg _ (by decide)]
  have h5 : a / 12 % 5 = 0 ∨ a / 12 % 5 = 1 ∨ a / 12 % 5 = 2 ∨ a / 12 % 5 = 3 ∨ a / 12 % 5 = 4 := of_fin (n := 5) (P := fun z => z = 0 ∨ z = 1 ∨ z = 2 ∨ z = 3 ∨ z = 4) (by decide) (Int.emod_nonneg _ (by decide)) (Int.emod_lt_of_pos _ (by decide))
  rw [e]
  rcases h5 with h5 | h5 | h5 | h5 | h5 <;> rw [h5]
  · exact .inr ⟨124, by decide, by decide, by decide, by decide, by rfl, by decide⟩
  · exact .inr ⟨33, by decide, by decide, by decide, by decide, by rfl, by decide⟩
  · exact .inr ⟨35, by decide, by decide, by decide, by decide, by rfl, by decide⟩
  · exact .inr ⟨36, by decide, by decide, by decide, by decide, by rfl, by decide⟩
  · exact .inl ⟨by rfl, rfl⟩
end Mine
end
section
open PySem PySem.Spec PySem.Calls PySem.W PyProof.Rows
set_option maxRecDepth 100000
namespace Mine
/-- a contract of a def that catches what a def of its own raises: called from the law's own frame, with a list of the frame's ledger -/
def ConT (w : World) (f : Addr) (n : Nat) (arg : Addr) (vs : List Value) (nn : Nat) (Out : List (Addr × Obj) → Value → Prop) : Prop :=
  ∀ (loose : List Str) (mean : ExcName → Option Value) (mg mb : Str → Option Value) (dp un : Nat) (gd : Option (List Code)) (cn : Str) (cs : Scope) (a : Addr) (ccd : Value) (A₀ : Around) (base h₀ : Heap) (L : Addr) (m : Str → Option Value) (s : Shared) (news : List (Addr × Obj)) (Q E : Value → Shared → Prop),
    Below A₀ base [] h₀ → Fr h₀ L s.heap m → News h₀ L s.heap news → (Mine.hd.heap_39 w.params).In h₀ → Top Mine.hd.view_39 loose mean mg mb h₀ → (Mine.hd.heap_39 w.params).In base → Top Mine.hd.view_39 loose mean mg mb base → cs.kind = .function → dp + n < recursionLimit → un + 8 * n < cLine → (arg, listOf vs.toArray nn) ∈ news →
    (∀ (r : Value) (tl : List (Addr × Obj)) (h' : Heap) (tk' : Nat), Fr h₀ L h' m → News h₀ L h' (tl ++ news) → Out tl r → Q r { s with heap := h', toks := tk' }) →
    wpAny (model PySem.Challenge.rw_tp0008_01.row.prog w) (ktrTop dp un gd cn cs L a ccd [] []) (call (.ref f) [.ref arg]) Q E s

theorem ConT.of {w : World} {f : Addr} {n : Nat} {arg : Addr} {vs : List Value} {nn : Nat} {Out : List (Addr × Obj) → Value → Prop}
    (H : ∀ (loose : List Str) (mean : ExcName → Option Value) (mg mb : Str → Option Value) (dp un : Nat) (gd : Option (List Code)) (cn : Str) (cs : Scope) (a : Addr) (ccd : Value) (A₀ : Around) (base h₀ : Heap) (L : Addr) (m : Str → Option Value) (sh : Heap) (sg : Array GenState) (sd : Drawn) (sk : Nat) (so : OsState) (news : List (Addr × Obj)) (Q E : Value → Shared → Prop),
      Below A₀ base [] h₀ → Fr h₀ L sh m → News h₀ L sh news → (Mine.hd.heap_39 w.params).In h₀ → Top Mine.hd.view_39 loose mean mg mb h₀ → (Mine.hd.heap_39 w.params).In base → Top Mine.hd.view_39 loose mean mg mb base → cs.kind = .function → dp + n < recursionLimit → un + 8 * n < cLine → (arg, listOf vs.toArray nn) ∈ news →
      (∀ (r : Value) (tl : List (Addr × Obj)) (h' : Heap) (tk' : Nat), Fr h₀ L h' m → News h₀ L h' (tl ++ news) → Out tl r → Q r ⟨h', sg, sd, tk', so⟩) →
      wpAny (model PySem.Challenge.rw_tp0008_01.row.prog w) (ktrTop dp un gd cn cs L a ccd [] []) (call (.ref f) [.ref arg]) Q E ⟨sh, sg, sd, sk, so⟩) : ConT w f n arg vs nn Out :=
  fun loose mean mg mb dp un gd cn cs a ccd A₀ base h₀ L m ⟨sh, sg, sd, sk, so⟩ news Q E => H loose mean mg mb dp un gd cn cs a ccd A₀ base h₀ L m sh sg sd sk so news Q E

theorem ConT.use {w : World} {f : Addr} {n : Nat} {arg : Addr} {vs : List Value} {nn : Nat} {Out : List (Addr × Obj) → Value → Prop} {loose : List Str} {mean : ExcName → Option Value} {mg mb : Str → Option Value} {dp un : Nat} {gd : Option (List Code)} {cn : Str} {cs : Scope} {a : Addr} {ccd : Value} {A₀ : Around} {base h₀ : Heap} {L : Addr} {m : Str → Option Value} {s : Shared} {news : List (Addr × Obj)} {Q E : Value → Shared → Prop}
    (C : ConT w f n arg vs nn Out) (B : Below A₀ base [] h₀) (F : Fr h₀ L s.heap m) (N : News h₀ L s.heap news) (X : (Mine.hd.heap_39 w.params).In h₀) (T : Top Mine.hd.view_39 loose mean mg mb h₀) (XB : (Mine.hd.heap_39 w.params).In base) (TB : Top Mine.hd.view_39 loose mean mg mb base) (hk : cs.kind = .function) (hd : dp + n < recursionLimit) (hu : un + 8 * n < cLine) (hm : (arg, listOf vs.toArray nn) ∈ news)
    (ret : ∀ (r : Value) (tl : List (Addr × Obj)) (h' : Heap) (tk' : Nat), Fr h₀ L h' m → News h₀ L h' (tl ++ news) → Out tl r → Q r { s with heap := h', toks := tk' }) :
    wpAny (model PySem.Challenge.rw_tp0008_01.row.prog w) (ktrTop dp un gd cn cs L a ccd [] []) (call (.ref f) [.ref arg]) Q E s :=
  C loose mean mg mb dp un gd cn cs a ccd A₀ base h₀ L m s news Q E B F N X T XB TB hk hd hu hm ret

inductive ForGSt (env : Env) (s₂ : Shared) (I l : Addr) (vs : List Value) (J : Nat → Heap → (Str → Option Value) → List (Addr × Obj) → Prop) (k : Nat) (s' : Shared) : Prop
  | mk (h' : Heap) (tk : Nat) (g' : Heap) (m' : Str → Option Value) (nx' : List (Addr × Obj)) (oI' : Obj) (i : Nat) (_ : s' = { s₂ with heap := h', toks := tk }) (_ : h'.IsListIter I l i) (_ : Fr g' env.locals h' m') (_ : News g' env.locals h' ((I, oI') :: nx')) (_ : oI'.cls = .type "list_iterator") (_ : ∀ p ∈ nx', p.1 ≠ I) (_ : J i g' m' nx') (_ : i ≤ vs.length) (_ : k = vs.length + 1 - i) : ForGSt env s₂ I l vs J k s'
section
variable {prog : Program} {w : World} {A : Around} {E : Value → Shared → Prop} {s : Shared} {env : Env}
inductive TurnG (L : Addr) (J : Heap → (Str → Option Value) → List (Addr × Obj) → Prop) (I : Addr) (oI : Obj) (s₁ : Shared) (f : Flow) (s₂ : Shared) : Prop
  | mk (_ : f = .next) (g' h' : Heap) (tk' : Nat) (m' : Str → Option Value) (nx' : List (Addr × Obj)) (_ : s₂ = { s₁ with heap := h', toks := tk' }) (_ : Fr g' L h' m') (_ : News g' L h' ((I, oI) :: nx')) (_ : ∀ p ∈ nx', p.1 ≠ I) (_ : J g' m' nx') : TurnG L J I oI s₁ f s₂
inductive LoopAtG (prog : Program) (w : World) (A : Around) (env : Env) (x : Str) (body : List Stmt) (Q : Flow → Shared → Prop) (E : Value → Shared → Prop) (it : Value) (s₂ : Shared) : Prop
  | mk (I l : Addr) (vs : List Value) (nn : Nat) (g : Heap) (m : Str → Option Value) (nx : List (Addr × Obj)) (oI : Obj) (J : Nat → Heap → (Str → Option Value) → List (Addr × Obj) → Prop)
    (_ : it = .ref I) (_ : A.handled = none) (_ : l ≠ I) (_ : s₂.heap.IsListIter I l 0) (_ : Fr g env.locals s₂.heap m) (_ : News g env.locals s₂.heap ((I, oI) :: nx)) (_ : oI.cls = .type "list_iterator") (_ : ∀ p ∈ nx, p.1 ≠ I) (_ : J 0 g m nx)
    (_ : ∀ i g m nx, J i g m nx → (l, listOf vs.toArray nn) ∈ nx)
    (_ : ∀ i v g m nx h tk oI, vs[i]? = some v → J i g m nx → (∀ p ∈ nx, p.1 ≠ I) → IsIt oI → Fr g env.locals h (fun y => if y = x then some v else m y) → News g env.locals h ((I, oI) :: nx) →
      wpAny (model prog w) A (execs body env) (TurnG env.locals (J (i + 1)) I oI { s₂ with heap := h, toks := tk }) E { s₂ with heap := h, toks := tk })
    (_ : ∀ g m nx h tk, J vs.length g m nx → Fr g env.locals h m → News g env.locals h nx → Q .next { s₂ with heap := h, toks := tk }) : LoopAtG prog w A env x body Q E it s₂
theorem For_G {Q : Flow → Shared → Prop} {x : Str} {px pos : Pos} {iter : Expr} {body : List Stmt} (hx : env.kindOf x = some .local)
    (hp : (env.scope.kind == .class || (env.scope.kind == .module && env.locals != env.globals)) = false)
    (h : wpAny (model prog w) A (eval iter env) (fun xv s₁ => wpAny (model prog w) A (pyIter xv) (fun it s₂ => LoopAtG prog w A env x body Q E it s₂) E s₁) E s)
    (hs : ∀ x, foldedSetIterable iter env x = pure x := by intro _; rfl)
    (hE : PassesOwn (model prog w) A env E := by passes_own) :
    wpAny (model prog w) A (exec (.For (.Name x px) iter body [] pos) env) Q E s := by
  refine wpAny_For (wpAny_mono h (fun xv s₁ h₁ => wpAny_mono h₁ (fun it s₂ h₂ => ?_) fun _ _ e => e) fun _ _ e => e) hs
  refine abs_goal fun PP kPP => ?_
  obtain ⟨I, l, vs, nn, g, m, nx, oI, J, rfl, hh, hne, hit, F, N, hoI, hnI, hj, hl, turn, done⟩ := h₂
  refine kPP ?_
  clear kPP
  refine codeAny_forLoop
    (ForGSt env s₂ I l vs J) ?_ (vs.length + 1)
    ⟨s₂.heap, s₂.toks, g, m, nx, oI, 0, rfl, hit, F, N, hoI, hnI, hj, Nat.zero_le _, rfl⟩
  intro k s' hst
  refine abs_goal fun PP kPP => ?_
  obtain ⟨h', tk, g', m', nx', oI', i, rfl, hit', F', N', hoI', hnI', hJ, hi, rfl⟩ := hst
  refine kPP ?_
  clear kPP
  have hlx : h'.get? l = some (listOf vs.toArray nn) := (N' _ (.tail _ (hl _ _ _ _ hJ))).1
  have hls : h'.IsList l vs.toArray := ⟨_, hlx, rfl, nn, rfl⟩
  have hIL : I ≠ env.locals := (N' _ (.head _)).2.1
  have hI0 : g'.get? I = none := (N' _ (.head _)).2.2
  have W := Walks.list (prog := prog) (w := w) hh I l hne vs.toArray
  have next : ∀ h₁ : Heap, (∀ b o, b ∉ [I] → h'.get? b = some o → h₁.get? b = some o) → Fr g' env.locals h₁ m' ∧ News g' env.locals h₁ nx' := fun h₁ hk₁ =>
    ⟨⟨F'.ns.at' fun o e => hk₁ _ o (by simpa using Ne.symm hIL) e, fun b o e => hk₁ b o (by simp only [List.mem_singleton]; rintro rfl; rw [hI0] at e; cases e) (F'.keep b o e), F'.above⟩, fun p hp => ⟨hk₁ _ _ (by simpa using hnI' p hp) (N' p (.tail _ hp)).1, (N' p (.tail _ hp)).2⟩⟩
  by_cases hlt : i < vs.length
  · refine W.item i _ _ _ (by simpa using hlt) ⟨hit', hls⟩ fun v h₁ tk₁ hP hst₁ hk₁ => ?_
    obtain ⟨F₁, N₁⟩ := next h₁ hk₁
    refine wpAny_assign_Name (wpAny_storeName_local hx F₁.ns (fun h₂ hn₂ hs₂ => ?_) hp)
    have F₂ := F₁.set hn₂ hs₂
    obtain ⟨oI₁, hoI₁, hcI₁, hdI₁⟩ := hst₁.1
    have hI₂ : h₂.get? I = some oI₁ := (hs₂.2 I hIL).trans hoI₁
    have N₂ : News g' env.locals h₂ ((I, oI₁) :: nx') := fun p hp => by
      rcases List.mem_cons.mp hp with rfl | hp
      · exact ⟨hI₂, hIL, hI0⟩
      · exact (N₁.set hs₂) p hp
    refine wpAny_mono (wpAny_passesOwn hE (turn i v g' m' nx' h₂ _ oI₁ (by simpa using hP) hJ hnI' (.inl hcI₁) F₂ N₂)) (fun f s₃ h₃ => ?_) fun _ _ e => e
    refine abs_goal fun PP kPP => ?_
    obtain ⟨rfl, g₃, h₃', tk₃, m₃, nx₃, rfl, F₃, N₃, hn₃, hJ₃⟩ := h₃
    refine kPP ?_
    exact ⟨vs.length + 1 - (i + 1), lt_step hlt, h₃', tk₃, g₃, m₃, nx₃, oI₁, i + 1, rfl, ⟨oI₁, (N₃ _ (.head _)).1, hcI₁, hdI₁⟩, F₃, N₃, hcI₁, hn₃, hJ₃, hlt, rfl⟩
  · have hin : i = vs.length := Nat.le_antisymm hi (Nat.not_lt.mp hlt)
    subst hin
    refine W.done _ _ _ ⟨by simpa using hit', hls⟩ fun h₁ tk₁ hk₁ => wpAny_execs_nil ?_
    obtain ⟨F₁, N₁⟩ := next h₁ hk₁
    exact done g' m' nx' h₁ tk₁ hJ F₁ N₁
/-- for x in a list of the ledger, over a ground that may turn -/
theorem iterG {x : Str} {body : List Stmt} {Q : Flow → Shared → Prop} {l : Addr} {vs : List Value} {nn : Nat} {g : Heap} {m₀ : Str → Option Value} {news : List (Addr × Obj)} (J : Nat → Heap → (Str → Option Value) → List (Addr × Obj) → Prop)
    (hh : A.handled = none) (hl : ∀ i g m nx, J i g m nx → (l, listOf vs.toArray nn) ∈ nx) (F : Fr g env.locals s.heap m₀) (N : News g env.locals s.heap news) (hj : J 0 g m₀ news)
    (turn : ∀ i v g m nx h tk I oI, vs[i]? = some v → J i g m nx → (∀ p ∈ nx, p.1 ≠ I) → IsIt oI → Fr g env.locals h (fun y => if y = x then some v else m y) → News g env.locals h ((I, oI) :: nx) →
      wpAny (model prog w) A (execs body env) (TurnG env.locals (J (i + 1)) I oI { s with heap := h, toks := tk }) E { s with heap := h, toks := tk })
    (done : ∀ g m nx h tk, J vs.length g m nx → Fr g env.locals h m → News g env.locals h nx → Q .next { s with heap := h, toks := tk }) :
    wpAny (model prog w) A (pyIter (.ref l)) (fun it s₂ => LoopAtG prog w A env x body Q E it s₂) E s := by
  have hl0 := hl _ _ _ _ hj
  have hol : s.heap.get? l = some (listOf vs.toArray nn) := (N _ hl0).1
  have hls : s.heap.IsList l vs.toArray := ⟨_, hol, rfl, nn, rfl⟩
  refine wpAny_pyIter_list hls ?_
  refine ⟨_, l, vs, nn, g, m₀, news, { cls := .type "list_iterator", data := .fields #[.ref l, .int 0 0] }, J, rfl, hh, Nat.ne_of_lt (Heap.lt_size hol), ⟨_, Heap.get?_push_size _ rfl, rfl, rfl⟩, F.push _, ?N, ?c, fun p hp => Nat.ne_of_lt (Heap.lt_size (N p hp).1), hj, hl, fun i v g m nx h tk oI => turn i v g m nx h tk _ oI, done⟩
  case N =>
    intro p hp
    rcases List.mem_cons.mp hp with rfl | hp
    · exact ⟨Heap.get?_push_size _ rfl, Nat.ne_of_gt F.ns.lt, next_is_new F⟩
    · exact ⟨Heap.get?_push_of_some _ (N p hp).1, (N p hp).2⟩
  case c => rfl
end
end Mine
end
section
set_option maxRecDepth 100000
namespace Mine
section
variable {P G : Type}
def sumL {α : Type} (f : α → Nat) : List α → Nat
  | [] => 0
  | a :: r => f a + sumL f r
theorem sumL_app {α : Type} (f : α → Nat) (l r : List α) : sumL f (l ++ r) = sumL f l + sumL f r := by
  induction l with
  | nil => simp [sumL]
  | cons a l ih => simp only [List.cons_append, sumL, ih]; omega
theorem sumL_add {α : Type} (f g : α → Nat) (l : List α) : sumL (fun a => f a + g a) l = sumL f l + sumL g l := by
  induction l with
  | nil => rfl
  | cons a l ih => simp only [sumL, ih]; omega
theorem sumL_map {α β : Type} (f : β → Nat) (g : α → β) (l : List α) : sumL f (l.map g) = sumL (fun a => f (g a)) l := by
  induction l with
  | nil => rfl
  | cons a l ih => simp only [List.map_cons, sumL, ih]
theorem sumL_congr {α : Type} {f g : α → Nat} {l : List α} (h : ∀ a ∈ l, f a = g a) : sumL f l = sumL g l := by
  induction l with
  | nil => rfl
  | cons a l ih => simp only [sumL, h a (.head _), ih fun b hb => h b (.tail _ hb)]
/-- ways: each of the list's ties takes one of three turns -/
def cnt (act : P → Fin 4 → G → G) (F : G → Nat) : List P → G → Nat
  | [], g => F g
  | e :: r, g => cnt act F r (act e 1 g) + cnt act F r (act e 2 g) + cnt act F r (act e 3 g)
theorem cnt_perm {act : P → Fin 4 → G → G} (comm : ∀ e f v w g, act e v (act f w g) = act f w (act e v g)) {F : G → Nat} {l r : List P} (h : l.Perm r) : ∀ g, cnt act F l g = cnt act F r g := by
  induction h with
  | nil => intro g; rfl
  | cons e _ ih => intro g; simp only [cnt, ih]
  | swap e f l =>
    intro g
    simp only [cnt]
    rw [comm e f 1 1, comm e f 1 2, comm e f 1 3, comm e f 2 1, comm e f 2 2, comm e f 2 3, comm e f 3 1, comm e f 3 2, comm e f 3 3]
    omega
  | trans _ _ ih1 ih2 => intro g; rw [ih1, ih2]
theorem cnt_act {act : P → Fin 4 → G → G} (comm : ∀ e f v w g, act e v (act f w g) = act f w (act e v g)) {F : G → Nat} (e : P) (v : Fin 4) (l : List P) : ∀ g, cnt act F l (act e v g) = cnt act (fun h => F (act e v h)) l g := by
  induction l with
  | nil => intro g; rfl
  | cons f l ih => intro g; simp only [cnt, comm f e, ih]
theorem cnt_congr {act : P → Fin 4 → G → G} {F F' : G → Nat} (h : ∀ g, F g = F' g) (l : List P) (g : G) : cnt act F l g = cnt act F' l g := by
  rw [show F = F' from funext h]
def SqAt (act : P → Fin 4 → G → G) : Prop := ∀ (e : P) (g : G) (f : G → Nat), f (act e 1 (act e 1 g)) + f (act e 2 (act e 1 g)) + f (act e 3 (act e 1 g)) + (f (act e 1 (act e 2 g)) + f (act e 2 (act e 2 g)) + f (act e 3 (act e 2 g))) + (f (act e 1 (act e 3 g)) + f (act e 2 (act e 3 g)) + f (act e 3 (act e 3 g))) = 2 * (f (act e 1 g) + f (act e 2 g) + f (act e 3 g)) + 3 * f g
theorem cnt_sq {act : P → Fin 4 → G → G} (sq : SqAt act) {F : G → Nat} (e : P) (r : List P) (g : G) : cnt act F (e :: e :: r) g = 2 * cnt act F (e :: r) g + 3 * cnt act F r g := sq e g (cnt act F r)
end
theorem dup_front {P : Type} [DecidableEq P] : ∀ {l : List P}, ¬ l.Nodup → ∃ e r, l.Perm (e :: e :: r) := by
  intro l
  induction l with
  | nil => intro h; exact absurd List.nodup_nil h
  | cons a t ih =>
    intro h
    by_cases ha : a ∈ t
    · exact ⟨a, t.erase a, .cons a (List.perm_cons_erase ha)⟩
    · have ht : ¬ t.Nodup := fun hn => h (List.nodup_cons.mpr ⟨ha, hn⟩)
      obtain ⟨e, r, p⟩ := ih ht
      exact ⟨e, a :: r, (p.cons a).trans ((List.Perm.swap e a (e :: r)).trans ((List.Perm.swap e a r).cons e))⟩
abbrev Pr := Nat × Nat
def six : List Pr := [(0, 1), (0, 2), (0, 3), (1, 2), (1, 3), (2, 3)]
def pick (b : Pr → Bool) : List Pr := six.filter b
theorem nodup_pick {l : List Pr} (h : l.Nodup) (hs : ∀ e ∈ l, e ∈ six) : l.Perm (pick fun e => decide (e ∈ l)) := by
  refine (List.perm_ext_iff_of_nodup h (List.Pairwise.filter _ (by decide))).mpr fun e => ?_
  simp only [pick, List.mem_filter, decide_eq_true_eq]
  exact ⟨fun x => ⟨hs e x, x⟩, fun x => x.2⟩
theorem filt_cons {α : Type} (p : α → Bool) (a : α) (l : List α) : (a :: l).filter p = (if p a = true then [a] else []) ++ l.filter p := by
  rw [List.filter_cons]
  by_cases h : p a = true <;> simp [h]
/-- what holds of the sixty-four choices and goes over from the two shorter lists to the longer one holds of all lists -/
theorem by_dups {C : List Pr → Prop} (perm : ∀ l r, l.Perm r → C l → C r) (base : ∀ b0 b1 b2 b3 b4 b5 : Bool, C ((if b0 = true then [(0, 1)] else []) ++ ((if b1 = true then [(0, 2)] else []) ++ ((if b2 = true then [(0, 3)] else []) ++ ((if b3 = true then [(1, 2)] else []) ++ ((if b4 = true then [(1, 3)] else []) ++ ((if b5 = true then [(2, 3)] else []) ++ [])))))))
    (step : ∀ e r, (∀ f ∈ e :: r, f ∈ six) → C (e :: r) → C r → C (e :: e :: r)) : ∀ l : List Pr, (∀ e ∈ l, e ∈ six) → C l := by
  have main : ∀ n, ∀ l : List Pr, l.length ≤ n → (∀ e ∈ l, e ∈ six) → C l := by
    intro n
    induction n with
    | zero =>
      intro l hl hs
      have : l = [] := List.length_eq_zero_iff.mp (by omega)
      subst this
      exact base false false false false false false
    | succ n ih =>
      intro l hl hs
      by_cases hn : l.Nodup
      · refine perm _ _ (nodup_pick hn hs).symm ?_
        rw [pick, six]
        rw [filt_cons, filt_cons, filt_cons, filt_cons, filt_cons, filt_cons, List.filter_nil]
        exact base _ _ _ _ _ _
      · obtain ⟨e, r, p⟩ := dup_front hn
        have hs' : ∀ f ∈ e :: e :: r, f ∈ six := fun f hf => hs f (p.mem_iff.mpr hf)
        have hlen : r.length + 2 ≤ n + 1 := by have := p.length_eq; simp only [List.length_cons] at this; omega
        exact perm _ _ p.symm (step e r (fun f hf => hs' f (.tail _ hf)) (ih _ (by simp only [List.length_cons]; omega) fun f hf => hs' f (.tail _ hf)) (ih _ (by omega) fun f hf => hs' f (.tail _ (.tail _ hf))))
  exact fun l hs => main _ l (Nat.le_refl _) hs
/-- turns of the wheel -/
def actA (e : Pr) (v : Fin 4) (g : Nat → Fin 4) : Nat → Fin 4 := fun x => g x + (if x = e.1 then v else 0) + (if x = e.2 then -v else 0)
theorem commA (e f : Pr) (v w : Fin 4) (g : Nat → Fin 4) : actA e v (actA f w g) = actA f w (actA e v g) := by
  have key : ∀ a b c d k : Fin 4, k + a + b + c + d = k + c + d + a + b := by decide
  funext x
  exact key _ _ _ _ _
theorem actA_add (e : Pr) (v w : Fin 4) (g : Nat → Fin 4) : actA e v (actA e w g) = actA e (v + w) g := by
  funext x
  simp only [actA]
  split <;> split <;> revert v w <;> generalize g x = k <;> revert k <;> decide
theorem actA_zero (e : Pr) (g : Nat → Fin 4) : actA e 0 g = g := by
  funext x
  simp only [actA]
  split <;> split <;> generalize g x = k <;> revert k <;> decide
theorem sqA : SqAt actA := by
  intro e g f
  simp only [actA_add]
  rw [show (1 : Fin 4) + 1 = 2 from rfl, show (2 : Fin 4) + 1 = 3 from rfl, show (3 : Fin 4) + 1 = 0 from rfl, show (1 : Fin 4) + 2 = 3 from rfl, show (2 : Fin 4) + 2 = 0 from rfl, show (3 : Fin 4) + 2 = 1 from rfl, show (1 : Fin 4) + 3 = 0 from rfl, show (2 : Fin 4) + 3 = 1 from rfl, show (3 : Fin 4) + 3 = 2 from rfl, actA_zero]
  omega
def swN (e : Pr) : Pr := (e.2, e.1)
theorem sw_key (p q : Prop) [Decidable p] [Decidable q] (v k : Fin 4) : k + (if q then v else 0) + (if p then -v else 0) = k + (if p then -v else 0) + (if q then - -v else 0) := by
  by_cases hp : p <;> by_cases hq : q <;> simp only [hp, hq, if_true, if_false] <;> clear hp hq <;> revert v k <;> decide
theorem sw_key2 (p q : Prop) [Decidable p] [Decidable q] (v k m : Fin 4) : (k = m + (if q then v else 0) + (if p then -v else 0)) ↔ (k + (if p then v else 0) + (if q then -v else 0) = m) := by
  by_cases hp : p <;> by_cases hq : q <;> simp only [hp, hq, if_true, if_false] <;> clear hp hq <;> revert v k m <;> decide
theorem actA_sw (e : Pr) (v : Fin 4) (g : Nat → Fin 4) : actA (swN e) v g = actA e (-v) g := by
  funext x
  exact sw_key (x = e.1) (x = e.2) v (g x)
def dl (h g : Nat → Fin 4) : Nat := if g 0 = h 0 ∧ g 1 = h 1 ∧ g 2 = h 2 ∧ g 3 = h 3 then 1 else 0
def z0 : Nat → Fin 4 := fun _ => 0
theorem cntA_sw {F : (Nat → Fin 4) → Nat} (e : Pr) (r : List Pr) (g : Nat → Fin 4) : cnt actA F (swN e :: r) g = cnt actA F (e :: r) g := by
  simp only [cnt, actA_sw]
  rw [show -(1 : Fin 4) = 3 from rfl, show -(2 : Fin 4) = 2 from rfl, show -(3 : Fin 4) = 1 from rfl]
  omega
theorem dl_sw (e : Pr) (v : Fin 4) (h g : Nat → Fin 4) : dl (actA (swN e) v h) g = dl h (actA e v g) := by
  have key : ∀ x, (g x = actA (swN e) v h x) ↔ (actA e v g x = h x) := fun x => sw_key2 (x = e.1) (x = e.2) v (g x) (h x)
  simp only [dl, key]
theorem cnt_meet (l1 l2 : List Pr) (g0 : Nat → Fin 4) : ∀ h0, cnt actA (fun h => cnt actA (dl h) l1 g0) (l2.map swN) h0 = cnt actA (dl h0) (l2 ++ l1) g0 := by
  induction l2 with
  | nil => intro h0; rfl
  | cons e r ih =>
    intro h0
    have k : ∀ v, cnt actA (dl (actA (swN e) v h0)) (r ++ l1) g0 = cnt actA (dl h0) (r ++ l1) (actA e v g0) := by
      intro v
      rw [cnt_act commA]
      exact cnt_congr (dl_sw e v h0) _ _
    simp only [List.map_cons, List.cons_append, cnt, ih, k]
/-- two sets -/
def mask (e : Pr) : Nat := 2 ^ e.1 + 2 ^ e.2
def actB (e : Pr) (v : Fin 4) (g : Nat × Nat) : Nat × Nat := (g.1 ^^^ (if v.val % 2 = 1 then mask e else 0), g.2 ^^^ (if v.val / 2 = 1 then mask e else 0))
theorem xrc (a b c : Nat) : a ^^^ b ^^^ c = a ^^^ c ^^^ b := by rw [Nat.xor_assoc, Nat.xor_comm b, ← Nat.xor_assoc]
theorem commB (e f : Pr) (v w : Fin 4) (g : Nat × Nat) : actB e v (actB f w g) = actB f w (actB e v g) := by
  simp only [actB]
  rw [xrc g.1, xrc g.2]
theorem sqB : SqAt actB := by
  intro e g f
  have c1 : ∀ g, actB e 1 g = (g.1 ^^^ mask e, g.2) := fun g => by simp [actB]
  have c2 : ∀ g, actB e 2 g = (g.1, g.2 ^^^ mask e) := fun g => by simp [actB]
  have c3 : ∀ g, actB e 3 g = (g.1 ^^^ mask e, g.2 ^^^ mask e) := fun g => rfl
  have xx : ∀ a, a ^^^ mask e ^^^ mask e = a := fun a => by rw [Nat.xor_assoc, Nat.xor_self, Nat.xor_zero]
  simp only [c1, c2, c3, xx]
  rw [show f g = f (g.1, g.2) from rfl]
  omega
def dB (g : Nat × Nat) : Nat := if g.1 = 0 ∧ g.2 = 0 then 1 else 0
theorem A_eq_B (l : List Pr) (hs : ∀ e ∈ l, e ∈ six) : cnt actA (dl z0) l z0 = cnt actB dB l (0, 0) := by
  refine by_dups (C := fun l => cnt actA (dl z0) l z0 = cnt actB dB l (0, 0)) ?_ ?_ ?_ l hs
  · intro l r p h
    rw [← cnt_perm commA p, h, cnt_perm commB p]
  · decide +kernel
  · intro e r _ h1 h2
    rw [cnt_sq sqA, cnt_sq sqB, h1, h2]
/-- a set of ties with a given sum -/
def exS : List Pr → Nat → Bool
  | [], g => decide (g = 0)
  | e :: r, g => exS r g || exS r (g ^^^ mask e)
theorem exS_perm {l r : List Pr} (h : l.Perm r) : ∀ g, exS l g = exS r g := by
  induction h with
  | nil => intro g; rfl
  | cons e _ ih => intro g; simp only [exS, ih]
  | swap e f l =>
    intro g
    simp only [exS]
    rw [xrc g (mask e)]
    cases exS l g <;> cases exS l (g ^^^ mask e) <;> cases exS l (g ^^^ mask f) <;> simp
  | trans _ _ ih1 ih2 => intro g; rw [ih1, ih2]
theorem exS_zero (l : List Pr) : exS l 0 = true := by
  induction l with
  | nil => rfl
  | cons e r ih => simp [exS, ih]
theorem exS_self (e : Pr) (r : List Pr) : exS (e :: r) (mask e) = true := by simp [exS, exS_zero]
def Uall (l : List Pr) : Bool := l.all fun e => exS (l.erase e) (mask e)
theorem Uall_iff {l : List Pr} : Uall l = true ↔ ∀ e ∈ l, exS (l.erase e) (mask e) = true := by simp [Uall]
theorem Uall_perm {l r : List Pr} (h : l.Perm r) : Uall l = Uall r := by
  rw [Bool.eq_iff_iff, Uall_iff, Uall_iff]
  exact ⟨fun k e he => by rw [← exS_perm (h.erase e)]; exact k e (h.mem_iff.mpr he), fun k e he => by rw [exS_perm (h.erase e)]; exact k e (h.mem_iff.mp he)⟩
theorem Uall_dup (e : Pr) (r : List Pr) : Uall (e :: e :: r) = (Uall (e :: r) || Uall r) := by
  have nf : ∀ f, f ≠ e → (e :: r).erase f = e :: r.erase f := fun f hf => by
    rw [List.erase_cons_tail]; simpa using Ne.symm hf
  rw [Bool.eq_iff_iff, Bool.or_eq_true, Uall_iff, Uall_iff, Uall_iff]
  constructor
  · intro h
    by_cases hx : exS r (mask e) = true
    · refine .inl fun f hf => ?_
      by_cases hfe : f = e
      · subst hfe; rw [List.erase_cons_head]; exact hx
      · have hfr : f ∈ r := by
          rcases List.mem_cons.mp hf with x | x
          · exact absurd x hfe
          · exact x
        have := h f (.tail _ (.tail _ hfr))
        rw [List.erase_cons_tail (by simpa using Ne.symm hfe), nf f hfe] at this
        rw [nf f hfe]
        simp only [exS, Bool.or_eq_true, Nat.xor_assoc, Nat.xor_self, Nat.xor_zero] at this ⊢
        rcases this with (h | h) | h | h
        · exact .inl h
        · exact .inr h
        · exact .inr h
        · exact .inl h
    · refine .inr fun f hf => ?_
      have hp := List.perm_cons_erase hf
      have hfe : f ≠ e := by
        rintro rfl
        exact hx (by rw [exS_perm hp]; exact exS_self _ _)
      have := h f (.tail _ (.tail _ hf))
      rw [List.erase_cons_tail (by simpa using Ne.symm hfe), nf f hfe] at this
      have key : exS (r.erase f) (mask f ^^^ mask e) = true → False := fun k => hx (by
        rw [exS_perm hp]
        simp only [exS, Bool.or_eq_true]
        right
        rw [Nat.xor_comm]; exact k)
      simp only [exS, Bool.or_eq_true, Nat.xor_assoc, Nat.xor_self, Nat.xor_zero] at this
      rcases this with (h | h) | h | h
      · exact h
      · exact (key h).elim
      · exact (key h).elim
      · exact h
  · intro h f hf
    by_cases hfe : f = e
    · subst hfe; rw [List.erase_cons_head]; exact exS_self _ _
    · have hfr : f ∈ r := by
        rcases List.mem_cons.mp hf with x | x
        · exact absurd x hfe
        · rcases List.mem_cons.mp x with x | x
          · exact absurd x hfe
          · exact x
      rw [List.erase_cons_tail (by simpa using Ne.symm hfe), nf f hfe]
      rcases h with h | h
      · have := h f (.tail _ hfr)
        rw [nf f hfe] at this
        rw [exS, this]; rfl
      · have := h f hfr
        simp [exS, this]
theorem B_iff_U (l : List Pr) (hs : ∀ e ∈ l, e ∈ six) : decide (0 < cnt actB dB l (0, 0)) = Uall l := by
  refine by_dups (C := fun l => decide (0 < cnt actB dB l (0, 0)) = Uall l) ?_ ?_ ?_ l hs
  · intro l r p h
    rw [← cnt_perm commB p, h, Uall_perm p]
  · decide +kernel
  · intro e r _ h1 h2
    rw [cnt_sq sqB, Uall_dup, ← h1, ← h2, Bool.eq_iff_iff]
    simp only [Bool.or_eq_true, decide_eq_true_eq]
    omega
end Mine
end
section
open PySem PySem.W PyProof.Rows
set_option maxRecDepth 100000
set_option maxHeartbeats 8000000
set_option rowWalk.seconds 0
local macro_rules | `(tactic| walk_at "subscriptTail Name BinOp ref int") => `(tactic| (k_here; (with_reducible show wpAny _ _ (subscriptTail _ _ (Value.ref _) (Value.int _ _)) _ _ _); k_dflt (refine' Mine.idx_sub ?k1 ?k2 ?k3 ?k4 ?k5 ?_ ?k6; (case k1 => with_reducible assumption); (case k2 => k_asm); (case k3 => (try simp only [Mine.fm8, Mine.fd8]); omega); (case k4 => (try simp only [Mine.fm8, Mine.fd8]); omega); (case k5 => decide); (case k6 => with_unfolding_all rfl); k_whole)))
local macro_rules | `(tactic| walk_at "subscriptTail Name BinOp ref int") => `(tactic| (k_here; (with_reducible show wpAny _ _ (subscriptTail _ _ (Value.ref _) (Value.int _ _)) _ _ _); (with_reducible rename Mine.Rows _ _ _ _ _ _ => hRw); k_dflt (refine' Mine.row_sub hRw ?k2 ?k0 ?k3 ?k4 ?k5 ?_ ?k6; (case k2 => k_asm); (case k0 => (try simp only [Mine.fm8, Mine.fd8]); omega); (case k3 => (try simp only [Mine.fm8, Mine.fd8]); omega); (case k4 => (try simp only [Mine.fm8, Mine.fd8]); omega); (case k5 => decide); (case k6 => with_unfolding_all rfl); k_whole)))
local macro_rules | `(tactic| walk_at "subscriptTail Subscript Name BinOp BinOp ref int") => `(tactic| (k_here; (with_reducible show wpAny _ _ (subscriptTail _ _ (Value.ref _) (Value.int _ _)) _ _ _); k_dflt (refine' Mine.idx_sub ?k1 ?k2 ?k3 ?k4 ?k5 ?_ ?k6; (case k1 => with_reducible assumption); (case k2 => k_asm); (case k3 => (try simp only [Mine.fm8, Mine.fd8]); omega); (case k4 => (try simp only [Mine.fm8, Mine.fd8]); omega); (case k5 => decide); (case k6 => with_unfolding_all rfl); k_whole)))
local macro_rules | `(tactic| walk_at "subscriptTail Subscript Name BinOp BinOp ref int") => `(tactic| (k_here; (with_reducible show wpAny _ _ (subscriptTail _ _ (Value.ref _) (Value.int _ _)) _ _ _); (with_reducible rename Mine.Rows _ _ _ _ _ _ => hRw); k_dflt (refine' Mine.row_sub hRw ?k2 ?k0 ?k3 ?k4 ?k5 ?_ ?k6; (case k2 => k_asm); (case k0 => (try simp only [Mine.fm8, Mine.fd8]); omega); (case k3 => (try simp only [Mine.fm8, Mine.fd8]); omega); (case k4 => (try simp only [Mine.fm8, Mine.fd8]); omega); (case k5 => decide); (case k6 => with_unfolding_all rfl); k_whole)))
local macro_rules | `(tactic| walk_at "exec If") => `(tactic| (with_reducible refine wpAny_If ?_))
local macro_rules | `(tactic| walk_at "ite") => `(tactic| (with_reducible refine split_dec ?_ ?_ <;> intro _ <;> (try dsimp only)))
local macro_rules | `(tactic| walk_at "call type:list cons nil") => `(tactic| (k_here; k_dflt (refine' Mine.copy_L ?k1 ?k2 ?k3 ?k4 ?_; (case k1 => k_asm); (case k2 => k_asm); (case k3 => k_mem); (case k4 => omega); k_whole); intro D' c' h' F' N' l1; (try k_lt l1); (try k_sweep)))
local macro_rules | `(tactic| k_mem) => `(tactic| assumption)
local macro_rules | `(tactic| k_all) => `(tactic| assumption)
local macro_rules | `(tactic| walk_at "call builtin:list.append cons nil") => `(tactic| (k_here; k_dflt (refine' Mine.append_L ?k1 ?k2 ?k3 ?k4 ?_; (case k1 => k_asm); (case k2 => k_asm); (case k3 => k_upd); (case k4 => omega); k_whole); intro h' F' N'; (try k_sweep)))
local macro_rules | `(tactic| walk_at "call builtin:len cons nil") => `(tactic| (k_here; k_dflt (refine' Mine.len_L ?k1 ?k2 ?k3 ?_; (case k1 => k_asm); (case k2 => k_mem); (case k3 => omega); k_whole)))
section
local macro_rules | `(tactic| walk_at "call builtin:max cons nil") => `(tactic| (k_here; (with_reducible show wpAny _ _ (call _ [Value.float _ _, Value.float _ _, Value.float _ _]) _ _ _); k_dflt (refine' Mine.max3_f ?k0 ?k1 ?k2 ?_; (case k0 => with_unfolding_all rfl); (case k1 => k_asm); (case k2 => k_asm); k_whole); intro h' tk' t' F' N'; (try k_sweep)))
local macro_rules | `(tactic| walk_at "call builtin:min cons nil") => `(tactic| (k_here; (with_reducible show wpAny _ _ (call _ [Value.float _ _, Value.float _ _, Value.float _ _]) _ _ _); k_dflt (refine' Mine.min3_f ?k0 ?k1 ?k2 ?_; (case k0 => with_unfolding_all rfl); (case k1 => k_asm); (case k2 => k_asm); k_whole); intro h' tk' t' F' N'; (try k_sweep)))
namespace Mine
def tup3 (x y z : Value) : Obj := { cls := .type "tuple", data := .seq #[x, y, z] }
inductive Tup3Out (x y z : UInt64) (tl : List (Addr × Obj)) (r : Value) : Prop
  | mk (a : Addr) (x' : UInt64) (t1 : Tok) (y' : UInt64) (t2 : Tok) (z' : UInt64) (t3 : Tok) (_ : r = .ref a) (_ : (a, tup3 (.float x' t1) (.float y' t2) (.float z' t3)) ∈ tl) (_ : x' = x) (_ : y' = y) (_ : z' = z) : Tup3Out x y z tl r
inductive Tup3Fst (x : UInt64) (tl : List (Addr × Obj)) (r : Value) : Prop
  | mk (a : Addr) (x' : UInt64) (t1 : Tok) (y' : UInt64) (t2 : Tok) (z' : UInt64) (t3 : Tok) (_ : r = .ref a) (_ : (a, tup3 (.float x' t1) (.float y' t2) (.float z' t3)) ∈ tl) (_ : x' = x) : Tup3Fst x tl r
/-- the turn of the wheel that hsv_to_rgb takes -/
def hsvI (x : UInt64) : Int := Flt.toInt Float64.truncOf (Float64.mul x 4618441417868443648)
def hsvK (k : Int) (x : UInt64) : UInt64 × UInt64 × UInt64 :=
  let one : UInt64 := 4607182418800017408
  let f := Float64.sub (Float64.mul x 4618441417868443648) (Float64.ofInt (hsvI x))
  let p := Float64.mul one (Float64.sub one one)
  let q := Float64.mul one (Float64.sub one (Float64.mul one f))
  let t := Float64.mul one (Float64.sub one (Float64.mul one (Float64.sub one f)))
  if k = 0 then (one, t, p) else if k = 1 then (q, one, p) else if k = 2 then (p, one, t) else if k = 3 then (p, q, one) else if k = 4 then (t, p, one) else (one, p, q)
def hsvF (x : UInt64) : UInt64 × UInt64 × UInt64 := hsvK ((hsvI x).fmod 6) x
theorem fmod6 (i : Int) (h0 : i.fmod 6 ≠ 0) (h1 : i.fmod 6 ≠ 1) (h2 : i.fmod 6 ≠ 2) (h3 : i.fmod 6 ≠ 3) (h4 : i.fmod 6 ≠ 4) (h5 : i.fmod 6 ≠ 5) : False := by
  rw [Int.fmod_eq_emod_of_nonneg i (by decide)] at h0 h1 h2 h3 h4 h5
  exact (of_fin (n := 6) (P := fun z => z = 0 ∨ z = 1 ∨ z = 2 ∨ z = 3 ∨ z = 4 ∨ z = 5) (by decide) (Int.emod_nonneg _ (by decide)) (Int.emod_lt_of_pos _ (by decide))).elim h0 fun h => h.elim h1 fun h => h.elim h2 fun h => h.elim h3 fun h => h.elim h4 h5
theorem c_hsv (w : World) (x : UInt64) (hn : Float64.isNaN (Float64.mul x 4618441417868443648) = false) (hi : Float64.isInf (Float64.mul x 4618441417868443648) = false) (hb : (hsvI x).natAbs < 1000) (t1 t2 t3 : Tok) : Mine.Con w 42 1 [.float x t1, .float 4607182418800017408 t2, .float 4607182418800017408 t3] (fun _ => True) (Tup3Out (hsvF x).1 (hsvF x).2.1 (hsvF x).2.2) := by
  have hz0 : (Float64.cmp 4607182418800017408 0 == some Ordering.eq) = false := by decide +kernel
  have hb2 : (Flt.toInt Float64.truncOf (Float64.mul x 4618441417868443648)).natAbs < 2 ^ 1024 - 2 ^ 970 := Nat.lt_trans hb (by decide +kernel)
  w_top off
  refine Mine.Con.of ?_
  k_fill
  intro loose mean mg mb dp un gd cn cs a ccd cl outer A₀ base h₀ L m sh sg sd sk so Q E B F X T hk hd hu hp hret
  refine wpAny_call ?_
  k_dflt (refine' Mine.callG (binds := [("h", .float x t1), ("s", .float 4607182418800017408 t2), ("v", .float 4607182418800017408 t3)]) ?k1 ?k2 ?k3 ?k5 ?kA ?kF ?kK ?k6 ?k7 ?k8 ?k9 ?kB ?kD ?_ ?c2 ?c3 ?c4 ?c5; (case kA => exact rfl); (case kF => exact rfl); (case kK => assumption); (case k1 => k_asm); (case k2 => k_asm); (case k3 => k_asm); (case k5 => k_asm); (case k6 => k_is); (case k7 => k_is); (case k8 => ktr_room); (case k9 => exact BindsTo.of_eq rfl); (case c5 => decide); (case kB => exact locs rfl); (case kD => exact rfl); (case c2 => exact rfl); (case c3 => exact rfl); (case c4 => exact rfl); k_whole; intro L' h' F' N' B' X' T'; (try dsimp only); (try k_fold))
  w_strict (repeat' (first | (k_unfold; (try dsimp only)) | (walk1; all_goals (try dsimp only)) | (dsimp only; walk1; all_goals (try dsimp only))))
  all_goals (first | (rename 2 ^ 1024 - 2 ^ 970 ≤ _ => hz; exact absurd hb2 (Nat.not_lt.mpr hz)) | skip)
  all_goals (first | (rename (_ == some Ordering.eq) = true => hz; exact absurd (hz0.symm.trans hz) (by decide)) | skip)
  all_goals (first | exact (fmod6 _ (by assumption) (by assumption) (by assumption) (by assumption) (by assumption) (by assumption)).elim | skip)
  all_goals (rename Fr sh _ _ _ => F15; rename News sh _ _ _ => N15; rename Int.fmod _ 6 = _ => hz; have hF : hsvF x = hsvK ((hsvI x).fmod 6) x := rfl; rw [show (hsvI x).fmod 6 = _ from hz] at hF; exact hret _ _ _ _ F15.keep (fun p hp => ⟨(N15 p hp).1, (N15 p hp).2.2⟩) ⟨_, _, _, _, _, _, _, rfl, .head _, by rw [hF]; rfl, by rw [hF]; rfl, by rw [hF]; rfl⟩)
def hueK (c1 c2 : Bool) (r g b : UInt64) : UInt64 :=
  let M := max3 r g b
  let d := Float64.sub M (min3 r g b)
  let rc := Float64.div (Float64.sub M r) d
  let gc := Float64.div (Float64.sub M g) d
  let bc := Float64.div (Float64.sub M b) d
  (Float64.divmod (Float64.div (match c1, c2 with
    | true, _ => Float64.sub bc gc
    | false, true => Float64.sub (Float64.add 4611686018427387904 rc) bc
    | false, false => Float64.sub (Float64.add 4616189618054758400 gc) rc) 4618441417868443648) 4607182418800017408).2
def hueF (r g b : UInt64) : UInt64 := hueK (Float64.cmp r (max3 r g b) == some Ordering.eq) (Float64.cmp g (max3 r g b) == some Ordering.eq) r g b
theorem hueF_eq (r g b : UInt64) : hueF r g b = hueK (Float64.cmp r (max3 r g b) == some Ordering.eq) (Float64.cmp g (max3 r g b) == some Ordering.eq) r g b := rfl
theorem c_hue (w : World) (r g b : UInt64) (h1 : (Float64.cmp (min3 r g b) (max3 r g b) == some Ordering.eq) = false) (h2 : Float64.isZero (max3 r g b) = false) (h3 : Float64.isZero (Float64.sub (max3 r g b) (min3 r g b)) = false) (t1 t2 t3 : Tok) : Mine.Con w 35 1 [.float r t1, .float g t2, .float b t3] (fun _ => True) (Tup3Fst (hueF r g b)) := by
  w_top off
  refine Mine.Con.of ?_
  k_fill
  intro loose mean mg mb dp un gd cn cs a ccd cl outer A₀ base h₀ L m sh sg sd sk so Q E B F X T hk hd hu hp hret
  refine wpAny_call ?_
  k_dflt (refine' Mine.callG (binds := [("r", .float r t1), ("g", .float g t2), ("b", .float b t3)]) ?k1 ?k2 ?k3 ?k5 ?kA ?kF ?kK ?k6 ?k7 ?k8 ?k9 ?kB ?kD ?_ ?c2 ?c3 ?c4 ?c5; (case kA => exact rfl); (case kF => exact rfl); (case kK => assumption); (case k1 => k_asm); (case k2 => k_asm); (case k3 => k_asm); (case k5 => k_asm); (case k6 => k_is); (case k7 => k_is); (case k8 => ktr_room); (case k9 => exact BindsTo.of_eq rfl); (case c5 => decide); (case kB => exact locs rfl); (case kD => exact rfl); (case c2 => exact rfl); (case c3 => exact rfl); (case c4 => exact rfl); k_whole; intro L' h' F' N' B' X' T'; (try dsimp only); (try k_fold))
  w_strict (repeat' (first | (k_unfold; (try dsimp only)) | (walk1; all_goals (try dsimp only)) | (dsimp only; walk1; all_goals (try dsimp only))))
  all_goals (rename Fr sh _ _ _ => F15; rename News sh _ _ _ => N15)
  · exact hret _ _ _ _ F15.keep (fun p hp => ⟨(N15 p hp).1, (N15 p hp).2.2⟩) ⟨_, _, _, _, _, _, _, rfl, .head _, by rename (Float64.cmp r _ == some Ordering.eq) = true => hq; rw [hueF_eq, hq]; rfl⟩
  · exact hret _ _ _ _ F15.keep (fun p hp => ⟨(N15 p hp).1, (N15 p hp).2.2⟩) ⟨_, _, _, _, _, _, _, rfl, .head _, by rename (Float64.cmp r _ == some Ordering.eq) = false => hq; rename (Float64.cmp g _ == some Ordering.eq) = true => hq2; rw [hueF_eq, hq, hq2]; rfl⟩
  · exact hret _ _ _ _ F15.keep (fun p hp => ⟨(N15 p hp).1, (N15 p hp).2.2⟩) ⟨_, _, _, _, _, _, _, rfl, .head _, by rename (Float64.cmp r _ == some Ordering.eq) = false => hq; rename (Float64.cmp g _ == some Ordering.eq) = false => hq2; rw [hueF_eq, hq, hq2]; rfl⟩
end Mine
end
section
local macro_rules | `(tactic| walk_at "exec If") => `(tactic| (refine Mine.Stop.out ?_))
namespace Mine
def yiqF (r g b : Int) : UInt64 × UInt64 × UInt64 :=
  let R := Float64.ofInt r
  let G := Float64.ofInt g
  let B := Float64.ofInt b
  let y := Float64.add (Float64.add (Float64.mul 4599075939470750515 R) (Float64.mul 4603489467105573601 G)) (Float64.mul 4592590756007337001 B)
  (y, Float64.sub (Float64.mul 4604840546993784750 (Float64.sub R y)) (Float64.mul 4598535507515466056 (Float64.sub B y)), Float64.add (Float64.mul 4602318531202457272 (Float64.sub R y)) (Float64.mul 4601057523306793533 (Float64.sub B y)))
theorem c_yiq (w : World) (r g b : Int) (t1 t2 t3 : Tok) (hr : 0 ≤ r ∧ r ≤ 1) (hg : 0 ≤ g ∧ g ≤ 1) (hb : 0 ≤ b ∧ b ≤ 1) : Mine.Con w 21 1 [.int r t1, .int g t2, .int b t3] (fun _ => True) (Tup3Out (yiqF r g b).1 (yiqF r g b).2.1 (yiqF r g b).2.2) := by
  w_top off
  refine Mine.Con.of ?_
  k_fill
  intro loose mean mg mb dp un gd cn cs a ccd cl outer A₀ base h₀ L m sh sg sd sk so Q E B F X T hk hd hu hp hret
  refine wpAny_call ?_
  k_dflt (refine' Mine.callG (binds := [("r", .int r t1), ("g", .int g t2), ("b", .int b t3)]) ?k1 ?k2 ?k3 ?k5 ?kA ?kF ?kK ?k6 ?k7 ?k8 ?k9 ?kB ?kD ?_ ?c2 ?c3 ?c4 ?c5; (case kA => exact rfl); (case kF => exact rfl); (case kK => assumption); (case k1 => k_asm); (case k2 => k_asm); (case k3 => k_asm); (case k5 => k_asm); (case k6 => k_is); (case k7 => k_is); (case k8 => ktr_room); (case k9 => exact BindsTo.of_eq rfl); (case c5 => decide); (case kB => exact locs rfl); (case kD => exact rfl); (case c2 => exact rfl); (case c3 => exact rfl); (case c4 => exact rfl); k_whole; intro L' h' F' N' B' X' T'; (try dsimp only); (try k_fold))
  w_strict (repeat' (first | (k_unfold; (try dsimp only)) | (walk1; all_goals (try dsimp only)) | (dsimp only; walk1; all_goals (try dsimp only))))
  rename Fr sh _ _ _ => F15
  rename News sh _ _ _ => N15
  exact hret _ _ _ _ F15.keep (fun p hp => ⟨(N15 p hp).1, (N15 p hp).2.2⟩) ⟨_, _, _, _, _, _, _, rfl, .head _, rfl, rfl, rfl⟩
def IfPost (h₀ : Heap) (L : Addr) (news : List (Addr × Obj)) (J : (Str → Option Value) → Prop) (s : Shared) (f : Flow) (s' : Shared) : Prop := f = .next ∧ ∃ h' t m', s' = { s with heap := h', toks := t } ∧ Fr h₀ L h' m' ∧ News h₀ L h' news ∧ J m'
theorem join_if {prog : Program} {w : World} {A : Around} {E : Value → Shared → Prop} {s : Shared} {h₀ : Heap} {L : Addr} {news : List (Addr × Obj)} {st : Stmt} {env : Env} {Q : Flow → Shared → Prop} (J : (Str → Option Value) → Prop)
    (h : wpAny (model prog w) A (exec st env) (IfPost h₀ L news J s) E s)
    (k : ∀ h' t m', Fr h₀ L h' m' → News h₀ L h' news → J m' → Q .next { s with heap := h', toks := t }) : wpAny (model prog w) A (exec st env) Q E s :=
  wpAny_mono h (fun f s' ⟨e, h', t, m', e2, F, N, j⟩ => by subst e; subst e2; exact k h' t m' F N j) fun _ _ e => e
def lo0 (x : UInt64) : UInt64 := if (Float64.cmp x 0 == some Ordering.lt) = true then 0 else x
def hi1 (x : UInt64) : UInt64 := if (Float64.cmp x 4607182418800017408 == some Ordering.gt) = true then 4607182418800017408 else x
def cl01 (x : UInt64) : UInt64 := hi1 (lo0 x)
def rgbF (y i q : UInt64) : UInt64 × UInt64 × UInt64 :=
  (cl01 (Float64.add (Float64.add y (Float64.mul 4606703976345377586 i)) (Float64.mul 4603791717925830846 q)),
   cl01 (Float64.sub (Float64.sub y (Float64.mul 4598621754083818298 i)) (Float64.mul 4603901015759978483 q)),
   cl01 (Float64.add (Float64.sub y (Float64.mul 4607671262177584182 i)) (Float64.mul 4610375502138591871 q)))
theorem c_yrgb (w : World) (y i q : UInt64) (t1 t2 t3 : Tok) : Mine.Con w 28 1 [.float y t1, .float i t2, .float q t3] (fun _ => True) (Tup3Out (rgbF y i q).1 (rgbF y i q).2.1 (rgbF y i q).2.2) := by
  w_top off
  refine Mine.Con.of ?_
  k_fill
  intro loose mean mg mb dp un gd cn cs a ccd cl outer A₀ base h₀ L m sh sg sd sk so Q E B F X T hk hd hu hp hret
  refine wpAny_call ?_
  k_dflt (refine' Mine.callG (binds := [("y", .float y t1), ("i", .float i t2), ("q", .float q t3)]) ?k1 ?k2 ?k3 ?k5 ?kA ?kF ?kK ?k6 ?k7 ?k8 ?k9 ?kB ?kD ?_ ?c2 ?c3 ?c4 ?c5; (case kA => exact rfl); (case kF => exact rfl); (case kK => assumption); (case k1 => k_asm); (case k2 => k_asm); (case k3 => k_asm); (case k5 => k_asm); (case k6 => k_is); (case k7 => k_is); (case k8 => ktr_room); (case k9 => exact BindsTo.of_eq rfl); (case c5 => decide); (case kB => exact locs rfl); (case kD => exact rfl); (case c2 => exact rfl); (case c3 => exact rfl); (case c4 => exact rfl); k_whole; intro L' h' F' N' B' X' T'; (try dsimp only); (try k_fold))
  w_strict (repeat' (first | (k_unfold; (try dsimp only)) | (walk1; all_goals (try dsimp only)) | (dsimp only; walk1; all_goals (try dsimp only))))
  rename Fr sh _ _ _ => F1
  rename News sh _ _ _ => N1
  generalize hR : Float64.add (Float64.add y (Float64.mul 4606703976345377586 i)) (Float64.mul 4603791717925830846 q) = R at F1
  generalize hG : Float64.sub (Float64.sub y (Float64.mul 4598621754083818298 i)) (Float64.mul 4603901015759978483 q) = G at F1
  generalize hB : Float64.add (Float64.sub y (Float64.mul 4607671262177584182 i)) (Float64.mul 4610375502138591871 q) = B' at F1
  have F2 := (FrameIs.set (FrameIs.set (FrameIs.set FrameIs.base)) : FrameIs NoN _ [("y", .float y t1), ("i", .float i t2), ("q", .float q t3), ("r", .float R _), ("g", .float G _), ("b", .float B' _)] []).fr F1
  clear F1
  refine ⟨?_⟩
  refine join_if (h₀ := sh) (L := L') (news := []) (fun m' => ∃ rlo0 trlo0 ug ub, rlo0 = lo0 R ∧ FrameIs NoN m' [("y", .float y t1), ("i", .float i t2), ("q", .float q t3), ("r", .float rlo0 trlo0), ("g", .float G ug), ("b", .float B' ub)] []) ?_ ?_
  · refine wpAny_If ?_
    w_strict (repeat' (first | (k_unfold; (try dsimp only)) | (walk1; all_goals (try dsimp only)) | (dsimp only; walk1; all_goals (try dsimp only))))
    all_goals ((rename Fr sh _ _ _ => FF); (rename News sh _ _ _ => NN); (rename (_ == some _) = _ => hz))
    · refine ⟨rfl, _, _, _, rfl, FF, NN, _, _, _, _, ?_, FrameIs.set FrameIs.kstb⟩
      rw [lo0, if_pos hz]
    · refine ⟨rfl, _, _, _, rfl, FF, NN, _, _, _, _, ?_, FrameIs.kstb⟩
      rw [lo0, if_neg (by rw [hz]; decide)]
  intro h9 t9 m9 F9 N9 x9
  obtain ⟨rlo0, trlo0, ug, ub, hrlo0, hm⟩ := x9
  have F8 := hm.fr F9
  (try clear F2); (try clear FF); clear F9
  dsimp only
  w_strict (repeat' (first | (k_unfold; (try dsimp only)) | (walk1; all_goals (try dsimp only)) | (dsimp only; walk1; all_goals (try dsimp only))))
  refine ⟨?_⟩
  refine join_if (h₀ := sh) (L := L') (news := []) (fun m' => ∃ glo0 tglo0 ur ub, glo0 = lo0 G ∧ FrameIs NoN m' [("y", .float y t1), ("i", .float i t2), ("q", .float q t3), ("r", .float rlo0 ur), ("g", .float glo0 tglo0), ("b", .float B' ub)] []) ?_ ?_
  · refine wpAny_If ?_
    w_strict (repeat' (first | (k_unfold; (try dsimp only)) | (walk1; all_goals (try dsimp only)) | (dsimp only; walk1; all_goals (try dsimp only))))
    all_goals ((rename Fr sh _ _ _ => FF); (rename News sh _ _ _ => NN); (rename (_ == some _) = _ => hz))
    · refine ⟨rfl, _, _, _, rfl, FF, NN, _, _, _, _, ?_, FrameIs.set FrameIs.kstb⟩
      rw [lo0, if_pos hz]
    · refine ⟨rfl, _, _, _, rfl, FF, NN, _, _, _, _, ?_, FrameIs.kstb⟩
      rw [lo0, if_neg (by rw [hz]; decide)]
  intro h9 t9 m9 F9 N9 x9
  obtain ⟨glo0, tglo0, ur, ub, hglo0, hm⟩ := x9
  have F8 := hm.fr F9
  (try clear F2); (try clear FF); clear F9
  dsimp only
  w_strict (repeat' (first | (k_unfold; (try dsimp only)) | (walk1; all_goals (try dsimp only)) | (dsimp only; walk1; all_goals (try dsimp only))))
  refine ⟨?_⟩
  refine join_if (h₀ := sh) (L := L') (news := []) (fun m' => ∃ blo0 tblo0 ur ug, blo0 = lo0 B' ∧ FrameIs NoN m' [("y", .float y t1), ("i", .float i t2), ("q", .float q t3), ("r", .float rlo0 ur), ("g", .float glo0 ug), ("b", .float blo0 tblo0)] []) ?_ ?_
  · refine wpAny_If ?_
    w_strict (repeat' (first | (k_unfold; (try dsimp only)) | (walk1; all_goals (try dsimp only)) | (dsimp only; walk1; all_goals (try dsimp only))))
    all_goals ((rename Fr sh _ _ _ => FF); (rename News sh _ _ _ => NN); (rename (_ == some _) = _ => hz))
    · refine ⟨rfl, _, _, _, rfl, FF, NN, _, _, _, _, ?_, FrameIs.set FrameIs.kstb⟩
      rw [lo0, if_pos hz]
    · refine ⟨rfl, _, _, _, rfl, FF, NN, _, _, _, _, ?_, FrameIs.kstb⟩
      rw [lo0, if_neg (by rw [hz]; decide)]
  intro h9 t9 m9 F9 N9 x9
  obtain ⟨blo0, tblo0, ur, ug, hblo0, hm⟩ := x9
  have F8 := hm.fr F9
  (try clear F2); (try clear FF); clear F9
  dsimp only
  w_strict (repeat' (first | (k_unfold; (try dsimp only)) | (walk1; all_goals (try dsimp only)) | (dsimp only; walk1; all_goals (try dsimp only))))
  refine ⟨?_⟩
  refine join_if (h₀ := sh) (L := L') (news := []) (fun m' => ∃ rhi1 trhi1 ug ub, rhi1 = hi1 rlo0 ∧ FrameIs NoN m' [("y", .float y t1), ("i", .float i t2), ("q", .float q t3), ("r", .float rhi1 trhi1), ("g", .float glo0 ug), ("b", .float blo0 ub)] []) ?_ ?_
  · refine wpAny_If ?_
    w_strict (repeat' (first | (k_unfold; (try dsimp only)) | (walk1; all_goals (try dsimp only)) | (dsimp only; walk1; all_goals (try dsimp only))))
    all_goals ((rename Fr sh _ _ _ => FF); (rename News sh _ _ _ => NN); (rename (_ == some _) = _ => hz))
    · refine ⟨rfl, _, _, _, rfl, FF, NN, _, _, _, _, ?_, FrameIs.set FrameIs.kstb⟩
      rw [hi1, if_pos hz]
    · refine ⟨rfl, _, _, _, rfl, FF, NN, _, _, _, _, ?_, FrameIs.kstb⟩
      rw [hi1, if_neg (by rw [hz]; decide)]
  intro h9 t9 m9 F9 N9 x9
  obtain ⟨rhi1, trhi1, ug, ub, hrhi1, hm⟩ := x9
  have F8 := hm.fr F9
  (try clear F2); (try clear FF); clear F9
  dsimp only
  w_strict (repeat' (first | (k_unfold; (try dsimp only)) | (walk1; all_goals (try dsimp only)) | (dsimp only; walk1; all_goals (try dsimp only))))
  refine ⟨?_⟩
  refine join_if (h₀ := sh) (L := L') (news := []) (fun m' => ∃ ghi1 tghi1 ur ub, ghi1 = hi1 glo0 ∧ FrameIs NoN m' [("y", .float y t1), ("i", .float i t2), ("q", .float q t3), ("r", .float rhi1 ur), ("g", .float ghi1 tghi1), ("b", .float blo0 ub)] []) ?_ ?_
  · refine wpAny_If ?_
    w_strict (repeat' (first | (k_unfold; (try dsimp only)) | (walk1; all_goals (try dsimp only)) | (dsimp only; walk1; all_goals (try dsimp only))))
    all_goals ((rename Fr sh _ _ _ => FF); (rename News sh _ _ _ => NN); (rename (_ == some _) = _ => hz))
    · refine ⟨rfl, _, _, _, rfl, FF, NN, _, _, _, _, ?_, FrameIs.set FrameIs.kstb⟩
      rw [hi1, if_pos hz]
    · refine ⟨rfl, _, _, _, rfl, FF, NN, _, _, _, _, ?_, FrameIs.kstb⟩
      rw [hi1, if_neg (by rw [hz]; decide)]
  intro h9 t9 m9 F9 N9 x9
  obtain ⟨ghi1, tghi1, ur, ub, hghi1, hm⟩ := x9
  have F8 := hm.fr F9
  (try clear F2); (try clear FF); clear F9
  dsimp only
  w_strict (repeat' (first | (k_unfold; (try dsimp only)) | (walk1; all_goals (try dsimp only)) | (dsimp only; walk1; all_goals (try dsimp only))))
  refine ⟨?_⟩
  refine join_if (h₀ := sh) (L := L') (news := []) (fun m' => ∃ bhi1 tbhi1 ur ug, bhi1 = hi1 blo0 ∧ FrameIs NoN m' [("y", .float y t1), ("i", .float i t2), ("q", .float q t3), ("r", .float rhi1 ur), ("g", .float ghi1 ug), ("b", .float bhi1 tbhi1)] []) ?_ ?_
  · refine wpAny_If ?_
    w_strict (repeat' (first | (k_unfold; (try dsimp only)) | (walk1; all_goals (try dsimp only)) | (dsimp only; walk1; all_goals (try dsimp only))))
    all_goals ((rename Fr sh _ _ _ => FF); (rename News sh _ _ _ => NN); (rename (_ == some _) = _ => hz))
    · refine ⟨rfl, _, _, _, rfl, FF, NN, _, _, _, _, ?_, FrameIs.set FrameIs.kstb⟩
      rw [hi1, if_pos hz]
    · refine ⟨rfl, _, _, _, rfl, FF, NN, _, _, _, _, ?_, FrameIs.kstb⟩
      rw [hi1, if_neg (by rw [hz]; decide)]
  intro h9 t9 m9 F9 N9 x9
  obtain ⟨bhi1, tbhi1, ur, ug, hbhi1, hm⟩ := x9
  have F8 := hm.fr F9
  (try clear F2); (try clear FF); clear F9
  dsimp only
  w_strict (repeat' (first | (k_unfold; (try dsimp only)) | (walk1; all_goals (try dsimp only)) | (dsimp only; walk1; all_goals (try dsimp only))))
  rename Fr sh _ _ _ => F15
  rename News sh _ _ _ => N15
  refine hret _ _ _ _ F15.keep (fun p hp => ⟨(N15 p hp).1, (N15 p hp).2.2⟩) ⟨_, _, _, _, _, _, _, rfl, .head _, ?_, ?_, ?_⟩
  · rw [hrhi1, hrlo0, ← hR]; rfl
  · rw [hghi1, hglo0, ← hG]; rfl
  · rw [hbhi1, hblo0, ← hB]; rfl
end Mine
end
section
local macro_rules | `(tactic| walk_at "call ref") => `(tactic| (refine Mine.Stop.out ?_))
local macro_rules | `(tactic| walk_at "call builtin:list.append cons nil") => `(tactic| (refine Mine.Stop.out ?_))
local macro_rules | `(tactic| walk_at "exec For Name Call cons nil") => `(tactic| (refine Mine.Stop.out ?_))
local macro_rules | `(tactic| walk_at "pyIter ref") => `(tactic| (refine Mine.Stop.out ?_))
namespace Mine
def qx (i : Nat) : UInt64 := Float64.ofFrac (decide (0 + (i : Int) < 0) != decide ((4 : Int) < 0)) (0 + (i : Int)).natAbs (Int.natAbs 4)
def qh (i : Nat) : UInt64 := hueF (hsvF (qx i)).1 (hsvF (qx i)).2.1 (hsvF (qx i)).2.2
theorem q_facts : ∀ i, i < 7 → Float64.isNaN (Float64.mul (qx i) 4618441417868443648) = false ∧ Float64.isInf (Float64.mul (qx i) 4618441417868443648) = false ∧ (hsvI (qx i)).natAbs < 1000 := by decide +kernel
theorem q_facts2 : ∀ i, i < 7 → (Float64.cmp (min3 (hsvF (qx i)).1 (hsvF (qx i)).2.1 (hsvF (qx i)).2.2) (max3 (hsvF (qx i)).1 (hsvF (qx i)).2.1 (hsvF (qx i)).2.2) == some Ordering.eq) = false ∧ Float64.isZero (max3 (hsvF (qx i)).1 (hsvF (qx i)).2.1 (hsvF (qx i)).2.2) = false ∧ Float64.isZero (Float64.sub (max3 (hsvF (qx i)).1 (hsvF (qx i)).2.1 (hsvF (qx i)).2.2) (min3 (hsvF (qx i)).1 (hsvF (qx i)).2.1 (hsvF (qx i)).2.2)) = false := by decide +kernel
theorem q_facts3 : ∀ i, i < 7 → Float64.isNaN (Float64.mul (qh i) (Float64.ofInt 4)) = false ∧ Float64.isInf (Float64.mul (qh i) (Float64.ofInt 4)) = false ∧ ([0, 1, 2, 3, 0, 1, 2] : List Int)[i]? = some (Flt.toInt Float64.truncOf (Float64.mul (qh i) (Float64.ofInt 4))) := by decide +kernel
inductive J7a  (i : Nat) (m : Str → Option Value) (nx : List (Addr × Obj)) : Prop
  | mk  (D : Addr) (ws : List Value) (n : Nat) (_ : nx = [(D, listOf ws.toArray n)]) (_ : IntsAre ws (([0, 1, 2, 3, 0, 1, 2] : List Int).take i)) (_ : FrameIs NoN m [("turned", .ref D)] ["s", "r", "g", "b", "hue"]) : J7a  i m nx
theorem c_quarters (w : World) : Mine.Con w 110 4 [] (fun _ => True) (fun tl r => ∃ a ws n, r = .ref a ∧ (a, listOf ws.toArray n) ∈ tl ∧ IntsAre ws [0, 1, 2, 3, 0, 1, 2]) := by
  w_top off
  refine Mine.Con.of ?_
  k_fill
  intro loose mean mg mb dp un gd cn cs a ccd cl outer A₀ base h₀ L m sh sg sd sk so Q E B F X T hk hd hu hp hret
  refine wpAny_call ?_
  k_dflt (refine' Mine.callG (binds := []) ?k1 ?k2 ?k3 ?k5 ?kA ?kF ?kK ?k6 ?k7 ?k8 ?k9 ?kB ?kD ?_ ?c2 ?c3 ?c4 ?c5; (case kA => exact rfl); (case kF => exact rfl); (case kK => assumption); (case k1 => k_asm); (case k2 => k_asm); (case k3 => k_asm); (case k5 => k_asm); (case k6 => k_is); (case k7 => k_is); (case k8 => ktr_room); (case k9 => exact BindsTo.of_eq rfl); (case c5 => decide); (case kB => exact locs rfl); (case kD => exact rfl); (case c2 => exact rfl); (case c3 => exact rfl); (case c4 => exact rfl); k_whole; intro L' h' F' N' B' X' T'; (try dsimp only); (try k_fold))
  w_strict (repeat' (first | (k_unfold; (try dsimp only)) | (walk1; all_goals (try dsimp only)) | (dsimp only; walk1; all_goals (try dsimp only))))
  (refine ⟨?_⟩); (refine For_invT sh ?_ (by intro _; rfl)); (w_strict (repeat' (first | (k_unfold; (try dsimp only)) | (walk1; all_goals (try dsimp only)) | (dsimp only; walk1; all_goals (try dsimp only))))); (refine ⟨?_⟩); (rename Fr _ _ _ _ => F1); (rename News _ _ _ _ => N1)
  rename IsRange _ _ _ _ _ _ _ _ => hrg
  refine iterTR (n := 7) (J := J7a ) (by rfl) hrg (small_L (n := 7) (by omega)) (by rfl) (by intro _ _; rfl) F1 N1 ?_ ?_ ?_
  · exact ⟨_, [], _, rfl, .nil, FrameIs.set FrameIs.base⟩
  · intro i ti m₁ nx s₁ I oI hi7 hPat0 hnI hIt F2 N2
    refine Mine.abs_goal fun PP kPP => ?_
    obtain ⟨D, ws, n, rfl, hws, hm⟩ := hPat0
    refine kPP ?_
    clear kPP
    have F3 := hm.fr F2
    clear F2; (try clear N1); (try clear F1); (try clear hrg)
    (show wpAny _ _ _ _ _ _); k_fold
    w_strict (repeat' (first | (k_unfold; (try dsimp only)) | (walk1; all_goals (try dsimp only)) | (dsimp only; walk1; all_goals (try dsimp only))))
    refine ⟨?_⟩
    rename Fr sh _ _ _ => FF
    rename News sh _ _ _ => NN
    have q1 := q_facts i hi7
    have q2 := q_facts2 i hi7
    have q3 := q_facts3 i hi7
    k_dflt (refine Con.use (c_hsv w (qx i) q1.1 q1.2.1 q1.2.2 _ _ _) (by assumption) FF (by assumption) NN (by assumption) rfl (by ktr_room) (by ktr_units) trivial ?_)
    intro r tl h8 tk8 F8 N8 ap8 hPatR
    refine Mine.abs_goal fun PP kPP => ?_
    obtain ⟨a1, x1, u1, x2, u2, x3, u3, rfl, hm1, rfl, rfl, rfl⟩ := hPatR
    refine kPP ?_
    clear kPP
    have N9 := news_sub N8 (all_cons (List.mem_append_left _ hm1) (fun p hp => List.mem_append_right tl hp))
    clear N8 FF NN
    dsimp only
    w_strict (repeat' (first | (k_unfold; (try dsimp only)) | (walk1; all_goals (try dsimp only)) | (dsimp only; walk1; all_goals (try dsimp only))))
    refine ⟨?_⟩
    rename Fr sh _ _ _ => FF
    rename News sh _ _ _ => NN
    k_dflt (refine Con.use (c_hue w _ _ _ q2.1 q2.2.1 q2.2.2 _ _ _) (by assumption) FF (by assumption) NN (by assumption) rfl (by ktr_room) (by ktr_units) trivial ?_)
    intro r tl9 h8 tk8 F8 N8 ap9 hPatR
    refine Mine.abs_goal fun PP kPP => ?_
    obtain ⟨a2, x1, u1, x2, u2, x3, u3, rfl, hm9, rfl⟩ := hPatR
    refine kPP ?_
    clear kPP
    have N9 := news_sub N8 (all_cons (List.mem_append_left _ hm9) (fun p hp => List.mem_append_right tl9 (.tail _ hp)))
    clear N8 FF NN
    rw [show hueF (hsvF (qx i)).1 (hsvF (qx i)).2.1 (hsvF (qx i)).2.2 = qh i from rfl] at N9
    obtain ⟨q31, q32, q33⟩ := q3
    dsimp only
    w_strict (repeat' (first | (k_unfold; (try dsimp only)) | (walk1; all_goals (try dsimp only)) | (dsimp only; walk1; all_goals (try dsimp only))))
    refine ⟨?_⟩
    rename Fr sh _ _ _ => FF
    rename News sh _ _ _ => NN
    have hDI : @Ne Nat D I := hnI _ (.head _)
    have hwl : ws.length ≤ 7 := by rw [hws.length, List.length_take]; exact Nat.min_le_right _ _
    have N10 := news_sub (news' := [(D, listOf ws.toArray n), (I, oI)]) NN (fun p hp => by
      simp only [List.mem_cons, List.mem_nil_iff, or_false] at hp ⊢
      rcases hp with h | h <;> simp [h])
    k_dflt (refine append_L FF N10 (.head (all_cons (Ne.symm hDI) fun _ h => nomatch h)) (Nat.le_trans hwl (by decide)) ?_)
    intro h9 F9 N11
    clear FF NN N10
    dsimp only
    w_strict (repeat' (first | (k_unfold; (try dsimp only)) | (walk1; all_goals (try dsimp only)) | (dsimp only; walk1; all_goals (try dsimp only))))
    refine ⟨rfl, MEnd.intro F9 N11 (.tail _ (.head _)) (fun p hp => by rw [List.mem_singleton.mp hp]; exact ⟨.head _, hDI⟩) ⟨D, _, _, rfl, ?_, FrameIs.skip (FrameIs.skip (FrameIs.skip (FrameIs.skip (FrameIs.skip FrameIs.kstb))))⟩⟩
    rw [take_one q33]
    exact ints_app hws (.cons _ _ .nil)
  · intro m₃ nx h tk hPat0 F2 N2
    refine Mine.abs_goal fun PP kPP => ?_
    obtain ⟨D, ws, n, rfl, hws, hm⟩ := hPat0
    refine kPP ?_
    clear kPP
    have F3 := hm.fr F2
    clear F2
    dsimp only
    w_strict (repeat' (first | (k_unfold; (try dsimp only)) | (walk1; all_goals (try dsimp only)) | (dsimp only; walk1; all_goals (try dsimp only))))
    exact hret _ _ _ _ F3.keep (fun p hp => ⟨(N2 p hp).1, (N2 p hp).2.2⟩) ⟨_, ws, n, rfl, .head _, hws⟩
end Mine
end
section
local macro_rules | `(tactic| walk_at "exec For Name Name cons nil") => `(tactic| (refine Mine.Stop.out ?_))
local macro_rules | `(tactic| walk_at "exec For Name Call cons nil") => `(tactic| (refine Mine.Stop.out ?_))
local macro_rules | `(tactic| walk_at "exec For Tuple Name cons nil") => `(tactic| (refine Mine.Stop.out ?_))
local macro_rules | `(tactic| walk_at "exec For Name List cons nil") => `(tactic| (refine Mine.Stop.out ?_))
local macro_rules | `(tactic| walk_at "pyIter ref") => `(tactic| (refine Mine.Stop.out ?_))
local macro_rules | `(tactic| walk_at "CompSrc") => `(tactic| (refine Mine.Stop.out ?_))
local macro_rules | `(tactic| walk_at "CompSrcT") => `(tactic| (refine Mine.Stop.out ?_))
local macro_rules | `(tactic| walk_at "call ref") => `(tactic| (refine Mine.Stop.out ?_))
section
namespace Mine
theorem c_union (w : World) (l : Addr) (vs : List Value) (ns : List Int) : Mine.Con w 144 2 [.ref l] (fun h => h.IsList l vs.toArray ∧ IntsAre vs ns) (fun _ r => ∃ t, r = .int (ns.foldl Builtin.bitOr 0) t) := by
  w_top off
  refine Mine.Con.of ?_
  k_fill
  intro loose mean mg mb dp un gd cn cs a ccd cl outer A₀ base h₀ L m sh sg sd sk so Q E B F X T hk hd hu hp hret
  obtain ⟨hl, hi⟩ := hp
  refine wpAny_call ?_
  k_dflt (refine' Mine.callG (binds := [("even", .ref l)]) ?k1 ?k2 ?k3 ?k5 ?kA ?kF ?kK ?k6 ?k7 ?k8 ?k9 ?kB ?kD ?_ ?c2 ?c3 ?c4 ?c5; (case kA => exact rfl); (case kF => exact rfl); (case kK => assumption); (case k1 => k_asm); (case k2 => k_asm); (case k3 => k_asm); (case k5 => k_asm); (case k6 => k_is); (case k7 => k_is); (case k8 => ktr_room); (case k9 => exact BindsTo.of_eq rfl); (case c5 => decide); (case kB => exact locs rfl); (case kD => exact rfl); (case c2 => exact rfl); (case c3 => exact rfl); (case c4 => exact rfl); k_whole; intro L' h' F' N' B' X' T'; (try dsimp only); (try k_fold))
  w_strict (repeat' (first | (k_unfold; (try dsimp only)) | (walk1; all_goals (try dsimp only)) | (dsimp only; walk1; all_goals (try dsimp only))))
  (refine ⟨?_⟩); (refine For_invV sh (by rfl) (by rfl) ?_); (w_strict (repeat' (first | (k_unfold; (try dsimp only)) | (walk1; all_goals (try dsimp only)) | (dsimp only; walk1; all_goals (try dsimp only))))); (refine ⟨?_⟩); (rename Fr _ _ _ _ => F1); (rename News _ _ _ _ => N1)
  let JJ1 : Nat → (Str → Option Value) → List (Addr × Obj) → Prop := fun i m nx => nx = [] ∧ ∃ W t, W = (ns.take i).foldl Builtin.bitOr 0 ∧ Mine.FrameIs Mine.NoN m [("even", .ref l), ("union", .int W t)] ["a"]
  refine Mine.iterB (J := JJ1) (by rfl) hl F1 N1 ⟨rfl, 0, _, rfl, Mine.FrameIs.set Mine.FrameIs.base⟩ ?_ ?_
  · intro i v m₁ nx h tk I oI hv hPat0 hnI hIt F2 N2
    refine Mine.abs_goal fun PP kPP => ?_
    obtain ⟨rfl, W, t, hW, hm⟩ := hPat0
    refine kPP ?_
    clear kPP
    have F3 := hm.fr1 F2
    clear F2 F1 N1
    obtain ⟨a, ha, ta, rfl⟩ := int_at hi hv
    (show wpAny _ _ _ _ _ _); k_fold
    w_strict (repeat' (first | (k_unfold; (try dsimp only)) | (walk1; all_goals (try dsimp only)) | (dsimp only; walk1; all_goals (try dsimp only))))
    rename Fr _ _ _ _ => FF
    rename News _ _ _ _ => NN
    refine MPost.next [] FF NN (.head _) (fun p hp => nomatch hp) ?_
    refine ⟨rfl, _, _, ?_, FrameIs.set (FrameIs.skip FrameIs.kstb)⟩
    rw [hW, take_one ha, List.foldl_append]; rfl
  · intro m₂ nx h tk hPat0 F2 N2
    refine Mine.abs_goal fun PP kPP => ?_
    obtain ⟨rfl, W, t, hW, hm⟩ := hPat0
    refine kPP ?_
    clear kPP
    have F3 := hm.fr F2
    clear F1 F2
    rw [hi.length, List.take_length] at hW
    dsimp only
    w_strict (repeat' (first | (k_unfold; (try dsimp only)) | (walk1; all_goals (try dsimp only)) | (dsimp only; walk1; all_goals (try dsimp only))))
    exact hret _ [] _ _ F3.keep (fun p hp => nomatch hp) ⟨t, by rw [hW]⟩
end Mine
end
section
local macro_rules | `(tactic| k_ne) => `(tactic| first | assumption | exact Ne.symm (by assumption) | exact Nat.ne_of_gt (And.left (And.right (by assumption))) | exact Nat.ne_of_gt (And.left (by assumption)))
local macro_rules | `(tactic| walk_at "eval ListComp BinOp cons") => `(tactic| (refine Mine.Stop.out ?_))
namespace Mine
/-- one tie's turn of a stand -/
def turn1 (o i : Nat) (v : Int) (s : List Int) : List Int :=
  let s1 := s.set o ((s.getD o 0 + v) % 4)
  s1.set i ((s1.getD i 0 + 4 - v) % 4)
def turn3 (p : Int × Int) (s : List Int) : List (List Int) := [turn1 p.1.toNat p.2.toNat 1 s, turn1 p.1.toNat p.2.toNat 2 s, turn1 p.1.toNat p.2.toNat 3 s]
def standsOf (ties : List (Int × Int)) : List (List Int) := ties.foldl (fun ss p => ss.flatMap (turn3 p)) [[0, 0, 0, 0]]
def code (s : List Int) : Int := s.getD 0 0 * 64 + s.getD 1 0 * 16 + s.getD 2 0 * 4 + s.getD 3 0

def StOk (s : List Int) : Prop := s.length = 4 ∧ ∀ x ∈ s, 0 ≤ x ∧ x < 4
theorem StOk.getD {s : List Int} (h : StOk s) (j : Nat) : 0 ≤ s.getD j 0 ∧ s.getD j 0 < 4 := by
  rw [List.getD_eq_getElem?_getD]
  cases e : s[j]? with
  | none => exact ⟨Int.le_refl 0, by decide⟩
  | some v => exact h.2 v (List.mem_of_getElem? e)
theorem StOk.set {s : List Int} (h : StOk s) (j : Nat) (v : Int) (h0 : 0 ≤ v) (h4 : v < 4) : StOk (s.set j v) :=
  ⟨by simp [h.1], fun x hx => by
    rcases List.mem_or_eq_of_mem_set hx with hx | rfl
    · exact h.2 x hx
    · exact ⟨h0, h4⟩⟩
theorem turn1_ok {o i : Nat} {v : Int} {s : List Int} (h : StOk s) : StOk (turn1 o i v s) := by
  refine ⟨by simp [turn1, h.1], fun x hx => ?_⟩
  simp only [turn1] at hx
  rcases List.mem_or_eq_of_mem_set hx with hx | rfl
  · rcases List.mem_or_eq_of_mem_set hx with hx | rfl
    · exact h.2 x hx
    · omega
  · omega
theorem standsOf_ok {ties : List (Int × Int)} (_hb : ∀ p ∈ ties, 0 ≤ p.1 ∧ p.1 < 4 ∧ 0 ≤ p.2 ∧ p.2 < 4) : ∀ s ∈ standsOf ties, StOk s := by
  have : ∀ (l : List (Int × Int)) (ss : List (List Int)), (∀ s ∈ ss, StOk s) → ∀ s ∈ l.foldl (fun ss p => ss.flatMap (turn3 p)) ss, StOk s := by
    intro l
    induction l with
    | nil => intro ss h; exact h
    | cons p l ih =>
      intro ss h
      refine ih _ fun s hs => ?_
      obtain ⟨s', hs', hm⟩ := List.mem_flatMap.mp hs
      simp only [turn3, List.mem_cons, List.not_mem_nil, or_false] at hm
      rcases hm with rfl | rfl | rfl <;> exact turn1_ok (h s' hs')
  exact this ties _ fun s hs => by
    rw [List.mem_singleton.mp hs]
    exact ⟨rfl, fun x hx => by simp at hx; omega⟩
theorem three_at {x y : Int} {st : List Int} {a b c : Tok} {j : Nat} {v : Value} (h : [Value.int 1 a, .int 2 b, .int 3 c][j]? = some v) : ∃ vv tv, v = .int vv tv ∧ (1 ≤ vv ∧ vv ≤ 3) ∧ (turn3 (x, y) st)[j]? = some (turn1 x.toNat y.toNat vv st) := by
  match j, h with
  | 0, h => cases h; exact ⟨1, a, rfl, by decide, rfl⟩
  | 1, h => cases h; exact ⟨2, b, rfl, by decide, rfl⟩
  | 2, h => cases h; exact ⟨3, c, rfl, by decide, rfl⟩
  | _ + 3, h => cases h
theorem turn3_len (p : Int × Int) (ss : List (List Int)) : (ss.flatMap (turn3 p)).length = 3 * ss.length := by
  induction ss with
  | nil => rfl
  | cons s r ih => rw [List.flatMap_cons, List.length_append, ih, List.length_cons]; simp only [turn3, List.length_cons, List.length_nil]; omega
theorem standsOf_len (ties : List (Int × Int)) : (standsOf ties).length = 3 ^ ties.length := by
  have : ∀ (l : List (Int × Int)) (ss : List (List Int)), (l.foldl (fun ss p => ss.flatMap (turn3 p)) ss).length = 3 ^ l.length * ss.length := by
    intro l
    induction l with
    | nil => intro ss; simp
    | cons p l ih => intro ss; rw [List.foldl_cons, ih, turn3_len, List.length_cons, Nat.pow_succ, Nat.mul_assoc]
  rw [standsOf, this]; simp
theorem stands_room {ties : List (Int × Int)} {i k j : Nat} {p : Int × Int} {st : List Int} (h : ties.length ≤ 6) : (((standsOf (ties.take i)).take k).flatMap (turn3 p)).length + ((turn3 p st).take j).length ≤ 10000 := by
  rw [turn3_len, List.length_take, List.length_take, standsOf_len]
  have h1 : 3 ^ (ties.take i).length ≤ 3 ^ 6 := Nat.pow_le_pow_right (by decide) (by rw [List.length_take]; omega)
  have h2 : (turn3 p st).length = 3 := rfl
  omega
theorem turn_a {g v : Int} (h : 0 ≤ g) (h1 : 1 ≤ v) : (((g + v).toNat : Nat) : Int) % 4 = (g + v) % 4 := by rw [Int.toNat_of_nonneg (by omega)]
theorem turn_b {g v : Int} (h : 0 ≤ g) (h1 : v ≤ 3) : (((g + 4 - v).toNat : Nat) : Int) % 4 = (g + 4 - v) % 4 := by rw [Int.toNat_of_nonneg (by omega)]
theorem turn1_of {st : List Int} {x y vv : Int} {a b : Int} {u : List Value} (h : IntsAre u ((st.set x.toNat a).set y.toNat b)) (ha : a = (st.getD x.toNat 0 + vv) % 4) (hb : b = ((st.set x.toNat a).getD y.toNat 0 + 4 - vv) % 4) : IntsAre u (turn1 x.toNat y.toNat vv st) := by
  subst ha
  subst hb
  exact h
theorem four_at {svs : List Value} {st : List Int} (h : IntsAre svs st) (h4 : st.length = 4) : ∃ a b c d k1 k2 k3 k4, st = [a, b, c, d] ∧ svs = [.int a k1, .int b k2, .int c k3, .int d k4] := by
  match st, h4 with
  | [a, b, c, d], _ =>
    cases h with | cons _ k1 h => cases h with | cons _ k2 h => cases h with | cons _ k3 h => cases h with | cons _ k4 h =>
      cases h; exact ⟨_, _, _, _, k1, k2, k3, k4, rfl, rfl⟩

inductive J3a (l q : Addr) (ties : List (Int × Int)) (i : Nat) (m : Str → Option Value) (nx : List (Addr × Obj)) : Prop
  | mk  (sl : Addr) (ws : List Value) (n : Nat) (_ : (sl, listOf ws.toArray n) ∈ nx) (_ : ListsIn nx ws (standsOf (ties.take i))) (_ : FrameIs NoN m [("ties", .ref l), ("turned", .ref q), ("stands", .ref sl)] ["out", "into", "longer", "stand", "v", "one"]) : J3a l q ties i m nx
inductive J3b (l q sl lg I : Addr) (oI : Obj) (nx : List (Addr × Obj)) (ties : List (Int × Int)) (i : Nat) (x y : Int) (t1 t2 : Tok) (k : Nat) (m : Str → Option Value) (nx2 : List (Addr × Obj)) : Prop
  | mk  (ws2 : List Value) (n2 : Nat) (cst : List (Addr × Obj)) (_ : nx2 = (lg, listOf ws2.toArray n2) :: cst) (_ : (∀ p ∈ cst, p.1 ≠ lg)) (_ : (∀ p ∈ (I, oI) :: nx, p ∈ cst)) (_ : ListsIn cst ws2 (((standsOf (ties.take i)).take k).flatMap (turn3 (x, y)))) (_ : FrameIs NoN m [("ties", .ref l), ("turned", .ref q), ("stands", .ref sl), ("out", .int x t1), ("into", .int y t2), ("longer", .ref lg)] ["out", "into", "longer", "stand", "v", "one"]) : J3b l q sl lg I oI nx ties i x y t1 t2 k m nx2
inductive J3c (l q sl lg l3a I' sa : Addr) (oI' : Obj) (cst : List (Addr × Obj)) (ties : List (Int × Int)) (i k : Nat) (x y : Int) (t1 t2 tk2 : Tok) (st : List Int) (j : Nat) (m : Str → Option Value) (nx3 : List (Addr × Obj)) : Prop
  | mk  (ws3 : List Value) (n3 : Nat) (cst3 : List (Addr × Obj)) (_ : nx3 = (lg, listOf ws3.toArray n3) :: cst3) (_ : (∀ p ∈ cst3, p.1 ≠ lg)) (_ : (∀ p ∈ (l3a, listOf [Value.int 1 tk2, .int 2 (tk2 + 1), .int 3 (tk2 + 1 + 1)].toArray 0) :: (I', oI') :: cst, p ∈ cst3)) (_ : ListsIn cst3 ws3 (((standsOf (ties.take i)).take k).flatMap (turn3 (x, y)) ++ (turn3 (x, y) st).take j)) (_ : FrameIs NoN m [("ties", .ref l), ("turned", .ref q), ("stands", .ref sl), ("out", .int x t1), ("into", .int y t2), ("longer", .ref lg), ("stand", .ref sa)] ["out", "into", "longer", "stand", "v", "one"]) : J3c l q sl lg l3a I' sa oI' cst ties i k x y t1 t2 tk2 st j m nx3
theorem c_stands (w : World) (l q : Addr) (vs : List Value) (ties : List (Int × Int)) (tq : Nat → Tok) : Mine.Con w 115 2 [.ref l, .ref q] (fun h => TiesAt h l vs ties ∧ ties.length ≤ 6 ∧ (∀ p ∈ ties, 0 ≤ p.1 ∧ p.1 < 4 ∧ 0 ≤ p.2 ∧ p.2 < 4) ∧ Idx h q 7 (fun i => .int ((i : Int) % 4) (tq i))) (fun tl r => ∃ a ws n, r = .ref a ∧ (a, listOf ws.toArray n) ∈ tl ∧ IntsAre ws ((standsOf ties).map code)) := by
  w_top off
  refine Mine.Con.of ?_
  k_fill
  intro loose mean mg mb dp un gd cn cs a ccd cl outer A₀ base h₀ L m sh sg sd sk so Q E B F X T hk hd hu hp hret
  obtain ⟨⟨hl, hty⟩, hlen6, hb, hI⟩ := hp
  refine wpAny_call ?_
  k_dflt (refine' Mine.callG (binds := [("ties", .ref l), ("turned", .ref q)]) ?k1 ?k2 ?k3 ?k5 ?kA ?kF ?kK ?k6 ?k7 ?k8 ?k9 ?kB ?kD ?_ ?c2 ?c3 ?c4 ?c5; (case kA => exact rfl); (case kF => exact rfl); (case kK => assumption); (case k1 => k_asm); (case k2 => k_asm); (case k3 => k_asm); (case k5 => k_asm); (case k6 => k_is); (case k7 => k_is); (case k8 => ktr_room); (case k9 => exact BindsTo.of_eq rfl); (case c5 => decide); (case kB => exact locs rfl); (case kD => exact rfl); (case c2 => exact rfl); (case c3 => exact rfl); (case c4 => exact rfl); k_whole; intro L' h' F' N' B' X' T'; (try dsimp only); (try k_fold))
  w_strict (repeat' (first | (k_unfold; (try dsimp only)) | (walk1; all_goals (try dsimp only)) | (dsimp only; walk1; all_goals (try dsimp only))))
  (refine ⟨?_⟩); (refine For_invT sh ?_ (by intro _; rfl)); (w_strict (repeat' (first | (k_unfold; (try dsimp only)) | (walk1; all_goals (try dsimp only)) | (dsimp only; walk1; all_goals (try dsimp only))))); (refine ⟨?_⟩); (rename Fr _ _ _ _ => F1); (rename News _ _ _ _ => N1)
  refine iterTB (J := J3a l q ties) (by rfl) hl F1 N1 ⟨_, _, _, .head _, .cons ⟨_, _, _, rfl, .tail _ (.head _), .cons _ _ (.cons _ _ (.cons _ _ (.cons _ _ .nil)))⟩ .nil, FrameIs.set FrameIs.base⟩ ?_ ?_
  · intro i v m₁ nx s₁ I oI hv hPat0 hnI hIt F2 N2
    refine Mine.abs_goal fun PP kPP => ?_
    obtain ⟨sl, ws, n, hsl, hws, hm⟩ := hPat0
    refine kPP ?_
    clear kPP
    have F3 := hm.fr F2
    clear F2 F1 N1
    obtain ⟨⟨x, y⟩, hxy, ta, t1, t2, rfl, htup⟩ := hty.get hv
    obtain ⟨hx0, hx4, hy0, hy4⟩ := hb (x, y) (List.mem_of_getElem? hxy)
    dsimp only at hx0 hx4 hy0 hy4 htup
    (show wpAny _ _ _ _ _ _); k_fold
    w_strict (repeat' (first | (k_unfold; (try dsimp only)) | (walk1; all_goals (try dsimp only)) | (dsimp only; walk1; all_goals (try dsimp only))))
    (refine ⟨?_⟩); (refine For_invV sh (by rfl) (by rfl) ?_); (w_strict (repeat' (first | (k_unfold; (try dsimp only)) | (walk1; all_goals (try dsimp only)) | (dsimp only; walk1; all_goals (try dsimp only))))); (refine ⟨?_⟩); (rename Fr _ _ _ _ => F1); (rename News _ _ _ _ => N1)
    rename _ ∧ AllLt _ _ => l1
    obtain ⟨lg, e9, l1⟩ := name_it (P := fun d => I < d ∧ AllLt d nx) l1
    subst e9
    have hok : ∀ s ∈ standsOf (ties.take i), StOk s := standsOf_ok fun p hp => hb p (List.mem_of_mem_take hp)
    refine iterL (nn := n) (vs := ws) (J := J3b l q sl lg I oI nx ties i x y t1 t2) (by rfl) (fun _ _ _ ⟨_, _, _, e, _, hs, _, _⟩ => e ▸ .tail _ (hs _ (.tail _ hsl))) F1 N1 ⟨[], 0, _, rfl, all_cons (Nat.ne_of_lt l1.1) (allLt_ne l1.2), fun _ h => h, .nil, FrameIs.set (FrameIs.set (FrameIs.set FrameIs.kstb))⟩ ?_ ?_
    · intro k v m₂ nx2 h2 tk2 I' oI' hv2 hPat0 hnI' hIt' F2 N2
      refine Mine.abs_goal fun PP kPP => ?_
      obtain ⟨ws2, n2, cst, rfl, hap, hsub, hws2, hm2⟩ := hPat0
      refine kPP ?_
      clear kPP
      have F3 := hm2.fr1 F2
      clear F2 F1 N1
      obtain ⟨st, hst, sa, svs, sn, rfl, hsa, hsi⟩ := hws.get hv2
      have hsok := hok st (List.mem_of_getElem? hst)
      (show wpAny _ _ _ _ _ _); k_fold
      w_strict (repeat' (first | (k_unfold; (try dsimp only)) | (walk1; all_goals (try dsimp only)) | (dsimp only; walk1; all_goals (try dsimp only))))
      (refine ⟨?_⟩); (refine For_invV sh (by rfl) (by rfl) ?_); (w_strict (repeat' (first | (k_unfold; (try dsimp only)) | (walk1; all_goals (try dsimp only)) | (dsimp only; walk1; all_goals (try dsimp only))))); (refine ⟨?_⟩); (rename Fr _ _ _ _ => F1); (rename News _ _ _ _ => N1)
      rename _ < _ ∧ _ < _ ∧ AllLt _ _ => l3
      obtain ⟨l3a, e9, l3⟩ := name_it (P := fun d => I' < d ∧ lg < d ∧ AllLt d cst) l3
      subst e9
      have N3 := news_sub N1 mem_c2
      refine iterL (l := l3a) (nn := 0) (vs := [.int 1 tk2, .int 2 (tk2 + 1), .int 3 (tk2 + 1 + 1)]) (J := J3c l q sl lg l3a I' sa oI' cst ties i k x y t1 t2 tk2 st) (by rfl) (fun _ _ _ ⟨_, _, _, e, _, hs, _, _⟩ => e ▸ .tail _ (hs _ (.head _))) F1 N3 ⟨ws2, n2, _, rfl, all_cons (Nat.ne_of_gt l3.2.1) (all_cons (Ne.symm (hnI' _ (.head _))) hap), fun _ h => h, (by rw [List.take_zero, List.append_nil]; exact hws2.mono fun p hp => .tail _ (.tail _ hp)), FrameIs.set FrameIs.kstb⟩ ?_ ?_
      · intro j v m₃ nx3 h3 tk3 I'' oI'' hv3 hPat0 hnI'' hIt'' F2 N2
        refine Mine.abs_goal fun PP kPP => ?_
        obtain ⟨ws3, n3, cst3, rfl, hap3, hsub3, hws3, hm3⟩ := hPat0
        refine kPP ?_
        clear kPP
        obtain ⟨vv, tv, rfl, hvv, hvj⟩ := three_at (x := x) (y := y) (st := st) hv3
        have F3 := hm3.fr1 F2
        clear F2 F1 N1
        have hsa3 := hsub3 _ (.tail _ (.tail _ (hsub _ (.tail _ hsa))))
        have hs4 := hsok.1
        have hsv4 : svs.length = 4 := hsi.length.trans hs4
        have hlgI : @Ne Nat lg I'' := hnI'' _ (.head _)
        have hz3 : ws3.length ≤ 10000 := by
          rw [hws3.length, List.length_append]
          exact stands_room hlen6
        obtain ⟨hg0, hg1⟩ := hsok.getD x.toNat
        obtain ⟨hg2, hg3⟩ := (hsok.set x.toNat ((((st.getD x.toNat 0 + vv).toNat : Nat) : Int) % 4) (by omega) (by omega)).getD y.toNat
        (show wpAny _ _ _ _ _ _); k_fold
        w_strict (repeat' (first | (k_unfold; (try dsimp only)) | (walk1; all_goals (try dsimp only)) | (dsimp only; walk1; all_goals (try dsimp only))))
        rename Fr _ _ _ _ => FF
        rename News _ _ _ _ => NN
        rename _ < _ ∧ _ < _ ∧ AllLt _ _ => lD
        rename IntsAre _ _ => hfin
        refine MPost.next3 FF NN hlgI lD.1 (fun p hp => hnI'' p (.tail _ hp)) ?_
        refine ⟨_, _, _, rfl, all_cons (Nat.ne_of_gt lD.2.1) hap3, fun p hp => .tail _ (hsub3 p hp), ?_, FrameIs.skip (FrameIs.skip FrameIs.kstb)⟩
        rw [take_one hvj, ← List.append_assoc]
        refine All2.append (hws3.mono fun p hp => .tail _ hp) (.cons ⟨_, _, _, rfl, .head _, ?_⟩ .nil)
        exact turn1_of hfin (turn_a hg0 hvv.1) (turn_b hg2 hvv.2)
      · intro m₃ nx3 h3 tk3 hPat0 F2 N2
        refine Mine.abs_goal fun PP kPP => ?_
        obtain ⟨ws3, n3, cst3, rfl, hap3, hsub3, hws3, hm3⟩ := hPat0
        refine kPP ?_
        clear kPP
        dsimp only
        w_strict (repeat' (first | (k_unfold; (try dsimp only)) | (walk1; all_goals (try dsimp only)) | (dsimp only; walk1; all_goals (try dsimp only))))
        have hI3 : (I', oI') ∈ cst3 := hsub3 _ (.tail _ (.head _))
        refine MPost.next ((lg, listOf ws3.toArray n3) :: butI I' cst3) F2 N2 (.tail _ hI3) (all_cons ⟨.head _, hnI' (lg, listOf ws2.toArray n2) (.head _)⟩ fun p hp => ⟨.tail _ (butI_sub p hp).1, (butI_sub p hp).2⟩) ⟨ws3, n3, _, rfl, fun p hp => hap3 p (butI_sub p hp).1, fun p hp => List.mem_filter.mpr ⟨hsub3 _ (.tail _ (.tail _ (hsub p hp))), decide_eq_true (hnI' p (.tail _ (hsub p hp)))⟩, ?_, hm3.drop⟩
        have := butI_lists (news_sub N2 fun p hp => .tail _ hp) hI3 hIt' (fun p hp => hp) hws3
        rw [take_one hst, List.flatMap_append, List.flatMap_singleton]
        exact this
    · intro m₂ nx2 h2 tk2 hPat0 F2 N2
      refine Mine.abs_goal fun PP kPP => ?_
      obtain ⟨ws2, n2, cst, rfl, hap, hsub, hws2, hm2⟩ := hPat0
      refine kPP ?_
      clear kPP
      have F3 := hm2.fr F2
      clear F2 F1 N1
      dsimp only
      w_strict (repeat' (first | (k_unfold; (try dsimp only)) | (walk1; all_goals (try dsimp only)) | (dsimp only; walk1; all_goals (try dsimp only))))
      rename Fr _ _ _ _ => FF
      rename News _ _ _ _ => NN
      have hI2 : (I, oI) ∈ cst := hsub _ (.head _)
      refine ⟨rfl, MEnd.intro (nx := butI I ((lg, listOf ws2.toArray n2) :: cst)) FF NN (.tail _ hI2) butI_sub ⟨lg, ws2, n2, butI_list NN (.tail _ hI2) hIt (.head _), ?_, ?_⟩⟩
      · rw [hws.length] at hws2
        rw [List.take_length] at hws2
        rw [take_one hxy]
        have := butI_lists NN (.tail _ hI2) hIt (fun p hp => .tail _ hp) hws2
        simpa [standsOf, List.foldl_append] using this
      · exact (FrameIs.set FrameIs.kstb : FrameIs NoN _ [("ties", .ref l), ("turned", .ref q), ("stands", .ref lg), ("out", .int x t1), ("into", .int y t2), ("longer", .ref lg)] _).drop.drop.drop
  · intro m₁ nx h2 tk2 hPat0 F2 N2
    refine Mine.abs_goal fun PP kPP => ?_
    obtain ⟨sl, ws, n, hsl, hws, hm⟩ := hPat0
    refine kPP ?_
    clear kPP
    have F3 := hm.fr F2
    clear F2 F1 N1
    dsimp only
    w_strict (repeat' (first | (k_unfold; (try dsimp only)) | (walk1; all_goals (try dsimp only)) | (dsimp only; walk1; all_goals (try dsimp only))))
    refine ⟨?_⟩
    have hlen : ws.length ≤ 1000 := by
      rw [hws.length, standsOf_len]
      exact Nat.le_trans (Nat.pow_le_pow_right (by decide) (by rw [List.length_take]; omega)) (show 3 ^ 6 ≤ 1000 by decide)
    rw [hty.length, List.take_length] at hws
    k_dflt (refine compG F3 (xs := [("a", _), ("b", _), ("c", _), ("d", _)]) (by rfl) (by with_unfolding_all rfl) (by decide) (by rfl) (by decide) (by decide) ?_)
    w_strict walk1
    have hok := standsOf_ok hb
    refine ⟨sl, ws, nx, fun i ys nx' => (∀ p ∈ nx, p ∈ nx') ∧ IntsAre ys (((standsOf ties).take i).map code), rfl, F3, N2, Nat.le_trans hlen (by decide), ⟨fun _ h => h, .nil⟩, fun i ys nx' h9 hj _ N9 => ⟨_, (N9 _ (hj.1 _ hsl)).1, rfl, _, rfl⟩, ?_, ?_⟩
    · rintro i v ys nx' hv ⟨hsub, hys⟩
      obtain ⟨st, hst, sa, svs, sn, rfl, hsa, hsi⟩ := hws.get hv
      obtain ⟨x1, x2, x3, x4, k1, k2, k3, k4, rfl, rfl⟩ := four_at hsi (hok st (List.mem_of_getElem? hst)).1
      have hb1 := (hok _ (List.mem_of_getElem? hst)).2
      refine ⟨[.int x1 k1, .int x2 k2, .int x3 k3, .int x4 k4], rfl, fun h9 _ N9 => ⟨sa, rfl, .inr ⟨_, (N9 _ (hsub _ hsa)).1, rfl, _, rfl⟩⟩, ?_⟩
      intro I oI C oC D m₂ h3 tk3 E3 hit hC hz F9 N9 off9 ne9
      have hz1 : m₂ "a" = some (.int x1 k1) := hz _ _ rfl
      have hz2 : m₂ "b" = some (.int x2 k2) := hz _ _ rfl
      have hz3 : m₂ "c" = some (.int x3 k3) := hz _ _ rfl
      have hz4 : m₂ "d" = some (.int x4 k4) := hz _ _ rfl
      clear F3
      w_strict (repeat' (first | (k_unfold; (try dsimp only)) | (walk1; all_goals (try dsimp only)) | (dsimp only; walk1; all_goals (try dsimp only))))
      refine ⟨_, _, nx', rfl, F9, N9, off9, hsub, ?_⟩
      rw [take_one hst, List.map_append]
      exact ints_app hys (.cons _ _ .nil)
    · intro ys nx' D h9 tk9 hPat0 F9 N9 hne
      refine Mine.abs_goal fun PP kPP => ?_
      obtain ⟨hsub, hys⟩ := hPat0
      refine kPP ?_
      clear kPP
      w_strict (repeat' (first | (k_unfold; (try dsimp only)) | (walk1; all_goals (try dsimp only)) | (dsimp only; walk1; all_goals (try dsimp only))))
      rw [hws.length, List.take_length] at hys
      exact hret _ _ _ _ F9.keep (fun p hp => ⟨(N9 p hp).1, (N9 p hp).2.2⟩) ⟨D, ys, _, rfl, .head _, hys⟩
end Mine
end
section
namespace Mine
def okPair (M : Nat → Nat → Int) (full a b : Int) : Bool := decide (M (a % 8).toNat (b % 8).toNat = full % 8) && decide (M (a / 8).toNat (b / 8).toNat = full / 8)
def cntIn (M : Nat → Nat → Int) (full a : Int) (l : List Int) : Int := ((l.filter (okPair M full a)).length : Int)
def lightsWays (M : Nat → Nat → Int) (full : Int) (ns pre : List Int) : Int := (pre.map fun a => cntIn M full a ns).sum
theorem cntIn_yes {M : Nat → Nat → Int} {full a b : Int} {l : List Int} {i : Nat} (h : l[i]? = some b) (h1 : M (a.fmod 8).toNat (b.fmod 8).toNat = full.fmod 8) (h2 : M (a.fdiv 8).toNat (b.fdiv 8).toNat = full.fdiv 8) : cntIn M full a (l.take (i + 1)) = cntIn M full a (l.take i) + 1 := by
  simp only [fm8, fd8] at h1 h2
  simp [cntIn, take_one h, List.filter_append, okPair, h1, h2]
theorem cntIn_no1 {M : Nat → Nat → Int} {full a b : Int} {l : List Int} {i : Nat} (h : l[i]? = some b) (h1 : M (a.fmod 8).toNat (b.fmod 8).toNat ≠ full.fmod 8) : cntIn M full a (l.take (i + 1)) = cntIn M full a (l.take i) := by
  simp only [fm8, fd8] at h1
  simp [cntIn, take_one h, List.filter_append, okPair, h1]
theorem cntIn_no2 {M : Nat → Nat → Int} {full a b : Int} {l : List Int} {i : Nat} (h : l[i]? = some b) (h1 : M (a.fdiv 8).toNat (b.fdiv 8).toNat ≠ full.fdiv 8) : cntIn M full a (l.take (i + 1)) = cntIn M full a (l.take i) := by
  simp only [fm8, fd8] at h1
  simp [cntIn, take_one h, List.filter_append, okPair, h1]
theorem lights_step {M : Nat → Nat → Int} {full a : Int} {ns : List Int} {i : Nat} (h : ns[i]? = some a) : lightsWays M full ns (ns.take (i + 1)) = lightsWays M full ns (ns.take i) + cntIn M full a ns := by
  simp [lightsWays, take_one h]
inductive J2a (l j : Addr) (full : Int) (tf : Tok) (ns : List Int) (M : Nat → Nat → Int) (i : Nat) (m : Str → Option Value) (nx : List (Addr × Obj)) : Prop
  | mk (_ : nx = []) (W : Int) (t : Tok) (_ : W = lightsWays M full ns (ns.take i)) (_ : Mine.FrameIs Mine.NoN m [("even", .ref l), ("full", .int full tf), ("joined", .ref j), ("ways", .int W t)] ["a", "b"]) : J2a l j full tf ns M i m nx
inductive J2b (l j I : Addr) (oI : Obj) (full : Int) (tf : Tok) (ns : List Int) (M : Nat → Nat → Int) (a W : Int) (ta : Tok) (k : Nat) (m : Str → Option Value) (nx : List (Addr × Obj)) : Prop
  | mk (_ : nx = [(I, oI)]) (V : Int) (t : Tok) (_ : V = W + cntIn M full a (ns.take k)) (_ : Mine.FrameIs Mine.NoN m [("even", .ref l), ("full", .int full tf), ("joined", .ref j), ("ways", .int V t), ("a", .int a ta)] ["a", "b"]) : J2b l j I oI full tf ns M a W ta k m nx
theorem c_lights (w : World) (l j : Addr) (vs : List Value) (ns : List Int) (full : Int) (tf : Tok) (rows : Nat → Addr) (M : Nat → Nat → Int) (tk : Nat → Nat → Tok) : Mine.Con w 137 2 [.ref l, .int full tf, .ref j] (fun h => h.IsList l vs.toArray ∧ IntsAre vs ns ∧ (∀ x ∈ ns, 0 ≤ x ∧ x < 64) ∧ 0 ≤ full ∧ full < 64 ∧ Mine.Idx h j 8 (fun i => .ref (rows i)) ∧ Mine.Rows h 8 8 rows M tk) (fun _ r => ∃ t, r = .int (lightsWays M full ns ns) t) := by
  w_top off
  refine Mine.Con.of ?_
  k_fill
  intro loose mean mg mb dp un gd cn cs a ccd cl outer A₀ base h₀ L m sh sg sd sk so Q E B F X T hk hd hu hp hret
  obtain ⟨hl, hi, hb, hf0, hf1, hI, hR⟩ := hp
  refine wpAny_call ?_
  k_dflt (refine' Mine.callG (binds := [("even", .ref l), ("full", .int full tf), ("joined", .ref j)]) ?k1 ?k2 ?k3 ?k5 ?kA ?kF ?kK ?k6 ?k7 ?k8 ?k9 ?kB ?kD ?_ ?c2 ?c3 ?c4 ?c5; (case kA => exact rfl); (case kF => exact rfl); (case kK => assumption); (case k1 => k_asm); (case k2 => k_asm); (case k3 => k_asm); (case k5 => k_asm); (case k6 => k_is); (case k7 => k_is); (case k8 => ktr_room); (case k9 => exact BindsTo.of_eq rfl); (case c5 => decide); (case kB => exact locs rfl); (case kD => exact rfl); (case c2 => exact rfl); (case c3 => exact rfl); (case c4 => exact rfl); k_whole; intro L' h' F' N' B' X' T'; (try dsimp only); (try k_fold))
  w_strict (repeat' (first | (k_unfold; (try dsimp only)) | (walk1; all_goals (try dsimp only)) | (dsimp only; walk1; all_goals (try dsimp only))))
  (refine ⟨?_⟩); (refine For_invV sh (by rfl) (by rfl) ?_); (w_strict (repeat' (first | (k_unfold; (try dsimp only)) | (walk1; all_goals (try dsimp only)) | (dsimp only; walk1; all_goals (try dsimp only))))); (refine ⟨?_⟩); (rename Fr _ _ _ _ => F1); (rename News _ _ _ _ => N1)
  refine Mine.iterB (J := J2a l j full tf ns M) (by rfl) hl F1 N1 ⟨rfl, 0, _, rfl, Mine.FrameIs.set Mine.FrameIs.base⟩ ?_ ?_
  · intro i v m₁ nx h tk I oI hv hPat0 hnI hIt F2 N2
    refine Mine.abs_goal fun PP kPP => ?_
    obtain ⟨rfl, W, t, hW, hm⟩ := hPat0
    refine kPP ?_
    clear kPP
    have F3 := hm.fr1 F2
    clear F2
    obtain ⟨a, ha, ta, rfl⟩ := int_at hi hv
    have hab := hb a (List.mem_of_getElem? ha)
    (show wpAny _ _ _ _ _ _); k_fold
    w_strict (repeat' (first | (k_unfold; (try dsimp only)) | (walk1; all_goals (try dsimp only)) | (dsimp only; walk1; all_goals (try dsimp only))))
    (refine ⟨?_⟩); (refine For_invV sh (by rfl) (by rfl) ?_); (w_strict (repeat' (first | (k_unfold; (try dsimp only)) | (walk1; all_goals (try dsimp only)) | (dsimp only; walk1; all_goals (try dsimp only))))); (refine ⟨?_⟩); (rename Fr _ _ _ _ => F1); (rename News _ _ _ _ => N1)
    refine Mine.iterB (J := J2b l j I oI full tf ns M a W ta) (by rfl) hl F1 N1 ⟨rfl, W, t, by simp [cntIn], Mine.FrameIs.set Mine.FrameIs.kstb⟩ ?_ ?_
    · intro k v m₂ nx h tk I' oI' hv' hPat0 hnI' hIt' F2 N2
      refine Mine.abs_goal fun PP kPP => ?_
      obtain ⟨rfl, V, t, hV, hm⟩ := hPat0
      refine kPP ?_
      clear kPP
      have F3 := hm.fr1 F2
      clear F2
      obtain ⟨b, hb', tb, rfl⟩ := int_at hi hv'
      have hbb := hb b (List.mem_of_getElem? hb')
      (show wpAny _ _ _ _ _ _); k_fold
      w_strict (repeat' (first | (k_unfold; (try dsimp only)) | (walk1; all_goals (try dsimp only)) | (dsimp only; walk1; all_goals (try dsimp only))))
      all_goals ((rename Fr _ _ _ _ => FF); (rename News _ _ _ _ => NN))
      · refine MPost.next _ FF NN (.head _) (fun p hp => ⟨.tail _ hp, hnI' p hp⟩) ⟨rfl, _, _, ?_, FrameIs.set (FrameIs.skip FrameIs.kstb)⟩
        rw [hV, cntIn_yes hb' (by assumption) (by assumption)]; omega
      · refine MPost.next _ FF NN (.head _) (fun p hp => ⟨.tail _ hp, hnI' p hp⟩) ⟨rfl, _, _, ?_, FrameIs.skip FrameIs.kstb⟩
        rw [hV, cntIn_no2 hb' (by assumption)]
      · refine MPost.next _ FF NN (.head _) (fun p hp => ⟨.tail _ hp, hnI' p hp⟩) ⟨rfl, _, _, ?_, FrameIs.skip FrameIs.kstb⟩
        rw [hV, cntIn_no1 hb' (by assumption)]
    · intro m₂ nx h tk hPat0 F2 N2
      refine Mine.abs_goal fun PP kPP => ?_
      obtain ⟨rfl, V, t, hV, hm⟩ := hPat0
      refine kPP ?_
      clear kPP
      dsimp only
      w_strict (repeat' (first | (k_unfold; (try dsimp only)) | (walk1; all_goals (try dsimp only)) | (dsimp only; walk1; all_goals (try dsimp only))))
      rw [hi.length, List.take_length] at hV
      refine MPost.next [] F2 N2 (.head _) (fun p hp => nomatch hp) ⟨rfl, _, _, ?_, hm.drop⟩
      rw [hV, hW, lights_step ha]
  · intro m₂ nx h tk hPat0 F2 N2
    refine Mine.abs_goal fun PP kPP => ?_
    obtain ⟨rfl, W, t, hW, hm⟩ := hPat0
    refine kPP ?_
    clear kPP
    have F3 := hm.fr F2
    clear F1 F2
    rw [hi.length, List.take_length] at hW
    dsimp only
    w_strict (repeat' (first | (k_unfold; (try dsimp only)) | (walk1; all_goals (try dsimp only)) | (dsimp only; walk1; all_goals (try dsimp only))))
    exact hret _ [] _ _ F3.keep (fun p hp => nomatch hp) ⟨t, by rw [hW]⟩
end Mine
end
section
local macro_rules | `(tactic| walk_at "eval ListComp Name cons") => `(tactic| (refine Mine.Stop.out ?_))
namespace Mine
theorem c_iseof (w : World) (x : Int) (t : Tok) : Mine.Con w 93 1 [.int x t] (fun _ => True) (fun _ r => r = .bool (decide (x = 0))) := by
  w_top off
  refine Mine.Con.of ?_
  k_fill
  intro loose mean mg mb dp un gd cn cs a ccd cl outer A₀ base h₀ L m sh sg sd sk so Q E B F X T hk hd hu hp hret
  refine wpAny_call ?_
  k_dflt (refine' Mine.callG (binds := [("x", .int x t)]) ?k1 ?k2 ?k3 ?k5 ?kA ?kF ?kK ?k6 ?k7 ?k8 ?k9 ?kB ?kD ?_ ?c2 ?c3 ?c4 ?c5; (case kA => exact rfl); (case kF => exact rfl); (case kK => assumption); (case k1 => k_asm); (case k2 => k_asm); (case k3 => k_asm); (case k5 => k_asm); (case k6 => k_is); (case k7 => k_is); (case k8 => ktr_room); (case k9 => exact BindsTo.of_eq rfl); (case c5 => decide); (case kB => exact locs rfl); (case kD => exact rfl); (case c2 => exact rfl); (case c3 => exact rfl); (case c4 => exact rfl); k_whole; intro L' h' F' N' B' X' T'; (try dsimp only); (try k_fold))
  w_strict (repeat' (first | (k_unfold; (try dsimp only)) | (walk1; all_goals (try dsimp only)) | (dsimp only; walk1; all_goals (try dsimp only))))
  rename Fr sh _ _ _ => FF
  exact hret _ [] _ _ FF.keep (fun p hp => nomatch hp) rfl
def xorOne (p : Int × Int) (s : Int) : Int := Builtin.bitXor s (2 ^ p.1.toNat + 2 ^ p.2.toNat)
def leftOf (ties : List (Int × Int)) : List Int := ties.foldl (fun left p => left ++ left.map (xorOne p)) [0]
theorem leftOf_len (ties : List (Int × Int)) : (leftOf ties).length = 2 ^ ties.length := by
  have : ∀ (l : List (Int × Int)) (s : List Int), (l.foldl (fun left p => left ++ left.map (xorOne p)) s).length = 2 ^ l.length * s.length := by
    intro l
    induction l with
    | nil => intro s; simp
    | cons p l ih => intro s; rw [List.foldl_cons, ih, List.length_append, List.length_map, List.length_cons, Nat.pow_succ, Nat.mul_assoc]; congr 1; omega
  rw [leftOf, this]; simp
def evenTo (left : List Int) (j : Nat) : List Int := ((List.range j).filter fun k => decide (left.getD k 0 = 0)).map fun (k : Nat) => (k : Int)
theorem evenTo_yes {left : List Int} {j : Nat} (h : left.getD (0 + (j : Int)).toNat 0 = 0) : evenTo left (j + 1) = evenTo left j ++ [0 + (j : Int)] := by
  have e : (0 + (j : Int)).toNat = j := by omega
  rw [e] at h
  simp only [evenTo, List.range_succ, List.filter_append, List.map_append, List.filter_cons, List.filter_nil, h]
  simp
theorem evenTo_no {left : List Int} {j : Nat} (h : left.getD (0 + (j : Int)).toNat 0 ≠ 0) : evenTo left (j + 1) = evenTo left j := by
  have e : (0 + (j : Int)).toNat = j := by omega
  rw [e] at h
  simp only [evenTo, List.range_succ, List.filter_append, List.map_append, List.filter_cons, List.filter_nil, decide_eq_false h]
  simp
inductive J4a (L' l : Addr) (ties : List (Int × Int)) (i : Nat) (m : Str → Option Value) (nx : List (Addr × Obj)) : Prop
  | mk (_ : m = frB NoN [("ties", .ref l)]) (lf : Addr) (ws : List Value) (n : Nat) (o1 o2 o3 : Obj) (cst : List (Addr × Obj)) (v1 v2 : Option Value) (_ : nx = (L' + 1 + 1 + 1, o1) :: (L' + 1 + 1, o2) :: (L' + 1, o3) :: cst) (_ : o3.data = .cell (some (.ref lf))) (_ : o1.data = .cell v1) (_ : o2.data = .cell v2) (_ : (lf, listOf ws.toArray n) ∈ cst) (_ : IntsAre ws (leftOf (ties.take i))) (_ : ∀ p ∈ cst, @LT.lt Nat _ (L' + 3) p.1) : J4a L' l ties i m nx
theorem c_even (w : World) (l : Addr) (vs : List Value) (ties : List (Int × Int)) : Mine.Con w 125 3 [.ref l] (fun h => TiesAt h l vs ties ∧ ties.length ≤ 6 ∧ (∀ p ∈ ties, 0 ≤ p.1 ∧ p.1 < 4 ∧ 0 ≤ p.2 ∧ p.2 < 4)) (fun tl r => ∃ a ws n, r = .ref a ∧ (a, listOf ws.toArray n) ∈ tl ∧ IntsAre ws (evenTo (leftOf ties) (leftOf ties).length)) := by
  w_top off
  refine Mine.Con.of ?_
  k_fill
  intro loose mean mg mb dp un gd cn cs a ccd cl outer A₀ base h₀ L m sh sg sd sk so Q E B F X T hk hd hu hp hret
  obtain ⟨⟨hl, hty⟩, hlen6, hb⟩ := hp
  refine wpAny_call ?_
  k_dflt (refine' Mine.callFC (binds := [("ties", .ref l)]) ?k1 ?k2 ?k3 ?k5 ?kA ?kF ?kK ?k6 ?k7 ?k8 ?k9 ?kB ?kD ?_ ?c2 ?c3 ?c4; (case kA => exact rfl); (case kF => exact rfl); (case kK => assumption); (case k1 => k_asm); (case k2 => k_asm); (case k3 => k_asm); (case k5 => k_asm); (case k6 => k_is); (case k7 => k_is); (case k8 => ktr_room); (case k9 => exact BindsTo.of_eq rfl); (case kB => exact rfl); (case kD => decide +kernel); (case c2 => exact rfl); (case c3 => exact rfl); (case c4 => exact rfl); k_whole; intro L' h' tk' cells' F' N' Y' B' X' T'; k_cells Y'; (try simp only [List.cons_append, List.nil_append] at N'); (try dsimp only); (show wpAny _ _ _ _ _ _); k_fold)
  w_strict (repeat' (first | (k_unfold; (try dsimp only)) | (walk1; all_goals (try dsimp only)) | (dsimp only; walk1; all_goals (try dsimp only))))
  (refine ⟨?_⟩); (refine For_invT sh ?_ (by intro _; rfl)); (w_strict (repeat' (first | (k_unfold; (try dsimp only)) | (walk1; all_goals (try dsimp only)) | (dsimp only; walk1; all_goals (try dsimp only))))); (refine ⟨?_⟩); (rename Fr _ _ _ _ => F1); (rename News _ _ _ _ => N1)
  have F4 := fr_cast F1 (show _ = frB NoN [("ties", .ref l)] from by with_unfolding_all rfl)
  rename _ = Data.cell (some (.ref _)) => dl
  rename _ < _ ∧ _ < _ ∧ _ < _ => l1
  refine iterTB (m₀ := frB NoN [("ties", .ref l)]) (J := J4a L' l ties) (by rfl) hl F4 (news_sub N1 mem_c3) ⟨rfl, _, _, _, _, _, _, _, _, _, rfl, dl, by assumption, by assumption, .head _, .cons _ _ .nil, all_cons l1.1 fun _ hp => nomatch hp⟩ ?_ ?_
  · intro i v m₁ nx s₁ I oI hv hPat0 hnI hIt F2 N2
    refine Mine.abs_goal fun PP kPP => ?_
    obtain ⟨rfl, lf, ws, n, o1, o2, o3, cst, v1, v2, rfl, d3, d1, d2, hlf, hws, hab⟩ := hPat0
    refine kPP ?_
    clear kPP
    clear F1 F4 N1
    obtain ⟨⟨x, y⟩, hxy, ta, t1, t2, rfl, htup⟩ := hty.get hv
    obtain ⟨hx0, hx4, hy0, hy4⟩ := hb (x, y) (List.mem_of_getElem? hxy)
    dsimp only at hx0 hx4 hy0 hy4 htup
    have hc1 : ∀ p ∈ cst, p.1 ≠ L' + 1 := fun p hp => Nat.ne_of_gt (Nat.lt_trans (by omega) (hab p hp))
    have hc2 : ∀ p ∈ cst, p.1 ≠ L' + 1 + 1 := fun p hp => Nat.ne_of_gt (Nat.lt_trans (by omega) (hab p hp))
    have hc3 : ∀ p ∈ cst, p.1 ≠ L' + 1 + 1 + 1 := fun p hp => Nat.ne_of_gt (hab p hp)
    have hi1 : @Ne Nat (L' + 1 + 1 + 1) I := hnI _ (.head _)
    have hi2 : @Ne Nat (L' + 1 + 1) I := hnI _ (.tail _ (.head _))
    have hi3 : @Ne Nat (L' + 1) I := hnI _ (.tail _ (.tail _ (.head _)))
    (show wpAny _ _ _ _ _ _); k_fold
    w_strict (repeat' (first | (k_unfold; (try dsimp only)) | (walk1; all_goals (try dsimp only)) | (dsimp only; walk1; all_goals (try dsimp only))))
    refine ⟨?_⟩
    rename Fr _ _ _ _ => FF
    rename News _ _ _ _ => NN
    have hl64 : ws.length ≤ 64 := by
      rw [hws.length, leftOf_len]
      exact Nat.le_trans (Nat.pow_le_pow_right (by decide) (by rw [List.length_take]; omega)) (show 2 ^ 6 ≤ 64 by decide)
    refine LCg.CompSrc.ledger (by rfl) FF NN (.tail _ (.tail _ (.tail _ (.tail _ hlf)))) (by rw [List.size_toArray]; exact Nat.le_trans hl64 (by decide)) ?_
    intro g'
    refine restU (n := ws.toArray.size) (J := fun j ys nx' => nx' = _ ∧ IntsAre ys (((leftOf (ties.take i)).map (xorOne (x, y))).take j)) ?_ ?_ _ 0 [] _ (Nat.zero_add _) ⟨rfl, .nil⟩
    · intro k ys nx v I oI C oC D m₂ h tk E' hk hP hPat0 hC hx F9 N9 off9 ne9
      refine Mine.abs_goal fun PP kPP => ?_
      obtain ⟨rfl, hys⟩ := hPat0
      refine kPP ?_
      clear kPP
      obtain ⟨a, ha, tka, rfl⟩ := int_at hws (by simpa using hP)
      w_strict (repeat' (first | (k_unfold; (try dsimp only)) | (walk1; all_goals (try dsimp only)) | (dsimp only; walk1; all_goals (try dsimp only))))
      refine ⟨_, _, _, rfl, F9, N9, off9, .inr ⟨_, .tail _ (.tail _ (.tail _ (.tail _ hlf))), rfl, _, rfl⟩, rfl, ?_⟩
      rw [take_one (show ((leftOf (ties.take i)).map (xorOne (x, y)))[k]? = some _ from by rw [List.getElem?_map, ha]; rfl)]
      exact ints_app hys (.cons _ _ .nil)
    · intro ys nx hPat0 D h tk F9 N9 off9
      refine Mine.abs_goal fun PP kPP => ?_
      obtain ⟨rfl, hys⟩ := hPat0
      refine kPP ?_
      clear kPP
      have hy2 : IntsAre ys ((leftOf (ties.take i)).map (xorOne (x, y))) := by
        rw [List.size_toArray, hws.length, List.take_of_length_le (by simp)] at hys; exact hys
      refine kmk_add_ints F9 N9 ⟨_, (N9 _ (.tail _ (.tail _ (.tail _ (.tail _ (.tail _ hlf)))))).1, rfl, _, rfl⟩ ⟨_, (N9 _ (.head _)).1, rfl, _, rfl⟩ hws hy2 (fun D2 us h2 F2 N2 l2 hI2 => ?_) (by rw [List.length_map, ← hws.length]; exact Nat.le_trans (Nat.add_le_add hl64 hl64) (by decide))
      have N3 := news_sub N2 mem_d2
      have lc : ∀ p ∈ cst, p.1 < D2 := fun p hp => l2 p (.tail _ (.tail _ (.tail _ (.tail _ (.tail _ hp)))))
      have hD1 : @LT.lt Nat _ I D2 := l2 _ (.tail _ (.head _))
      have hD2 : @LT.lt Nat _ (L' + 1 + 1 + 1) D2 := l2 _ (.tail _ (.tail _ (.head _)))
      clear F9 N9 FF NN N2 l2
      dsimp only
      w_strict (repeat' (first | (k_unfold; (try dsimp only)) | (walk1; all_goals (try dsimp only)) | (dsimp only; walk1; all_goals (try dsimp only))))
      rename Fr _ _ _ _ => FF
      rename News _ _ _ _ => NN
      rename _ = Data.cell (some (.ref _)) => dl2
      refine ⟨rfl, MEnd.intro5 FF NN hD1 hi1 hi2 hi3 (fun p hp => hnI p (.tail _ (.tail _ (.tail _ hp)))) ?_⟩
      refine ⟨rfl, D2, us, 0, _, _, _, _, _, _, rfl, dl2, by assumption, by assumption, .head _, ?_, all_cons hD2 hab⟩
      rw [take_one hxy]
      simpa [leftOf, List.foldl_append] using hI2
  · intro m₂ nx h tk hPat0 F2 N2
    refine Mine.abs_goal fun PP kPP => ?_
    obtain ⟨rfl, lf, ws, n, o1, o2, o3, cst, v1, v2, rfl, d3, d1, d2, hlf, hws, hab⟩ := hPat0
    refine kPP ?_
    clear kPP
    clear F1 F4 N1
    dsimp only
    rw [hty.length, List.take_length] at hws
    w_strict (repeat' (first | (k_unfold; (try dsimp only)) | (walk1; all_goals (try dsimp only)) | (dsimp only; walk1; all_goals (try dsimp only))))
    refine ⟨?_⟩
    have hl64 : ws.length ≤ 64 := by
      rw [hws.length, leftOf_len]
      exact Nat.le_trans (Nat.pow_le_pow_right (by decide) hlen6) (show 2 ^ 6 ≤ 64 by decide)
    have hlen : (leftOf ties).length ≤ 64 := hws.length ▸ hl64
    k_dflt (refine LCt.ListComp_T (F₀ := F2) (by with_unfolding_all rfl) (by decide) (by rfl) (by decide) (by rfl) ?_)
    w_strict (repeat' (first | (k_unfold; (try dsimp only)) | (walk1; all_goals (try dsimp only)) | (dsimp only; walk1; all_goals (try dsimp only))))
    refine ⟨?_⟩
    rename IsRange _ _ _ _ _ _ _ _ => hrg
    rename Fr _ _ _ _ => FF
    rename News _ _ _ _ => NN
    refine LCt.CompSrcT.range (by rfl) FF NN hrg (small_L (by omega)) (n := (leftOf ties).length) (by rw [rangeSize_nat]; simp) (Nat.le_trans hlen (by decide)) ?_
    intro g'
    clear hrg
    refine restT (n := (leftOf ties).length) (J := fun j ys nx' => nx' = _ ∧ IntsAre ys (evenTo (leftOf ties) j)) ?_ ?_ _ 0 [] _ (Nat.zero_add _) ⟨rfl, .nil⟩
    · intro k ys nx v I oI C oC D m₂ h tk E' hk hPat0 hPat1 hC hx F9 N9 off9 ne9
      refine Mine.abs_goal fun PP kPP => ?_
      obtain ⟨tkk, rfl⟩ := hPat0
      obtain ⟨rfl, hys⟩ := hPat1
      refine kPP ?_
      clear kPP
      have hk0 : 0 ≤ (0 : Int) + (k : Int) := by omega
      have hk1 : (0 : Int) + (k : Int) < ((leftOf ties).length : Int) := by omega
      w_strict (repeat' (first | (k_unfold; (try dsimp only)) | (walk1; all_goals (try dsimp only)) | (dsimp only; walk1; all_goals (try dsimp only))))
      refine ⟨?_⟩
      k_dflt (refine Con.use (c_iseof w _ _) (by assumption) F9 (by assumption) N9 (by assumption) rfl (by ktr_room) (by ktr_units) trivial ?_)
      rintro r tl h8 tk8 F8 N8 ap8 rfl
      have N7 := news_sub N8 fun p hp => List.mem_append_right _ hp
      clear F9 N9 N8
      w_strict (repeat' (first | (k_unfold; (try dsimp only)) | (walk1; all_goals (try dsimp only)) | (dsimp only; walk1; all_goals (try dsimp only))))
      · refine ⟨h8, tk8, _, rfl, F8, N7, off9, trivial, rfl, ?_⟩
        rw [evenTo_yes (by assumption)]
        exact ints_app hys (.cons _ _ .nil)
      · refine ⟨h8, tk8, _, rfl, F8, N7, off9, trivial, rfl, ?_⟩
        rw [evenTo_no (by assumption)]
        exact hys
    · intro ys nx hPat0 D h tk F9 N9 off9
      refine Mine.abs_goal fun PP kPP => ?_
      obtain ⟨rfl, hys⟩ := hPat0
      refine kPP ?_
      clear kPP
      w_strict (repeat' (first | (k_unfold; (try dsimp only)) | (walk1; all_goals (try dsimp only)) | (dsimp only; walk1; all_goals (try dsimp only))))
      exact hret _ _ _ _ F9.keep (fun p hp => ⟨(N9 p hp).1, (N9 p hp).2.2⟩) ⟨D, ys, _, rfl, .head _, hys⟩
end Mine
end
section
local macro_rules | `(tactic| walk_at "eval ListComp Call cons") => `(tactic| (refine Mine.Stop.out ?_))
local macro_rules | `(tactic| walk_at "eval ListComp BinOp cons") => `(tactic| (refine Mine.Stop.out ?_))
local macro_rules | `(tactic| walk_at "subscriptTail Name Name ref int") => `(tactic| (k_here; (with_reducible show wpAny _ _ (subscriptTail _ _ (Value.ref _) (Value.int _ _)) _ _ _); k_dflt (refine' Mine.ref_sub ?k1 ?k2 ?k3 ?k4 ?k5 ?_ ?k6; (case k1 => k_asm); (case k2 => ((repeat (refine List.Mem.tail _ ?_)); assumption)); (case k3 => omega); (case k4 => omega); (case k5 => omega); (case k6 => with_unfolding_all rfl); k_whole)))
local macro_rules | `(tactic| walk_at "subscriptTail Subscript Name Name Name ref int") => `(tactic| (k_here; (with_reducible show wpAny _ _ (subscriptTail _ _ (Value.ref _) (Value.int _ _)) _ _ _); k_dflt (first
  | (refine' Mine.tup3_s0 ?k1 ?k2 ?k3 ?_ ?k6; (case k3 => decide); (case k1 => k_asm); (case k2 => ((repeat (refine List.Mem.tail _ ?_)); assumption)); (case k6 => with_unfolding_all rfl); k_whole)
  | (refine' Mine.tup3_s1 ?k1 ?k2 ?k3 ?_ ?k6; (case k3 => decide); (case k1 => k_asm); (case k2 => ((repeat (refine List.Mem.tail _ ?_)); assumption)); (case k6 => with_unfolding_all rfl); k_whole)
  | (refine' Mine.tup3_s2 ?k1 ?k2 ?k3 ?_ ?k6; (case k3 => decide); (case k1 => k_asm); (case k2 => ((repeat (refine List.Mem.tail _ ?_)); assumption)); (case k6 => with_unfolding_all rfl); k_whole))))
local macro_rules | `(tactic| walk_at "setItem ref int int") => `(tactic| (refine Mine.Stop.out ?_))
namespace Mine
def lightF (k : Nat) : UInt64 × UInt64 × UInt64 := yiqF ((0 + (k : Int)).fmod 2) (((0 + (k : Int)).fdiv 2).fmod 2) ((0 + (k : Int)).fdiv 4)
theorem light_b : ∀ k : Nat, k < 8 → (0 ≤ (0 + (k : Int)).fmod 2 ∧ (0 + (k : Int)).fmod 2 ≤ 1) ∧ (0 ≤ ((0 + (k : Int)).fdiv 2).fmod 2 ∧ ((0 + (k : Int)).fdiv 2).fmod 2 ≤ 1) ∧ (0 ≤ (0 + (k : Int)).fdiv 4 ∧ (0 + (k : Int)).fdiv 4 ≤ 1) := by decide
def Tup3In (nx : List (Addr × Obj)) (v : Value) (p : UInt64 × UInt64 × UInt64) : Prop := ∃ a t1 t2 t3, v = .ref a ∧ (a, tup3 (.float p.1 t1) (.float p.2.1 t2) (.float p.2.2 t3)) ∈ nx
theorem mem_put6 {α : Type} {a b c d e f x : α} {l r : List α} (h : x ∈ l) : ∀ p ∈ a :: b :: c :: d :: e :: f :: x :: r, p ∈ l ++ a :: b :: c :: d :: e :: f :: r := fun _ hp => by
  cases mem_fwd (l := [a, b, c, d, e, f]) hp with
  | head => exact List.mem_append_left _ h
  | tail _ hp => exact List.mem_append_right _ hp
theorem mem_row8 {α : Type} {a b c d e f g x y : α} {r : List α} : ∀ p ∈ a :: b :: c :: d :: e :: f :: g :: x :: r, p ∈ x :: y :: a :: b :: c :: d :: e :: f :: g :: r := fun _ hp =>
  mem_moved (l := [a, b, c, d, e, f, g]) hp
theorem mem_front {α : Type} {a b : α} {l r : List α} : ∀ p ∈ l ++ a :: b :: r, p ∈ a :: b :: l ++ r := fun _ hp => by
  cases mem_fwd hp with
  | head => exact .head _
  | tail _ hp => exact .tail _ (mem_fwd hp)
theorem refs_of {α : Type} {f : α → UInt64 × UInt64 × UInt64} {tl : List (Addr × Obj)} {ys : List Value} {ps : List α} (h : All2 (fun v k => Tup3In tl v (f k)) ys ps) : ∃ as : List Addr, ys = as.map Value.ref ∧ as.length = ps.length ∧ ∀ k p, ps[k]? = some p → ∃ t1 t2 t3, (as.getD k 0, tup3 (.float (f p).1 t1) (.float (f p).2.1 t2) (.float (f p).2.2 t3)) ∈ tl := by
  induction h with
  | nil => exact ⟨[], rfl, rfl, fun k p h => by simp at h⟩
  | cons h _ ih =>
    obtain ⟨as, rfl, hl, hk⟩ := ih
    obtain ⟨a, t1, t2, t3, rfl, hm⟩ := h
    refine ⟨a :: as, rfl, by simp [hl], fun k p hp => ?_⟩
    cases k with
    | zero => cases hp; exact ⟨t1, t2, t3, hm⟩
    | succ k => exact hk k p hp
theorem off1_mem {D : Addr} {l : List (Addr × Obj)} (h : LCg.Off1 D l) : ∀ p ∈ l, p.1 ≠ D := by
  induction l with
  | nil => intro p hp; cases hp
  | cons q r ih =>
    intro p hp
    rcases List.mem_cons.mp hp with rfl | hp
    · exact h.1
    · exact ih h.2 p hp
def tabAt (a b : Nat) : List (List Int) := (List.range 8).map fun i => (List.range 8).map fun j => if max i j < a ∨ (max i j = a ∧ min i j < b) then ((i ||| j : Nat) : Int) else 0
theorem tab0 {rs : List Addr} {cst : List (Addr × Obj)} (hl : rs.length = 8) (h : ∀ r ∈ rs, ∃ vs n, (r, listOf vs.toArray n) ∈ cst ∧ IntsAre vs (List.replicate 8 0)) : TabIn rs (tabAt 0 0) cst := fun i hi => by
  have e : (tabAt 0 0).getD i [] = List.replicate 8 0 := by
    have : ∀ i, i < 8 → (tabAt 0 0).getD i [] = List.replicate 8 0 := by decide
    exact this i (by omega)
  rw [e]
  have hm : rs.getD i 0 ∈ rs := by rw [List.getD_eq_getElem?_getD, List.getElem?_eq_getElem hi]; exact List.getElem_mem hi
  exact h _ hm
theorem TabIn.mono {rs : List Addr} {M : List (List Int)} {c c' : List (Addr × Obj)} (h : TabIn rs M c) (hs : ∀ p ∈ c, p ∈ c') : TabIn rs M c' := fun i hi => by
  obtain ⟨vs, n, hm, hv⟩ := h i hi
  exact ⟨vs, n, hs _ hm, hv⟩
theorem flt3 {zs : List Value} {a b c : UInt64} (h : All2 (fun v f => ∃ t, v = Value.float f t) zs ([a, b, c].take 3)) : ∃ x y z, zs = [Value.float a x, .float b y, .float c z] := by
  cases h with | cons h1 h => cases h with | cons h2 h => cases h with | cons h3 h =>
    cases h
    obtain ⟨x, rfl⟩ := h1
    obtain ⟨y, rfl⟩ := h2
    obtain ⟨z, rfl⟩ := h3
    exact ⟨x, y, z, rfl⟩
def sumX (i j : Nat) : UInt64 × UInt64 × UInt64 := rgbF (Float64.add (lightF i).1 (lightF j).1) (Float64.add (lightF i).2.1 (lightF j).2.1) (Float64.add (lightF i).2.2 (lightF j).2.2)
def litOf (x1 x2 x3 : UInt64) : Int := Flt.toInt Float64.nearestOf x1 + 2 * Flt.toInt Float64.nearestOf x2 + 4 * Flt.toInt Float64.nearestOf x3
theorem lit_facts : ∀ i, i < 8 → ∀ j, j < 8 → (Float64.isNaN (sumX i j).1 = false ∧ Float64.isInf (sumX i j).1 = false) ∧ (Float64.isNaN (sumX i j).2.1 = false ∧ Float64.isInf (sumX i j).2.1 = false) ∧ (Float64.isNaN (sumX i j).2.2 = false ∧ Float64.isInf (sumX i j).2.2 = false) ∧ litOf (sumX i j).1 (sumX i j).2.1 (sumX i j).2.2 = ((i ||| j : Nat) : Int) := by decide +kernel
def stT (i j : Nat) : List (List Int) := (tabAt i j).set i (((tabAt i j).getD i []).set j ((i ||| j : Nat) : Int))
theorem tab_len : ∀ i, i < 8 → ∀ j, j < 8 → (tabAt i j).length = 8 ∧ ∀ k, k < 8 → ((tabAt i j).getD k []).length = 8 := by decide +kernel
theorem stT_len : ∀ i, i < 8 → ∀ j, j < 8 → (stT i j).length = 8 ∧ ∀ k, k < 8 → ((stT i j).getD k []).length = 8 := by decide +kernel
theorem tab_step : ∀ i, i < 8 → ∀ j, j < 8 → j ≤ i → (stT i j).set j (((stT i j).getD j []).set i ((i ||| j : Nat) : Int)) = tabAt i (j + 1) := by decide +kernel
theorem tab_next : ∀ i, i < 8 → tabAt i (i + 1) = tabAt (i + 1) 0 := by decide +kernel
theorem setL_tail {d : Addr} {o : Obj} {x p : Addr × Obj} {cst : List (Addr × Obj)} (h : p ∈ setL d o cst) : p ∈ setL d o (x :: cst) := List.mem_cons_of_mem _ h
theorem setL_six {d : Addr} {o : Obj} {a b c e f g : Addr × Obj} {cst : List (Addr × Obj)} (hb : b.1 ≠ d) (hc : c.1 ≠ d) (he : e.1 ≠ d) (hf : f.1 ≠ d) (hg : g.1 ≠ d) : ∀ p ∈ b :: c :: e :: f :: g :: setL d o cst, p ∈ setL d o (a :: b :: c :: e :: f :: g :: cst) := fun p hp => by
  simp only [List.mem_cons] at hp
  rcases hp with rfl | rfl | rfl | rfl | rfl | hp
  · exact mem_setL (.tail _ (.head _)) hb
  · exact mem_setL (.tail _ (.tail _ (.head _))) hc
  · exact mem_setL (.tail _ (.tail _ (.tail _ (.head _)))) he
  · exact mem_setL (.tail _ (.tail _ (.tail _ (.tail _ (.head _))))) hf
  · exact mem_setL (.tail _ (.tail _ (.tail _ (.tail _ (.tail _ (.head _)))))) hg
  · exact setL_tail (setL_tail (setL_tail (setL_tail (setL_tail (setL_tail hp)))))
theorem setL_five {d : Addr} {o : Obj} {b c e f g : Addr × Obj} {cst : List (Addr × Obj)} (hb : b.1 ≠ d) (hc : c.1 ≠ d) (he : e.1 ≠ d) (hf : f.1 ≠ d) (hg : g.1 ≠ d) : ∀ p ∈ b :: c :: e :: f :: g :: setL d o cst, p ∈ setL d o (b :: c :: e :: f :: g :: cst) := fun p hp => by
  simp only [List.mem_cons] at hp
  rcases hp with rfl | rfl | rfl | rfl | rfl | hp
  · exact mem_setL (.head _) hb
  · exact mem_setL (.tail _ (.head _)) hc
  · exact mem_setL (.tail _ (.tail _ (.head _))) he
  · exact mem_setL (.tail _ (.tail _ (.tail _ (.head _)))) hf
  · exact mem_setL (.tail _ (.tail _ (.tail _ (.tail _ (.head _))))) hg
  · exact setL_tail (setL_tail (setL_tail (setL_tail (setL_tail hp))))
theorem setL_all {d : Addr} {o : Obj} {cst : List (Addr × Obj)} {P : Addr → Prop} (h : ∀ p ∈ cst, P p.1) : ∀ p ∈ setL d o cst, P p.1 := fun p hp => by
  obtain ⟨q, hq, e⟩ := List.mem_map.mp hp
  by_cases c : q.1 = d
  · rw [if_pos c] at e; subst e; exact c ▸ h q hq
  · rw [if_neg c] at e; subst e; exact h q hq
theorem store_step {h₀ h : Heap} {L D D2 : Addr} {c1 c2 c3 c4 c5 : Addr × Obj} {cst tl' : List (Addr × Obj)} {rs : List Addr} {oD oD2 : Obj} {M : List (List Int)} {i k n : Nat} {vs : List Value} {x y : Int} {u : Tok} {P : Addr → Prop}
    (N : News h₀ L h (c1 :: c2 :: c3 :: c4 :: c5 :: setL (rs.getD i 0) (listOf (vs.set k (.int x u)).toArray n) cst)) (hne : ∀ p ∈ cst, P p.1) (hD : (D, oD) ∈ cst) (hD2 : (D2, oD2) ∈ cst) (htl : ∀ p ∈ tl', p ∈ cst) (hT : TabIn rs M cst) (hnd : rs.Nodup) (hM : M.length = rs.length) (hi : i < rs.length)
    (hm : (rs.getD i 0, listOf vs.toArray n) ∈ cst) (hv : IntsAre vs (M.getD i [])) (hrd : ∀ r ∈ rs, r ≠ D ∧ ∀ p ∈ tl', p.1 ≠ r) (hrD2 : ∀ r ∈ rs, r ≠ D2) (hx : x = y) :
    ∃ cst1, News h₀ L h (c1 :: c2 :: c3 :: c4 :: c5 :: cst1) ∧ (∀ p ∈ cst1, P p.1) ∧ (D, oD) ∈ cst1 ∧ (D2, oD2) ∈ cst1 ∧ (∀ p ∈ tl', p ∈ cst1) ∧ TabIn rs (M.set i ((M.getD i []).set k y)) cst1 := by
  subst hx
  have hr : rs.getD i 0 ∈ rs := by rw [List.getD_eq_getElem?_getD, List.getElem?_eq_getElem hi]; exact List.getElem_mem hi
  exact ⟨_, N, setL_all hne, mem_setL hD (Ne.symm (hrd _ hr).1), mem_setL hD2 (Ne.symm (hrD2 _ hr)), fun p hp => mem_setL (htl p hp) ((hrd _ hr).2 p hp), hT.set hnd hM hi hm hv n⟩
inductive J9a (L' : Addr) (j : Nat) (ys : List Value) (nx' : List (Addr × Obj)) : Prop
  | mk  (o1 o2 o3 : Obj) (v1 v2 v3 : Option Value) (tl' : List (Addr × Obj)) (_ : nx' = (L' + 1 + 1 + 1, o1) :: (L' + 1 + 1, o2) :: (L' + 1, o3) :: tl') (_ : o1.data = Data.cell v1) (_ : o2.data = Data.cell v2) (_ : o3.data = Data.cell v3) (_ : (∀ p ∈ tl', p.1 ≠ L' + 1 ∧ p.1 ≠ L' + 1 + 1 ∧ p.1 ≠ L' + 1 + 1 + 1)) (_ : All2 (fun v k => Tup3In tl' v (lightF k)) ys (List.range j)) : J9a L' j ys nx'
inductive J9b (L' D : Addr) (ys : List Value) (tl' : List (Addr × Obj)) (j : Nat) (zs : List Value) (nx' : List (Addr × Obj)) : Prop
  | mk  (o1 o2 o3 : Obj) (v1 v2 : Option Value) (cst : List (Addr × Obj)) (rs : List Addr) (_ : nx' = (D, LCg.lst ys) :: (L' + 1 + 1 + 1, o1) :: (L' + 1 + 1, o2) :: (L' + 1, o3) :: cst) (_ : o1.data = Data.cell v1) (_ : o2.data = Data.cell v2) (_ : o3.data = Data.cell (some (.ref D))) (_ : (∀ p ∈ cst, p.1 ≠ L' + 1 ∧ p.1 ≠ L' + 1 + 1 ∧ p.1 ≠ L' + 1 + 1 + 1)) (_ : (∀ p ∈ tl', p ∈ cst)) (_ : (∀ r ∈ rs, r ≠ D ∧ ∀ p ∈ tl', p.1 ≠ r)) (_ : zs = rs.map Value.ref) (_ : rs.length = j) (_ : rs.Nodup) (_ : (∀ r ∈ rs, ∃ vs n, (r, listOf vs.toArray n) ∈ cst ∧ IntsAre vs (List.replicate 8 0))) : J9b L' D ys tl' j zs nx'
inductive J9c (L' D D2 : Addr) (as rs : List Addr) (tl' : List (Addr × Obj)) (i : Nat) (m : Str → Option Value) (nx : List (Addr × Obj)) : Prop
  | mk  (o1 o2 o3 : Obj) (v1 v2 : Option Value) (cst : List (Addr × Obj)) (_ : nx = (L' + 1 + 1 + 1, o1) :: (L' + 1 + 1, o2) :: (L' + 1, o3) :: cst) (_ : o1.data = Data.cell v1) (_ : o2.data = Data.cell v2) (_ : o3.data = Data.cell (some (.ref D))) (_ : (∀ p ∈ cst, p.1 ≠ L' + 1 ∧ p.1 ≠ L' + 1 + 1 ∧ p.1 ≠ L' + 1 + 1 + 1)) (_ : (D, LCg.lst (as.map Value.ref)) ∈ cst) (_ : (D2, LCg.lst (rs.map Value.ref)) ∈ cst) (_ : (∀ p ∈ tl', p ∈ cst)) (_ : TabIn rs (tabAt i 0) cst) (_ : FrameIs NoN m [("joined", .ref D2)] ["y", "i", "q", "r", "g", "b", "lit"]) : J9c L' D D2 as rs tl' i m nx
inductive J9d (L' D D2 I : Addr) (oI : Obj) (i : Nat) (ti : Tok) (as rs : List Addr) (tl' : List (Addr × Obj)) (j : Nat) (m : Str → Option Value) (nx : List (Addr × Obj)) : Prop
  | mk  (o1 o2 o3 : Obj) (v1 : Option Value) (cst : List (Addr × Obj)) (_ : nx = (I, oI) :: (L' + 1 + 1 + 1, o1) :: (L' + 1 + 1, o2) :: (L' + 1, o3) :: cst) (_ : o1.data = Data.cell v1) (_ : o2.data = Data.cell (some (.int (0 + (i : Int)) ti))) (_ : o3.data = Data.cell (some (.ref D))) (_ : (∀ p ∈ cst, p.1 ≠ L' + 1 ∧ p.1 ≠ L' + 1 + 1 ∧ p.1 ≠ L' + 1 + 1 + 1 ∧ p.1 ≠ I)) (_ : (D, LCg.lst (as.map Value.ref)) ∈ cst) (_ : (D2, LCg.lst (rs.map Value.ref)) ∈ cst) (_ : (∀ p ∈ tl', p ∈ cst)) (_ : TabIn rs (tabAt i j) cst) (_ : FrameIs NoN m [("joined", .ref D2)] ["y", "i", "q", "r", "g", "b", "lit"]) : J9d L' D D2 I oI i ti as rs tl' j m nx
theorem c_joined (w : World) : Mine.Con w 130 4 [] (fun _ => True) (fun tl r => ∃ a rs, r = .ref a ∧ (a, LCg.lst (rs.map Value.ref)) ∈ tl ∧ rs.length = 8 ∧ TabIn rs (tabAt 8 0) tl) := by
  w_top off
  refine Mine.Con.of ?_
  k_fill
  intro loose mean mg mb dp un gd cn cs a ccd cl outer A₀ base h₀ L m sh sg sd sk so Q E B F X T hk hd hu hp hret
  refine wpAny_call ?_
  k_dflt (refine' Mine.callFC (binds := []) ?k1 ?k2 ?k3 ?k5 ?kA ?kF ?kK ?k6 ?k7 ?k8 ?k9 ?kB ?kD ?_ ?c2 ?c3 ?c4; (case kA => exact rfl); (case kF => exact rfl); (case kK => assumption); (case k1 => k_asm); (case k2 => k_asm); (case k3 => k_asm); (case k5 => k_asm); (case k6 => k_is); (case k7 => k_is); (case k8 => ktr_room); (case k9 => exact BindsTo.of_eq rfl); (case kB => exact rfl); (case kD => decide +kernel); (case c2 => exact rfl); (case c3 => exact rfl); (case c4 => exact rfl); k_whole; intro L' h' tk' cells' F' N' Y' B' X' T'; k_cells Y'; (try simp only [List.cons_append, List.nil_append] at N'); (try dsimp only); (show wpAny _ _ _ _ _ _); k_fold)
  w_strict (repeat' (first | (k_unfold; (try dsimp only)) | (walk1; all_goals (try dsimp only)) | (dsimp only; walk1; all_goals (try dsimp only))))
  refine ⟨?_⟩
  rename Fr sh _ _ _ => F1
  rename News sh _ _ _ => N1
  have F4 := fr_cast F1 (show _ = frB NoN [] from by with_unfolding_all rfl)
  clear F1
  k_dflt (refine LCg.ListComp_U (F₀ := F4) (by with_unfolding_all rfl) (by decide) (by rfl) (by decide) (by rfl) ?_)
  w_strict (repeat' (first | (k_unfold; (try dsimp only)) | (walk1; all_goals (try dsimp only)) | (dsimp only; walk1; all_goals (try dsimp only))))
  refine ⟨?_⟩
  rename IsRange _ _ _ _ _ _ _ _ => hrg
  rename Fr sh _ _ _ => FF
  rename News sh _ _ _ => NN
  refine LCg.CompSrc.range (by rfl) FF NN hrg (small_L (n := 8) (by omega)) (n := 8) (by rfl) (by decide) ?_
  intro g'
  clear hrg
  refine restU (n := 8) (J := J9a L') ?_ ?_ _ 0 [] _ (Nat.zero_add _) ?_
  rotate_left
  rotate_left
  · exact ⟨_, _, _, _, _, _, _, rfl, by assumption, by assumption, by assumption, (fun _ h => nomatch h), .nil⟩
  · intro k ys nx v I oI C oC D m₂ h tk E' hk hPat0 hPat1 hC hx F9 N9 off9 ne9
    refine Mine.abs_goal fun PP kPP => ?_
    obtain ⟨tkk, rfl⟩ := hPat0
    obtain ⟨o1, o2, o3, v1, v2, v3, tl', rfl, d1, d2, d3, hne, hys⟩ := hPat1
    refine kPP ?_
    clear kPP
    clear FF NN
    w_strict (repeat' (first | (k_unfold; (try dsimp only)) | (walk1; all_goals (try dsimp only)) | (dsimp only; walk1; all_goals (try dsimp only))))
    refine ⟨?_⟩
    have hb := light_b k hk
    k_dflt (refine Con.use (c_yiq w _ _ _ _ _ _ hb.1 hb.2.1 hb.2.2) (by assumption) F9 (by assumption) N9 (by assumption) rfl (by ktr_room) (by ktr_units) trivial ?_)
    intro r tl h8 tk8 F8 N8 ap8 hPatR
    refine Mine.abs_goal fun PP kPP => ?_
    obtain ⟨a, x1, t1, x2, t2, x3, t3, rfl, hm, rfl, rfl, rfl⟩ := hPatR
    refine kPP ?_
    clear kPP
    have hne' : ∀ q ∈ (I, oI) :: (C, oC) :: (D, LCg.lst ys) :: (L' + 1 + 1 + 1, o1) :: (L' + 1 + 1, o2) :: (L' + 1, o3) :: tl', a ≠ q.1 := fun q hq => ap8 _ hm q hq
    refine ⟨_, _, (L' + 1 + 1 + 1, o1) :: (L' + 1 + 1, o2) :: (L' + 1, o3) :: (a, _) :: tl', rfl, F8, news_sub N8 (mem_put6 hm), ?_, trivial, o1, o2, o3, v1, v2, v3, _, rfl, d1, d2, d3, all_cons ⟨?_, ?_, ?_⟩ hne, ?_⟩
    · exact ⟨off9.1, off9.2.1, off9.2.2.1, ⟨hne' _ (.head _), hne' _ (.tail _ (.head _)), hne' _ (.tail _ (.tail _ (.head _)))⟩, off9.2.2.2⟩
    · exact hne' _ (.tail _ (.tail _ (.tail _ (.tail _ (.tail _ (.head _))))))
    · exact hne' _ (.tail _ (.tail _ (.tail _ (.tail _ (.head _)))))
    · exact hne' _ (.tail _ (.tail _ (.tail _ (.head _))))
    · rw [List.range_succ]
      exact (hys.mono fun v k ⟨a, t1, t2, t3, e, hm⟩ => ⟨a, t1, t2, t3, e, .tail _ hm⟩).append (.cons ⟨_, _, _, _, rfl, .head _⟩ .nil)
  · intro ys nx hPat0 D h tk F9 N9 off9
    refine Mine.abs_goal fun PP kPP => ?_
    obtain ⟨o1, o2, o3, v1, v2, v3, tl', rfl, d1, d2, d3, hne, hys⟩ := hPat0
    refine kPP ?_
    clear kPP
    clear FF NN
    have hc1 : ∀ p ∈ tl', p.1 ≠ L' + 1 := fun p hp => (hne p hp).1
    have hc2 : ∀ p ∈ tl', p.1 ≠ L' + 1 + 1 := fun p hp => (hne p hp).2.1
    have hc3 : ∀ p ∈ tl', p.1 ≠ L' + 1 + 1 + 1 := fun p hp => (hne p hp).2.2
    have hd1 : @Ne Nat (L' + 1 + 1 + 1) D := off9.1
    have hd2 : @Ne Nat (L' + 1 + 1) D := off9.2.1
    have hd3 : @Ne Nat (L' + 1) D := off9.2.2.1
    w_strict (repeat' (first | (k_unfold; (try dsimp only)) | (walk1; all_goals (try dsimp only)) | (dsimp only; walk1; all_goals (try dsimp only))))
    refine ⟨?_⟩
    rename IsRange _ _ _ _ _ _ _ _ => hrg
    rename Fr sh _ _ _ => FF
    rename News sh _ _ _ => NN
    rename _ = Data.cell (some (.ref D)) => d3'
    refine LCg.CompSrc.range (by rfl) FF NN hrg (small_L (n := 8) (by omega)) (n := 8) (by rfl) (by decide) ?_
    intro g''
    clear hrg
    refine restU (n := 8) (J := J9b L' D ys tl') ?_ ?_ _ 0 [] _ (Nat.zero_add _) ?_
    rotate_left
    rotate_left
    · refine ⟨_, _, _, _, _, _, [], rfl, d1, d2, d3', hne, (fun _ h => h), (fun _ h => nomatch h), rfl, rfl, .nil, fun _ h => nomatch h⟩
    · intro k zs nx v I oI C oC D2 m₂ h tk E' hk hPat0 hPat1 hC hx F9 N9 off9 ne9
      refine Mine.abs_goal fun PP kPP => ?_
      obtain ⟨tkk, rfl⟩ := hPat0
      obtain ⟨o1, o2, o3, v1, v2, cst, rs, rfl, d1, d2, d3, hne, htl, hrd, hzs, hrl, hnd, hrows⟩ := hPat1
      refine kPP ?_
      clear kPP
      clear FF NN
      w_strict (repeat' (first | (k_unfold; (try dsimp only)) | (walk1; all_goals (try dsimp only)) | (dsimp only; walk1; all_goals (try dsimp only))))
      rename Fr sh _ _ _ => FF
      rename News sh _ _ _ => NN
      rename _ < _ ∧ _ < _ ∧ _ < _ ∧ _ < _ ∧ _ < _ ∧ _ < _ ∧ _ < _ ∧ _ < _ ∧ AllLt _ _ => lr
      rename IntsAre (List.flatten _) _ => ir
      obtain ⟨rr, err, lr⟩ := name_it (P := fun d => _ < d ∧ @LT.lt Nat _ I d ∧ @LT.lt Nat _ C d ∧ @LT.lt Nat _ D2 d ∧ @LT.lt Nat _ D d ∧ L' + 1 + 1 + 1 < d ∧ L' + 1 + 1 < d ∧ L' + 1 < d ∧ AllLt d cst) lr
      subst err
      obtain ⟨_, lI, lC, lD2, lD, l3, l2, l1, lc⟩ := lr
      refine ⟨_, _, (D, LCg.lst ys) :: (L' + 1 + 1 + 1, o1) :: (L' + 1 + 1, o2) :: (L' + 1, o3) :: (rr, _) :: cst, rfl, FF, news_sub NN mem_row8, ⟨off9.1, off9.2.1, off9.2.2.1, off9.2.2.2.1, ⟨Nat.ne_of_gt lI, Nat.ne_of_gt lC, Nat.ne_of_gt lD2⟩, off9.2.2.2.2⟩, trivial, ?_⟩
      refine ⟨o1, o2, o3, v1, v2, (rr, _) :: cst, rs ++ [rr], rfl, d1, d2, d3, all_cons ⟨Nat.ne_of_gt l1, Nat.ne_of_gt l2, Nat.ne_of_gt l3⟩ hne, fun p hp => .tail _ (htl p hp), ?_, ?_, ?_, ?_, ?_⟩
      · intro r hr
        rcases List.mem_append.mp hr with hr | hr
        · exact hrd r hr
        · rw [List.mem_singleton.mp hr]
          exact ⟨Nat.ne_of_gt lD, fun p hp => Nat.ne_of_lt (allLt_mem lc p (htl p hp))⟩
      · rw [hzs, List.map_append]; rfl
      · rw [List.length_append, hrl]; rfl
      · refine List.nodup_append.mpr ⟨hnd, by simp, fun a ha b hb => ?_⟩
        rw [List.mem_singleton.mp hb]
        obtain ⟨vs, n, hm, _⟩ := hrows a ha
        exact Nat.ne_of_lt (allLt_mem lc _ hm)
      · intro r hr
        rcases List.mem_append.mp hr with hr | hr
        · obtain ⟨vs, n, hm, hi⟩ := hrows r hr
          exact ⟨vs, n, .tail _ hm, hi⟩
        · rw [List.mem_singleton.mp hr]
          exact ⟨_, _, .head _, ir⟩
    · intro zs nx hPat0 D2 h tk F9 N9 off9
      refine Mine.abs_goal fun PP kPP => ?_
      obtain ⟨o1, o2, o3, v1, v2, cst, rs, rfl, d1, d2, d3, hne, htl, hrd, hzs, hrl, hnd, hrows⟩ := hPat0
      refine kPP ?_
      clear kPP
      clear FF NN
      w_strict (repeat' (first | (k_unfold; (try dsimp only)) | (walk1; all_goals (try dsimp only)) | (dsimp only; walk1; all_goals (try dsimp only))))
      obtain ⟨as, has, hal, hat⟩ := refs_of hys
      subst has
      rw [List.length_range] at hal
      subst hzs
      have hrD2 : ∀ r ∈ rs, r ≠ D2 := fun r hr => by
        obtain ⟨vs, n, hm, _⟩ := hrows r hr
        exact off1_mem off9.2.2.2.2 _ hm
      have hT0 : TabIn rs (tabAt 0 0) cst := tab0 hrl hrows
      have hDne : ∀ p ∈ (D2, LCg.lst (rs.map Value.ref)) :: (D, LCg.lst (as.map Value.ref)) :: cst, p.1 ≠ L' + 1 ∧ p.1 ≠ L' + 1 + 1 ∧ p.1 ≠ L' + 1 + 1 + 1 := all_cons ⟨Ne.symm off9.2.2.2.1, Ne.symm off9.2.2.1, Ne.symm off9.2.1⟩ (all_cons ⟨Ne.symm hd3, Ne.symm hd2, Ne.symm hd1⟩ hne)
      have N10 := news_sub N9 (mem_front (l := [_, _, _]))
      clear N9
      (refine ⟨?_⟩); (refine For_invT sh ?_ (by intro _; rfl)); (w_strict (repeat' (first | (k_unfold; (try dsimp only)) | (walk1; all_goals (try dsimp only)) | (dsimp only; walk1; all_goals (try dsimp only))))); (refine ⟨?_⟩); (rename Fr _ _ _ _ => F1); (rename News _ _ _ _ => N1)
      rename IsRange _ _ _ _ _ _ _ _ => hrg
      refine iterTR (n := 8) (J := J9c L' D D2 as rs tl') (by rfl) hrg (small_L (n := 8) (by omega)) (by rfl) (by intro _ _; rfl) F1 N1 ?_ ?_ ?_
      · exact ⟨o1, o2, o3, v1, v2, _, rfl, d1, d2, d3, hDne, .tail _ (.head _), .head _, fun p hp => .tail _ (.tail _ (htl p hp)), hT0.mono fun p hp => .tail _ (.tail _ hp), FrameIs.set FrameIs.base⟩
      · intro i ti m₁ nx s₁ I oI hi8 hPat0 hnI hIt F2 N2
        refine Mine.abs_goal fun PP kPP => ?_
        obtain ⟨o1, o2, o3, v1, v2, cst, rfl, d1, d2, d3, hne, hD, hD2, htl, hT, hm⟩ := hPat0
        refine kPP ?_
        clear kPP
        have F3 := hm.fr F2
        clear F2; (try clear N1); (try clear F1); (try clear N10); (try clear hrg)
        have hc1 : ∀ p ∈ cst, p.1 ≠ L' + 1 := fun p hp => (hne p hp).1
        have hc2 : ∀ p ∈ cst, p.1 ≠ L' + 1 + 1 := fun p hp => (hne p hp).2.1
        have hc3 : ∀ p ∈ cst, p.1 ≠ L' + 1 + 1 + 1 := fun p hp => (hne p hp).2.2
        have hi1 : @Ne Nat (L' + 1 + 1 + 1) I := hnI _ (.head _)
        have hi2 : @Ne Nat (L' + 1 + 1) I := hnI _ (.tail _ (.head _))
        have hi3 : @Ne Nat (L' + 1) I := hnI _ (.tail _ (.tail _ (.head _)))
        (show wpAny _ _ _ _ _ _); k_fold
        w_strict (repeat' (first | (k_unfold; (try dsimp only)) | (walk1; all_goals (try dsimp only)) | (dsimp only; walk1; all_goals (try dsimp only))))
        (refine ⟨?_⟩); (refine For_invT sh ?_ (by intro _; rfl)); (w_strict (repeat' (first | (k_unfold; (try dsimp only)) | (walk1; all_goals (try dsimp only)) | (dsimp only; walk1; all_goals (try dsimp only))))); (refine ⟨?_⟩); (rename Fr _ _ _ _ => F1); (rename News _ _ _ _ => N1)
        rename IsRange _ _ _ _ _ _ _ _ => hrg
        rename _ = Data.cell (some (.int _ _)) => d2'
        refine iterTR (n := i + 1) (J := J9d L' D D2 I oI i ti as rs tl') (by rfl) hrg (small_one (by omega) (by omega) (by omega) (by omega)) (by rw [show (0 : Int) + (i : Int) + 1 = ((i + 1 : Nat) : Int) from by omega, rangeSize_nat]; simp) (by intro _ _; rfl) F1 N1 ?_ ?_ ?_
        · exact ⟨o1, _, o3, v1, _, rfl, d1, d2', d3, fun p hp => ⟨hc1 p hp, hc2 p hp, hc3 p hp, hnI p (.tail _ (.tail _ (.tail _ hp)))⟩, hD, hD2, htl, hT, FrameIs.kstb⟩
        · intro j tj m₂ nx s₂ I2 oI2 hj8 hPat0 hnI2 hIt2 F2 N2
          refine Mine.abs_goal fun PP kPP => ?_
          obtain ⟨o1, o2, o3, v1, cst, rfl, d1, d2, d3, hne, hD, hD2, htl, hT, hm⟩ := hPat0
          refine kPP ?_
          clear kPP
          have F5 := hm.fr F2
          clear F2; (try clear N1); (try clear F1); (try clear hrg); (try clear F3)
          have hc1 : ∀ p ∈ cst, p.1 ≠ L' + 1 := fun p hp => (hne p hp).1
          have hc2 : ∀ p ∈ cst, p.1 ≠ L' + 1 + 1 := fun p hp => (hne p hp).2.1
          have hc3 : ∀ p ∈ cst, p.1 ≠ L' + 1 + 1 + 1 := fun p hp => (hne p hp).2.2.1
          have hj1 : @Ne Nat (L' + 1 + 1 + 1) I2 := hnI2 _ (.tail _ (.head _))
          have hj2 : @Ne Nat (L' + 1 + 1) I2 := hnI2 _ (.tail _ (.tail _ (.head _)))
          have hj3 : @Ne Nat (L' + 1) I2 := hnI2 _ (.tail _ (.tail _ (.tail _ (.head _))))
          (show wpAny _ _ _ _ _ _); k_fold
          w_strict (repeat' (first | (k_unfold; (try dsimp only)) | (walk1; all_goals (try dsimp only)) | (dsimp only; walk1; all_goals (try dsimp only))))
          refine ⟨?_⟩
          rename Fr sh _ _ _ => FF
          rename News sh _ _ _ => NN
          rename _ = Data.cell (some (.int (0 + (j : Int)) _)) => d1'
          obtain ⟨oc1, eoc, d1'⟩ : ∃ b : Obj, b = _ ∧ b.data = Data.cell (some (.int (0 + (j : Int)) tj)) := ⟨_, rfl, d1'⟩
          subst eoc
          k_dflt (refine LCg.ListComp_U (F₀ := FF) (by with_unfolding_all rfl) (by decide) (by rfl) (by decide) (by rfl) ?_)
          w_strict (repeat' (first | (k_unfold; (try dsimp only)) | (walk1; all_goals (try dsimp only)) | (dsimp only; walk1; all_goals (try dsimp only))))
          refine ⟨?_⟩
          rename IsRange _ _ _ _ _ _ _ _ => hrg
          rename Fr sh _ _ _ => FF
          rename News sh _ _ _ => NN
          refine LCg.CompSrc.range (by rfl) FF NN hrg (small_L (n := 3) (by omega)) (n := 3) (by rfl) (by decide) ?_
          intro g3
          clear hrg
          obtain ⟨p1, p2, p3, hp1⟩ := hat ((0 : Int) + (i : Int)).toNat i (by rw [show ((0 : Int) + (i : Int)).toNat = i from by omega]; simp [hi8])
          have hj88 : j < 8 := by omega
          obtain ⟨q1, q2, q3, hq1⟩ := hat ((0 : Int) + (j : Int)).toNat j (by rw [show ((0 : Int) + (j : Int)).toNat = j from by omega]; simp [hj88])
          have hp2 := htl _ hp1
          have hq2 := htl _ hq1
          refine restU (n := 3) (J := fun k zs nx' => nx' = _ ∧ All2 (fun v f => ∃ t, v = Value.float f t) zs ([Float64.add (lightF i).1 (lightF j).1, Float64.add (lightF i).2.1 (lightF j).2.1, Float64.add (lightF i).2.2 (lightF j).2.2].take k)) ?_ ?_ _ 0 [] _ (Nat.zero_add _) ⟨rfl, .nil⟩
          · intro k zs nx v I3 oI3 C3 oC3 D3 m₃ h tk E' hk hPat0 hPat1 hC hx F9 N9 off9 ne9
            refine Mine.abs_goal fun PP kPP => ?_
            obtain ⟨tkk, rfl⟩ := hPat0
            obtain ⟨rfl, hzs⟩ := hPat1
            refine kPP ?_
            clear kPP
            clear FF NN
            have hk3 : k = 0 ∨ k = 1 ∨ k = 2 := by omega
            rcases hk3 with rfl | rfl | rfl
            all_goals w_strict (repeat' (first | (k_unfold; (try dsimp only)) | (walk1; all_goals (try dsimp only)) | (dsimp only; walk1; all_goals (try dsimp only))))
            all_goals refine ⟨_, _, _, rfl, F9, N9, off9, trivial, rfl, ?_⟩
            · exact hzs.append (.cons ⟨_, rfl⟩ .nil)
            · exact hzs.append (.cons ⟨_, rfl⟩ .nil)
            · exact hzs.append (.cons ⟨_, rfl⟩ .nil)
          · intro zs nx hPat0 D3 h tk F9 N9 off9
            refine Mine.abs_goal fun PP kPP => ?_
            obtain ⟨rfl, hzs⟩ := hPat0
            refine kPP ?_
            clear kPP
            clear FF NN
            obtain ⟨f1, f2, f3, rfl⟩ := flt3 hzs
            dsimp only
            w_strict (repeat' (first | (k_unfold; (try dsimp only)) | (walk1; all_goals (try dsimp only)) | (dsimp only; walk1; all_goals (try dsimp only))))
            refine ⟨?_⟩
            rename Fr sh _ _ _ => FF
            rename News sh _ _ _ => NN
            k_dflt (refine Con.use (c_yrgb w _ _ _ _ _ _) (by assumption) FF (by assumption) NN (by assumption) rfl (by ktr_room) (by ktr_units) trivial ?_)
            intro r tl h8 tk8 F8 N8 ap8 hPatR
            refine Mine.abs_goal fun PP kPP => ?_
            obtain ⟨a, x1, e1, x2, e2, x3, e3, rfl, hm9, hx1, hx2, hx3⟩ := hPatR
            refine kPP ?_
            clear kPP
            have N11 := news_sub N8 (all_cons (List.mem_append_left _ hm9) (fun p hp => List.mem_append_right tl (.tail _ hp)))
            have F11 := (FrameIs.skip (FrameIs.skip (FrameIs.skip FrameIs.kstb)) : FrameIs NoN _ [("joined", .ref D2)] ["y", "i", "q", "r", "g", "b", "lit"]).fr F8
            have hane : ∀ q ∈ (I2, oI2) :: (I, oI) :: (L' + 1 + 1 + 1, oc1) :: (L' + 1 + 1, o2) :: (L' + 1, o3) :: cst, a ≠ q.1 := fun q hq => ap8 _ hm9 q (.tail _ hq)
            clear F8 N8 FF NN ap8
            dsimp only
            have lf := lit_facts i hi8 j hj88
            rw [show sumX i j = rgbF (Float64.add (lightF i).1 (lightF j).1) (Float64.add (lightF i).2.1 (lightF j).2.1) (Float64.add (lightF i).2.2 (lightF j).2.2) from rfl, ← hx1, ← hx2, ← hx3] at lf
            obtain ⟨⟨ln1, li1⟩, ⟨ln2, li2⟩, ⟨ln3, li3⟩, lsum⟩ := lf
            w_strict (repeat' (first | (k_unfold; (try dsimp only)) | (walk1; all_goals (try dsimp only)) | (dsimp only; walk1; all_goals (try dsimp only))))
            refine ⟨?_⟩
            rename Fr sh _ _ _ => FF
            rename News sh _ _ _ => NN
            have ei : (0 + (i : Int)).toNat = i := by omega
            have ej : (0 + (j : Int)).toNat = j := by omega
            obtain ⟨vs1, n1, hm1, hv1⟩ := hT i (by omega)
            have hr1 := hne _ hm1
            have tl1 := tab_len i hi8 j hj88
            have hl1 : vs1.length = 8 := hv1.length.trans (tl1.2 i hi8)
            rw [ei]
            refine setrow FF NN (.tail _ (.tail _ (.tail _ (.tail _ (.tail _ (.tail _ hm1)))))) (by omega) (by omega) (by omega) ?_
            intro h9 F9 N9
            rw [ej] at N9
            have N10 := news_sub N9 (setL_six (Ne.symm (hnI2 _ (.tail _ (.tail _ (.tail _ (.tail _ hm1)))))) (Ne.symm hr1.2.2.2) (Ne.symm hr1.2.2.1) (Ne.symm hr1.2.1) (Ne.symm hr1.1))
            clear N9 NN FF
            obtain ⟨cst1, N12, hne1, hDa, hD2a, htla, hTa⟩ := store_step (P := fun a => (a ≠ L' + 1 ∧ a ≠ L' + 1 + 1 ∧ a ≠ L' + 1 + 1 + 1 ∧ a ≠ I) ∧ a ≠ I2) N10 (fun p hp => ⟨hne p hp, hnI2 p (.tail _ (.tail _ (.tail _ (.tail _ hp))))⟩) hD hD2 htl hT hnd (tl1.1.trans hrl.symm) (by omega) hm1 hv1 hrd hrD2 lsum
            clear N10
            dsimp only
            w_strict (repeat' (first | (k_unfold; (try dsimp only)) | (walk1; all_goals (try dsimp only)) | (dsimp only; walk1; all_goals (try dsimp only))))
            refine ⟨?_⟩
            rename Fr sh _ _ _ => FF
            rename News sh _ _ _ => NN
            obtain ⟨vs2, n2, hm2, hv2⟩ := hTa j (by omega)
            have hr2 := hne1 _ hm2
            have tl2 := stT_len i hi8 j hj88
            have hl2 : vs2.length = 8 := hv2.length.trans (tl2.2 j hj88)
            rw [ej]
            refine setrow FF NN (.tail _ (.tail _ (.tail _ (.tail _ (.tail _ hm2))))) (by omega) (by omega) (by omega) ?_
            intro h10 F10 N10
            rw [ei] at N10
            have N13 := news_sub N10 (setL_five (Ne.symm hr2.2) (Ne.symm hr2.1.2.2.2) (Ne.symm hr2.1.2.2.1) (Ne.symm hr2.1.2.1) (Ne.symm hr2.1.1))
            clear N10 NN FF
            obtain ⟨cst2, N14, hne2, hDb, hD2b, htlb, hTb⟩ := store_step (P := fun a => (a ≠ L' + 1 ∧ a ≠ L' + 1 + 1 ∧ a ≠ L' + 1 + 1 + 1 ∧ a ≠ I) ∧ a ≠ I2) N13 hne1 hDa hD2a htla hTa hnd (tl2.1.trans hrl.symm) (by omega) hm2 hv2 hrd hrD2 lsum
            have hTc : TabIn rs (tabAt i (j + 1)) cst2 := by
              have := tab_step i hi8 j hj88 (by omega)
              rw [← this]; exact hTb
            clear N13
            dsimp only
            w_strict (repeat' (first | (k_unfold; (try dsimp only)) | (walk1; all_goals (try dsimp only)) | (dsimp only; walk1; all_goals (try dsimp only))))
            refine ⟨rfl, MEnd.intro (nx := (I, oI) :: (L' + 1 + 1 + 1, oc1) :: (L' + 1 + 1, o2) :: (L' + 1, o3) :: cst2) F10 N14 (.head _) (fun p hp => ⟨.tail _ hp, ?_⟩) ⟨oc1, o2, o3, _, cst2, rfl, d1', d2, d3, fun p hp => (hne2 p hp).1, hDb, hD2b, htlb, hTc, ?_⟩⟩
            · simp only [List.mem_cons] at hp
              rcases hp with rfl | rfl | rfl | rfl | hp
              · exact hnI2 _ (.head _)
              · exact hj1
              · exact hj2
              · exact hj3
              · exact (hne2 p hp).2
            · exact FrameIs.skip (FrameIs.skip (FrameIs.skip (FrameIs.skip FrameIs.kstb)))
        · intro m₃ nx h tk hPat0 F2 N2
          refine Mine.abs_goal fun PP kPP => ?_
          obtain ⟨o1, o2, o3, v1, cst, rfl, d1, d2, d3, hne, hD, hD2, htl, hT, hm⟩ := hPat0
          refine kPP ?_
          clear kPP
          dsimp only
          w_strict (repeat' (first | (k_unfold; (try dsimp only)) | (walk1; all_goals (try dsimp only)) | (dsimp only; walk1; all_goals (try dsimp only))))
          refine ⟨rfl, MEnd.intro (nx := (L' + 1 + 1 + 1, o1) :: (L' + 1 + 1, o2) :: (L' + 1, o3) :: cst) F2 N2 (.head _) (fun p hp => ⟨.tail _ hp, ?_⟩) ⟨o1, o2, o3, v1, _, cst, rfl, d1, d2, d3, fun p hp => ⟨(hne p hp).1, (hne p hp).2.1, (hne p hp).2.2.1⟩, hD, hD2, htl, tab_next i hi8 ▸ hT, hm⟩⟩
          simp only [List.mem_cons] at hp
          rcases hp with rfl | rfl | rfl | hp
          · exact hi1
          · exact hi2
          · exact hi3
          · exact (hne p hp).2.2.2
      · intro m₃ nx h tk hPat0 F2 N2
        refine Mine.abs_goal fun PP kPP => ?_
        obtain ⟨o1, o2, o3, v1, v2, cst, rfl, d1, d2, d3, hne, hD, hD2, htl, hT, hm⟩ := hPat0
        refine kPP ?_
        clear kPP
        have F3 := hm.fr F2
        clear F2
        dsimp only
        w_strict (repeat' (first | (k_unfold; (try dsimp only)) | (walk1; all_goals (try dsimp only)) | (dsimp only; walk1; all_goals (try dsimp only))))
        exact hret _ cst _ _ F3.keep (fun p hp => ⟨(N2 p (.tail _ (.tail _ (.tail _ hp)))).1, (N2 p (.tail _ (.tail _ (.tail _ hp)))).2.2⟩) ⟨D2, rs, rfl, hD2, hrl, hT⟩
end Mine
end
section
namespace Mine
theorem pick_up {vs : List Value} : kms_pick vs.toArray.toList none (some 3) = vs.take 3 := by
  have e : kms_hi (some 3) vs.length = min 3 vs.length := by rfl
  have e2 : vs.toArray.toList = vs := rfl
  rw [e2, kms_pick, e]
  show (vs.drop 0).take (min 3 vs.length - 0) = _
  rw [List.drop_zero, Nat.sub_zero, kmk_take_min]
theorem pick_fr {vs : List Value} : kms_pick vs.toArray.toList (some 3) none = vs.drop 3 := by
  have e : kms_lo (some 3) vs.length = min 3 vs.length := by rfl
  have e2 : vs.toArray.toList = vs := rfl
  rw [e2, kms_pick, e, kmk_drop_min]
  show (vs.drop 3).take (vs.length - min 3 vs.length) = _
  rw [List.take_of_length_le]
  rw [List.length_drop]; omega
section
variable {prog : Program} {w : World} {A : Around} {E : Value → Shared → Prop} {s₁ : Shared} {h h₀ : Heap} {L l : Addr} {m : Str → Option Value} {news : List (Addr × Obj)} {value slice : PySem.Expr} {its : Array Value} {zs : List Value} {vl vu : Value} {lo hi : Option Int} {Q : Value → Shared → Prop}
theorem slice_at (F : Fr h₀ L h m) (N : News h₀ L h news) (hl : h.IsList l its) (pl : IsPart vl lo) (pu : IsPart vu hi) (e : kms_pick its.toList lo hi = zs)
    (hh : s₁.heap = h.push { cls := .type "slice", data := .fields #[vl, vu, .none] })
    (k : ∀ D h', Fr h₀ L h' m → News h₀ L h' ((D, listOf zs.toArray 0) :: news) → (∀ p ∈ news, p.1 < D) → Q (.ref D) { s₁ with heap := h' })
    (hs : subscripted slice false (.ref l) (.ref h.objs.size) = operate [.ref h.objs.size, .ref l] (getItem (.ref l) (.ref h.objs.size))) (ht : ∀ r, letTemporaryGo value (.ref l) r = pure ()) (hz : its.size ≤ sizeLine) :
    wpAny (model prog w) A (subscriptTail value slice (.ref l) (.ref h.objs.size)) Q E s₁ := by
  have := kms_slice_lit (prog := prog) (w := w) (A := A) (E := E) (s := { s₁ with heap := h }) (Q := Q) (value := value) (slice := slice) F N hl pl pu e k hs ht hz
  dsimp only at this
  rw [← hh] at this
  exact this
end
theorem All2.take {α β : Type} {R : α → β → Prop} {l : List α} {m : List β} (h : All2 R l m) (n : Nat) : All2 R (l.take n) (m.take n) := by
  induction h generalizing n with
  | nil => simp; exact .nil
  | cons h _ ih => cases n with
    | zero => exact .nil
    | succ n => exact .cons h (ih n)
theorem All2.drop {α β : Type} {R : α → β → Prop} {l : List α} {m : List β} (h : All2 R l m) (n : Nat) : All2 R (l.drop n) (m.drop n) := by
  induction h generalizing n with
  | nil => simp; exact .nil
  | cons h k ih => cases n with
    | zero => exact .cons h k
    | succ n => exact ih n
theorem PairAt.keeps {h h' : Heap} {v : Value} {p : Int × Int} (x : PairAt h v p) (k : ∀ b o, h.get? b = some o → h'.get? b = some o) : PairAt h' v p := by
  obtain ⟨a, t1, t2, rfl, ht⟩ := x
  exact ⟨a, t1, t2, rfl, ht.keeps k⟩
end Mine
local macro_rules | `(tactic| walk_at "exec Assign cons ListComp") => `(tactic| (refine Mine.Stop.out ?_))
local macro_rules | `(tactic| walk_at "eval ListComp Call cons") => `(tactic| (refine Mine.Stop.out ?_))
local macro_rules | `(tactic| walk_at "subscriptTail Name Slice ref ref") => `(tactic| (refine Mine.Stop.out ?_))
namespace Mine
def tally (l : List Int) : List (Int × Int) := l.foldl (fun c k => kdfPut c k (kdfLook c k 0 + 1)) []
theorem tally_step {l : List Int} {i : Nat} {a : Int} (h : l[i]? = some a) : tally (l.take (i + 1)) = kdfPut (tally (l.take i)) a (kdfLook (tally (l.take i)) a 0 + 1) := by
  rw [tally, take_one h, List.foldl_append]; rfl
def swp (p : Int × Int) : Int × Int := (p.2, p.1)
def tup2 (x y : Value) : Obj := { cls := .type "tuple", data := .seq #[x, y] }
def TupsIn (nx : List (Addr × Obj)) : List Value → List (Int × Int) → Prop := All2 fun v p => ∃ a t1 t2, v = .ref a ∧ (a, tup2 (.int p.1 t1) (.int p.2 t2)) ∈ nx
theorem CEnd.new {h₀ h3 h' : Heap} {L I C D : Addr} {oI oC oD o : Obj} {m : Str → Option Value} {nx : List (Addr × Obj)} {J : List (Addr × Obj) → Prop} {s₁ : Shared} {tk : Nat} (N : News h₀ L h3 ((I, oI) :: (C, oC) :: (D, oD) :: nx)) (off : LCg.Off3 I C D nx) (F' : Fr h₀ L h' m) (N' : News h₀ L h' ((h3.objs.size, o) :: (I, oI) :: (C, oC) :: (D, oD) :: nx)) (hj : J ((h3.objs.size, o) :: nx)) : CEnd h₀ L m s₁ I oI C oC D oD J { s₁ with heap := h', toks := tk } := by
  have hI : I ≠ h3.objs.size := Nat.ne_of_lt (Heap.lt_size (N _ (.head _)).1)
  have hC : C ≠ h3.objs.size := Nat.ne_of_lt (Heap.lt_size (N _ (.tail _ (.head _))).1)
  have hD : D ≠ h3.objs.size := Nat.ne_of_lt (Heap.lt_size (N _ (.tail _ (.tail _ (.head _)))).1)
  exact ⟨h', tk, _, rfl, F', news_sub N' mem_c3, ⟨⟨hI.symm, hC.symm, hD.symm⟩, off⟩, hj⟩
def huesWays (ties : List (Int × Int)) : Int := (((standsOf ((ties.drop 3).map swp)).map code).map fun k => kdfLook (tally ((standsOf (ties.take 3)).map code)) k 0).sum
inductive J5a (w : World) (L' l q dd sa : Addr) (oc : Obj) (ws : List Value) (n : Nat) (cs1 : List Int) (i : Nat) (m : Str → Option Value) (nx : List (Addr × Obj)) : Prop
  | mk  (o : Obj) (kvs : List (Int × Value)) (c : List (Int × Int)) (_ : c = tally (cs1.take i)) (_ : nx = [(dd, o), (L' + 1, oc), (sa, listOf ws.toArray n)]) (_ : o.IsDictOf (intKind PySem.Challenge.rw_tp0008_01.row.prog w) kvs) (_ : PyProof.V.FlatPairs PyData.int kvs (kdfD c)) (_ : c.length ≤ i) (_ : FrameIs NoN m [("turned", .ref q), ("ties", .ref l)] ["stand"]) : J5a w L' l q dd sa oc ws n cs1 i m nx
theorem c_hues (w : World) (l q : Addr) (vs : List Value) (ties : List (Int × Int)) (tq : Nat → Tok) : Mine.Con w 120 4 [.ref l, .ref q] (fun h => TiesAt h l vs ties ∧ ties.length ≤ 6 ∧ (∀ p ∈ ties, 0 ≤ p.1 ∧ p.1 < 4 ∧ 0 ≤ p.2 ∧ p.2 < 4) ∧ Idx h q 7 (fun i => .int ((i : Int) % 4) (tq i))) (fun _ r => ∃ t, r = .int (huesWays ties) t) := by
  w_top off
  refine Mine.Con.of ?_
  k_fill
  intro loose mean mg mb dp un gd cn cs a ccd cl outer A₀ base h₀ L m sh sg sd sk so Q E B F X T hk hd hu hp hret
  obtain ⟨⟨hl, hty⟩, hlen6, hb, hI⟩ := hp
  have hvz : vs.toArray.size ≤ sizeLine := by rw [List.size_toArray, hty.length]; exact Nat.le_trans hlen6 (by decide)
  refine wpAny_call ?_
  k_dflt (refine' Mine.callFC (binds := [("ties", .ref l), ("turned", .ref q)]) ?k1 ?k2 ?k3 ?k5 ?kA ?kF ?kK ?k6 ?k7 ?k8 ?k9 ?kB ?kD ?_ ?c2 ?c3 ?c4; (case kA => exact rfl); (case kF => exact rfl); (case kK => assumption); (case k1 => k_asm); (case k2 => k_asm); (case k3 => k_asm); (case k5 => k_asm); (case k6 => k_is); (case k7 => k_is); (case k8 => ktr_room); (case k9 => exact BindsTo.of_eq rfl); (case kB => exact rfl); (case kD => decide +kernel); (case c2 => exact rfl); (case c3 => exact rfl); (case c4 => exact rfl); k_whole; intro L' h' tk' cells' F' N' Y' B' X' T'; k_cells Y'; (try simp only [List.cons_append, List.nil_append] at N'); (try dsimp only); (show wpAny _ _ _ _ _ _); k_fold)
  rename Fr sh _ _ _ => F1
  have F4 := fr_cast F1 (show _ = frB NoN [("turned", .ref q), ("ties", .ref l)] from by with_unfolding_all rfl)
  clear F1
  w_strict (repeat' (first | (k_unfold; (try dsimp only)) | (walk1; all_goals (try dsimp only)) | (dsimp only; walk1; all_goals (try dsimp only))))
  refine ⟨?_⟩
  refine For_invV sh (by rfl) (by rfl) ?_
  w_strict (repeat' (first | (k_unfold; (try dsimp only)) | (walk1; all_goals (try dsimp only)) | (dsimp only; walk1; all_goals (try dsimp only))))
  refine ⟨?_⟩
  rename Fr _ _ _ _ => FF
  rename News _ _ _ _ => NN
  k_dflt (refine' slice_at FF NN ?zl ?zp ?zq ?ze ?zh ?_ ?zs ?zt ?zz)
  case zh => exact rfl
  case zl => exact Fr.lst FF hl
  case zp => kmk_part
  case zq => kmk_part
  case ze => first | exact Mine.pick_up | exact Mine.pick_fr
  case zs => with_unfolding_all rfl
  case zt => kmk_pure
  case zz => assumption
  intro D1 h1 F1 N1 l1
  w_strict (repeat' (first | (k_unfold; (try dsimp only)) | (walk1; all_goals (try dsimp only)) | (dsimp only; walk1; all_goals (try dsimp only))))
  refine ⟨?_⟩
  k_dflt (refine Con.use (c_stands w D1 q (vs.take 3) (ties.take 3) tq) (by assumption) F1 (by assumption) N1 (by assumption) rfl (by ktr_room) (by ktr_units) ⟨⟨⟨_, (N1 _ (.head _)).1, rfl, _, rfl⟩, (hty.mono fun _ _ x => x.keeps F1.keep).take 3⟩, by rw [List.length_take]; omega, fun p hp => hb p (List.mem_of_mem_take hp), hI.keeps F1.keep⟩ ?_)
  intro r tl h8 tk8 F8 N8 ap8 hPatR
  refine Mine.abs_goal fun PP kPP => ?_
  obtain ⟨sa, ws, n, rfl, hsa, hws⟩ := hPatR
  refine kPP ?_
  clear kPP
  rename L' + 1 < _ => lc
  have hne1 := ap8 _ hsa _ (.tail _ (.head _))
  have hne2 := ap8 _ hsa _ (.tail _ (.tail _ (.head _)))
  obtain ⟨dd, edd, lc⟩ := name_it (P := fun d => @LT.lt Nat _ (L' + 1) d) lc
  subst edd
  have N9 := news_sub N8 (news' := [(dd, _), (L' + 1, _), (sa, listOf ws.toArray n)]) (all_cons (List.mem_append_right _ (.tail _ (.head _))) (all_cons (List.mem_append_right _ (.tail _ (.tail _ (.head _)))) (all_cons (List.mem_append_left _ hsa) (fun _ h => nomatch h))))
  clear N8 F1 N1 FF NN ap8
  dsimp only at hne1 hne2
  dsimp only
  w_strict (repeat' (first | (k_unfold; (try dsimp only)) | (walk1; all_goals (try dsimp only)) | (dsimp only; walk1; all_goals (try dsimp only))))
  refine ⟨?_⟩
  rename Obj.IsDictOf (intKind _ _) _ _ => hd0
  rename PyProof.V.FlatPairs PyData.int _ _ => hf0
  rename _ = Data.cell (some (.ref _)) => dc
  obtain ⟨oc, eoc, dc⟩ : ∃ b : Obj, b = _ ∧ b.data = Data.cell (some (.ref dd)) := ⟨_, rfl, dc⟩
  subst eoc
  have hlc : ((standsOf (ties.take 3)).map code).length ≤ 27 := by
    rw [List.length_map, standsOf_len]
    exact Nat.le_trans (Nat.pow_le_pow_right (by decide) (by rw [List.length_take]; omega)) (show 3 ^ 3 ≤ 27 by decide)
  generalize hcs : (standsOf (ties.take 3)).map code = cs1 at hws hlc
  refine iterL (nn := n) (vs := ws) (J := J5a w L' l q dd sa oc ws n cs1) (by rfl) (fun _ _ _ ⟨_, _, _, _, e, _, _, _, _⟩ => e ▸ .tail _ (.tail _ (.head _))) F8 N9 ⟨_, _, [], rfl, rfl, hd0, hf0, Nat.le_refl _, FrameIs.base⟩ ?_ ?_
  · intro i v m₁ nx h2 tk2 I oI hv hPat0 hnI hIt F2 N2
    refine Mine.abs_goal fun PP kPP => ?_
    obtain ⟨o, kvs, c, hc, rfl, hdo, hfo, hcl, hm⟩ := hPat0
    refine kPP ?_
    clear kPP
    have F3 := hm.fr1 F2
    clear F2 F8 N9 hd0 hf0
    obtain ⟨a, ha, ta, rfl⟩ := int_at hws hv
    have hi1 : @Ne Nat dd I := hnI _ (.head _)
    have hi2 : @Ne Nat (L' + 1) I := hnI _ (.tail _ (.head _))
    have hil : i < 27 := Nat.lt_of_lt_of_le (List.getElem?_eq_some_iff.mp ha).1 hlc
    (show wpAny _ _ _ _ _ _); k_fold
    w_strict (repeat' (first | (k_unfold; (try dsimp only)) | (walk1; all_goals (try dsimp only)) | (dsimp only; walk1; all_goals (try dsimp only))))
    rename Fr _ _ _ _ => FF
    rename News _ _ _ _ => NN
    refine MPost.next _ FF NN (.head _) (fun p hp => ⟨.tail _ hp, ?_⟩) ?_
    · simp only [List.mem_cons, List.not_mem_nil, or_false] at hp
      rcases hp with rfl | rfl | rfl
      · exact hi1
      · exact hi2
      · exact hnI _ (.tail _ (.tail _ (.head _)))
    · refine ⟨_, _, _, ?_, rfl, by assumption, by assumption, ?_, FrameIs.skip FrameIs.kstb⟩
      · rw [tally_step ha, ← hc]
      · exact Nat.le_trans (kdfPut_len _ _ _) (Nat.succ_le_succ hcl)
  · intro m₂ nx h tk hPat0 F2 N2
    refine Mine.abs_goal fun PP kPP => ?_
    obtain ⟨o, kvs, c, hc, rfl, hdo, hfo, hcl, hm⟩ := hPat0
    refine kPP ?_
    clear kPP
    have F3 := hm.fr F2
    clear F2 F8 N9 hd0 hf0
    rw [hws.length, List.take_length] at hc
    have hcl2 : c.length ≤ 27 := Nat.le_trans hcl (hws.length ▸ hlc)
    dsimp only
    w_strict (repeat' (first | (k_unfold; (try dsimp only)) | (walk1; all_goals (try dsimp only)) | (dsimp only; walk1; all_goals (try dsimp only))))
    refine ⟨?_⟩
    k_dflt (refine compA F3 (xs := [("out", _), ("into", _)]) (by rfl) (by rfl) (by with_unfolding_all rfl) (by with_unfolding_all rfl) (by decide) (by rfl) (by decide) (by decide) (by rfl) (by rfl) ?_)
    w_strict (repeat' (first | (k_unfold; (try dsimp only)) | (walk1; all_goals (try dsimp only)) | (dsimp only; walk1; all_goals (try dsimp only))))
    refine ⟨?_⟩
    rename Fr _ _ _ _ => FF
    rename News _ _ _ _ => NN
    k_dflt (refine' slice_at FF NN ?zl ?zp ?zq ?ze ?zh ?_ ?zs ?zt ?zz)
    case zh => exact rfl
    case zl => exact Fr.lst FF hl
    case zp => kmk_part
    case zq => kmk_part
    case ze => first | exact Mine.pick_up | exact Mine.pick_fr
    case zs => with_unfolding_all rfl
    case zt => kmk_pure
    case zz => assumption
    intro D2 h9 F9 N9 l9
    clear FF NN
    refine ⟨D2, vs.drop 3, _, fun i ys nx' => (∀ p ∈ _, p ∈ nx') ∧ TupsIn nx' ys (((ties.drop 3).map swp).take i), rfl, F9, N9, ?_, ⟨fun _ h => h, .nil⟩, fun i ys nx' h10 hj _ N10 => ⟨_, (N10 _ (hj.1 _ (.head _))).1, rfl, _, rfl⟩, ?_, ?_⟩
    · rw [List.length_drop, ← List.size_toArray]; exact Nat.le_trans (Nat.sub_le _ _) hvz
    · rintro i v ys nx' hv ⟨hsub, hys⟩
      obtain ⟨⟨x, y⟩, hxy, ta, t1, t2, rfl, htup⟩ := (hty.drop 3).get hv
      refine ⟨[.int x t1, .int y t2], rfl, fun h10 k10 N10 => ⟨ta, rfl, .inl (htup.keeps k10)⟩, ?_⟩
      intro I oI C oC D m₂ h3 tk3 E3 hit hC hz F10 N10 off10 ne10
      have hz1 : m₂ "out" = some (.int x t1) := hz _ _ rfl
      have hz2 : m₂ "into" = some (.int y t2) := hz _ _ rfl
      clear F9 N9
      w_strict (repeat' (first | (k_unfold; (try dsimp only)) | (walk1; all_goals (try dsimp only)) | (dsimp only; walk1; all_goals (try dsimp only))))
      rename News _ _ _ ((_, _) :: (I, oI) :: _) => N11
      rename News _ _ _ ((I, oI) :: _) => N10
      rename Fr _ _ _ _ => F11
      refine CEnd.new N10 off10 F11 N11 ⟨fun p hp => .tail _ (hsub p hp), ?_⟩
      rw [take_one (show ((ties.drop 3).map swp)[i]? = some (swp (x, y)) from by rw [List.getElem?_map, hxy]; rfl)]
      exact (hys.mono fun v p ⟨a, t1, t2, e, h⟩ => ⟨a, t1, t2, e, .tail _ h⟩).append (.cons ⟨_, t2, t1, rfl, .head _⟩ .nil)
    · rintro ys nx' D h11 tk11 ⟨hsub, hys⟩ F11 N11 hne
      clear F9 N9
      dsimp only
      w_strict (repeat' (first | (k_unfold; (try dsimp only)) | (walk1; all_goals (try dsimp only)) | (dsimp only; walk1; all_goals (try dsimp only))))
      refine ⟨?_⟩
      rw [show List.take (vs.drop 3).length ((ties.drop 3).map swp) = (ties.drop 3).map swp from List.take_of_length_le (by rw [List.length_map, List.length_drop, List.length_drop, hty.length]; exact Nat.le_refl _)] at hys
      have hty2 : TiesAt h11 D ys ((ties.drop 3).map swp) := ⟨⟨_, (N11 _ (.head _)).1, rfl, _, rfl⟩, hys.mono fun v p ⟨a, t1, t2, e, hm⟩ => ⟨a, t1, t2, e, ⟨_, (N11 _ (.tail _ hm)).1, rfl, _, rfl⟩⟩⟩
      have N12 := news_sub N11 (news' := [(dd, o), (L' + 1, oc)]) (all_cons (.tail _ (hsub _ (.tail _ (.head _)))) (all_cons (.tail _ (hsub _ (.tail _ (.tail _ (.head _))))) (fun _ h => nomatch h)))
      clear N11
      k_dflt (refine LCg.ListComp_U (F₀ := F11) (by with_unfolding_all rfl) (by decide) (by rfl) (by decide) (by rfl) ?_)
      w_strict (repeat' (first | (k_unfold; (try dsimp only)) | (walk1; all_goals (try dsimp only)) | (dsimp only; walk1; all_goals (try dsimp only))))
      refine ⟨?_⟩
      rename Fr _ _ _ _ => FF
      rename News _ _ _ _ => NN
      k_dflt (refine Con.use (c_stands w D q ys ((ties.drop 3).map swp) tq) (by assumption) FF (by assumption) NN (by assumption) rfl (by ktr_room) (by ktr_units) ⟨hty2, by rw [List.length_map, List.length_drop]; omega, ?_, hI.keeps FF.keep⟩ ?_)
      · intro p hp
        obtain ⟨p', hp', rfl⟩ := List.mem_map.mp hp
        have := hb p' (List.mem_of_mem_drop hp')
        exact ⟨this.2.2.1, this.2.2.2, this.1, this.2.1⟩
      intro r tl2 h12 tk12 F12 N13 ap12 hPatR
      refine Mine.abs_goal fun PP kPP => ?_
      obtain ⟨sb, ws2, n2, rfl, hsb, hws2⟩ := hPatR
      refine kPP ?_
      clear kPP
      have hne3 : @Ne Nat dd sb := Ne.symm (ap12 _ hsb _ (.head _))
      have hne4 : @Ne Nat (L' + 1) sb := Ne.symm (ap12 _ hsb _ (.tail _ (.head _)))
      have N14 := news_sub N13 (news' := [(dd, o), (L' + 1, oc), (sb, listOf ws2.toArray n2)]) (all_cons (List.mem_append_right _ (.head _)) (all_cons (List.mem_append_right _ (.tail _ (.head _))) (all_cons (List.mem_append_left _ hsb) (fun _ h => nomatch h))))
      have hlc2 : ((standsOf ((ties.drop 3).map swp)).map code).length ≤ 27 := by
        rw [List.length_map, standsOf_len]
        exact Nat.le_trans (Nat.pow_le_pow_right (by decide) (by rw [List.length_map, List.length_drop]; omega)) (show 3 ^ 3 ≤ 27 by decide)
      clear N13 ap12 FF NN
      dsimp only
      w_strict (repeat' (first | (k_unfold; (try dsimp only)) | (walk1; all_goals (try dsimp only)) | (dsimp only; walk1; all_goals (try dsimp only))))
      refine ⟨?_⟩
      rename Fr _ _ _ _ => FF
      rename News _ _ _ _ => NN
      refine LCg.CompSrc.ledger (by rfl) FF NN (.tail _ (.tail _ (.head _))) (by rw [List.size_toArray, hws2.length]; exact Nat.le_trans hlc2 (by decide)) ?_
      intro g'
      refine restU (n := ws2.toArray.size) (J := fun j ys nx' => nx' = _ ∧ IntsAre ys ((((standsOf ((ties.drop 3).map swp)).map code).map fun k => kdfLook c k 0).take j)) ?_ ?_ _ 0 [] _ (Nat.zero_add _) ⟨rfl, .nil⟩
      · intro k ys nx v I oI C oC D m₂ h tk E' hk hP hPat0 hC hx F9 N9 off9 ne9
        refine Mine.abs_goal fun PP kPP => ?_
        obtain ⟨rfl, hys⟩ := hPat0
        refine kPP ?_
        clear kPP
        obtain ⟨a, ha, tka, rfl⟩ := int_at hws2 (by simpa using hP)
        clear FF NN
        w_strict (repeat' (first | (k_unfold; (try dsimp only)) | (walk1; all_goals (try dsimp only)) | (dsimp only; walk1; all_goals (try dsimp only))))
        refine ⟨_, _, _, rfl, F9, N9, off9, .inr ⟨_, .tail _ (.tail _ (.head _)), rfl, _, rfl⟩, rfl, ?_⟩
        rw [take_one (show (((standsOf ((ties.drop 3).map swp)).map code).map fun k => kdfLook c k 0)[k]? = some _ from by rw [List.getElem?_map, ha]; rfl)]
        exact ints_app hys (.cons _ _ .nil)
      · intro ys nx hPat0 D h tk F9 N9 off9
        refine Mine.abs_goal fun PP kPP => ?_
        obtain ⟨rfl, hys⟩ := hPat0
        refine kPP ?_
        clear kPP
        rw [List.size_toArray, hws2.length, List.take_of_length_le (by simp)] at hys
        clear FF NN
        w_strict (repeat' (first | (k_unfold; (try dsimp only)) | (walk1; all_goals (try dsimp only)) | (dsimp only; walk1; all_goals (try dsimp only))))
        rename Fr sh _ _ _ => F15
        exact hret _ [] _ _ F15.keep (fun p hp => nomatch hp) ⟨_, by rw [hc, ← hcs]; rfl⟩
end Mine
end
section
namespace Mine
section
variable {prog : Program} {w : World} {A : Around} {E : Value → Shared → Prop} {s : Shared} {value slice : PySem.Expr} {x y : PySem.Str} {t u : Tok} {n : Nat} {i j : Int} {Q : Value → Shared → Prop} {h₀ : Heap} {L : Addr} {m : PySem.Str → Option Value} {news : List (Addr × Obj)}
theorem item_var (hk : x.length = n) (h0 : -(n : Int) ≤ i) (h1 : i < (n : Int)) (hn : n ≤ 16777216) (h : ∀ M t', M = Txt.item x i → M.length = 1 → Q (.str M t') { s with toks := s.toks + 1 })
    (hs : subscripted slice false (.str x t) (.int i u) = operate [.str x t, .int i u] (getItem (.str x t) (.int i u)) := by with_unfolding_all rfl)
    (ht : ∀ r, letTemporaryGo value (.str x t) r = pure () := by intro _; with_unfolding_all rfl) :
    wpAny (model prog w) A (subscriptTail value slice (.str x t) (.int i u)) Q E s :=
  KXi.item hk h0 h1 hn (fun e => h _ _ rfl e) hs ht
theorem item_eq (e : Txt.item x i = y) (h0 : 0 ≤ i) (h1 : i < (x.length : Int)) (hn : x.length ≤ 100) (h : ∀ t', Q (.str y t') { s with toks := s.toks + 1 })
    (hs : subscripted slice false (.str x t) (.int i u) = operate [.str x t, .int i u] (getItem (.str x t) (.int i u)) := by with_unfolding_all rfl)
    (ht : ∀ r, letTemporaryGo value (.str x t) r = pure () := by intro _; with_unfolding_all rfl) :
    wpAny (model prog w) A (subscriptTail value slice (.str x t) (.int i u)) Q E s :=
  KXi.item (n := x.length) rfl (by omega) h1 (by omega) (fun _ => by rw [e]; exact h _) hs ht
theorem sl_to {uj : Tok} (hF : Fr h₀ L s.heap m) (hN : News h₀ L s.heap news) (e : Txt.slice x none (some j) = y) (hz : x.length ≤ 100) (h : ∀ h' t' k, Fr h₀ L h' m → News h₀ L h' news → Q (.str y t') { s with heap := h', toks := k })
    (hs : subscripted slice false (.str x t) (.ref s.heap.objs.size) = operate [.ref s.heap.objs.size, .str x t] (getItem (.str x t) (.ref s.heap.objs.size)) := by with_unfolding_all rfl)
    (ht : ∀ r, letTemporaryGo value (.str x t) r = pure () := by intro _; with_unfolding_all rfl) :
    wpAny (model prog w) A (subscriptTail value slice (.str x t) (.ref s.heap.objs.size)) Q E { s with heap := s.heap.push { cls := .type "slice", data := .fields #[.none, .int j uj, .none] } } :=
  slice_strN_ns hF hN (by rw [e]; exact h) hs ht (Nat.le_trans hz (by decide))
theorem sl_mid {ui uj : Tok} (hF : Fr h₀ L s.heap m) (hN : News h₀ L s.heap news) (e : Txt.slice x (some i) (some j) = y) (hz : x.length ≤ 100) (h : ∀ h' t' k, Fr h₀ L h' m → News h₀ L h' news → Q (.str y t') { s with heap := h', toks := k })
    (hs : subscripted slice false (.str x t) (.ref s.heap.objs.size) = operate [.ref s.heap.objs.size, .str x t] (getItem (.str x t) (.ref s.heap.objs.size)) := by with_unfolding_all rfl)
    (ht : ∀ r, letTemporaryGo value (.str x t) r = pure () := by intro _; with_unfolding_all rfl) :
    wpAny (model prog w) A (subscriptTail value slice (.str x t) (.ref s.heap.objs.size)) Q E { s with heap := s.heap.push { cls := .type "slice", data := .fields #[.int i ui, .int j uj, .none] } } :=
  slice_strN_ss hF hN (by rw [e]; exact h) hs ht (Nat.le_trans hz (by decide))
theorem find_eq (e : Txt.find x y = i) (h : ∀ t', Q (.int i t') { s with toks := s.toks + 1 }) : wpAny (model prog w) A (call (.builtin "str.find") [.str x t, .str y u]) Q E s := SC.find (by rw [e]; exact h _)
theorem find3_eq {v : Tok} (e : Txt.find3 x y j = i) (h : ∀ t', Q (.int i t') { s with toks := s.toks + 1 }) : wpAny (model prog w) A (call (.builtin "str.find") [.str x t, .str y u, .int j v]) Q E s := SC.find3 (by rw [e]; exact h _)
theorem peer_sub {a : Addr} {v₁ v₂ : Value} (hp : IsTup h₀ a #[v₁, v₂]) (F : Fr h₀ L s.heap m) (h : Q v₁ s)
    (hs : subscripted slice false (.ref a) (.int 0 u) = operate [.ref a, .int 0 u] (getItem (.ref a) (.int 0 u)) := by with_unfolding_all rfl) :
    wpAny (model prog w) A (subscriptTail value slice (.ref a) (.int 0 u)) Q E s :=
  item_tupleT (j := 0) (hp.keeps F.keep) (by decide) (by decide) (by rfl) rfl h hs
theorem append_told {h2 : Heap} {L2 D D' I : Addr} {mm : PySem.Str → Option Value} {o' oI : Obj} {made cst : List (Addr × Obj)} {d2 : Addr × Obj} {ys : List Value} (FK : Fr h₀ L s.heap m) (NK : News h₀ L s.heap ((D', o') :: made)) (FC : Fr h2 L2 s.heap mm) (NC : News h2 L2 s.heap ((D', o') :: made))
    (NN : News h₀ L h2 (d2 :: (I, oI) :: (D, listOf ys.toArray n) :: cst)) (hDI : D ≠ I) (hDc : ∀ p ∈ cst, p.1 ≠ D) (hy : ys.length ≤ 10000)
    (h : ∀ h', Fr h₀ L h' m → News h₀ L h' ((D, listOf (ys ++ [Value.ref D']).toArray (n + 1)) :: (I, oI) :: (D', o') :: cst) → D' ≠ I → D' ≠ D → Q .none { s with heap := h' }) :
    wpAny (model prog w) A (call (.builtin "list.append") [.ref D, .ref D']) Q E s := by
  have hne : ∀ q ∈ d2 :: (I, oI) :: (D, listOf ys.toArray n) :: cst, D' ≠ q.1 := fun q hq e => by
    have h1 := (NC _ (.head _)).2.2
    have h3 : h2.get? q.1 = some q.2 := (NN q hq).1
    rw [← e] at h3
    rw [show (D', o').1 = D' from rfl, h3] at h1
    cases h1
  have hD'D : D' ≠ D := hne _ (.tail _ (.tail _ (.head _)))
  have hD'I : D' ≠ I := hne _ (.tail _ (.head _))
  have NN2 : ∀ p ∈ d2 :: (I, oI) :: (D, listOf ys.toArray n) :: cst, s.heap.get? p.1 = some p.2 ∧ p.1 ≠ L ∧ h₀.get? p.1 = none := fun p hp => ⟨FC.keep _ _ (NN p hp).1, (NN p hp).2⟩
  have N5 : News h₀ L s.heap ((D, listOf ys.toArray n) :: (I, oI) :: (D', o') :: cst) := by
    intro p hp
    simp only [List.mem_cons] at hp
    rcases hp with rfl | rfl | rfl | hp
    · exact NN2 _ (.tail _ (.tail _ (.head _)))
    · exact NN2 _ (.tail _ (.head _))
    · exact NK _ (.head _)
    · exact NN2 _ (.tail _ (.tail _ (.tail _ hp)))
  exact append_L FK N5 (.head (all_cons (Ne.symm hDI) (all_cons hD'D hDc))) hy fun h' F' N' => h h' F' N' hD'I hD'D
theorem neq_self (h : Q (.bool false) s) : wpAny (model prog w) A (compareOp .NotEq (.str x t) (.str x u)) Q E s := ne_str (by simpa using h)
theorem split_eq {parts : List PySem.Str} (hF : Fr h₀ L s.heap m) (hN : News h₀ L s.heap news) (e : Txt.split x y = parts) (hy : y.length = 1) (hz : x.length ≤ 100)
    (h : ∀ D l h' k, l.map (·.1) = parts → Fr h₀ L h' m → News h₀ L h' ((D, listOf (strValues l).toArray 0) :: news) → (∀ p ∈ news, p.1 < D) → Q (.ref D) { s with heap := h', toks := k }) :
    wpAny (model prog w) A (call (.builtin "str.split") [.str x t, .str y u]) Q E s :=
  KSpl.split1 hF hN (by rw [hy]; rfl) (fun D l h' k e' _ F N l1 => h D l h' k (e'.trans e) F N l1) (Nat.le_trans (Nat.add_le_add_right hz 2) (by decide))
end
end Mine
local macro_rules | `(tactic| walk_at "subscriptTail Constant BinOp str int") => `(tactic| (k_here; (with_reducible show wpAny _ _ (subscriptTail _ _ (Value.str _ _) (Value.int _ _)) _ _ _); (refine Mine.item_var (by kxi_len) (by kxi_fact) (by kxi_fact) (by decide) ?_); intro M tM eM lM))
local macro_rules | `(tactic| walk_at "binaryOp Mult str int") => `(tactic| (k_here; (with_reducible show wpAny _ _ (binaryOp Operator.Mult (Value.str _ _) (Value.int _ _)) _ _ _); (refine KXi.mul (n := 1) (by assumption) (by decide) (by decide) (by decide) ?_); intro _ _ _ _))
local macro_rules | `(tactic| walk_at "call ref cons") => `(tactic| (refine Mine.Stop.out ?_))
local macro_rules | `(tactic| walk_at "subscriptTail Name Slice str ref") => `(tactic| (k_here; (with_reducible rename Mine.ReplyOk _ _ _ _ _ => hok); (with_reducible rename Fr _ _ _ _ => F'); (with_reducible rename News _ _ _ _ => N'); first
  | (refine Mine.sl_to (s := ⟨_, _, _, _, _⟩) F' N' hok.first hok.len ?_; intro h' t' k' F' N'; (try k_sweep))
  | (refine Mine.sl_mid (s := ⟨_, _, _, _, _⟩) F' N' hok.mid hok.len ?_; intro h' t' k' F' N'; (try k_sweep))))
local macro_rules | `(tactic| walk_at "subscriptTail Name BinOp str int") => `(tactic| (k_here; (with_reducible rename Mine.ReplyOk _ _ _ _ _ => hok); (with_reducible show wpAny _ _ (subscriptTail _ _ (Value.str _ _) (Value.int _ _)) _ _ _); first
  | (refine Mine.item_eq hok.one (by decide) (Int.lt_trans (Int.lt_of_lt_of_le (by decide) hok.lo) hok.hi) hok.len ?_; intro _)
  | (refine Mine.item_eq hok.two (by k_dflt omega) (by k_dflt omega) hok.len ?_; intro _)))
local macro_rules | `(tactic| walk_at "call builtin:str.find") => `(tactic| (k_here; (with_reducible rename Mine.ReplyOk _ _ _ _ _ => hok); first | (refine Mine.find_eq hok.left ?_; intro _) | (refine Mine.find3_eq hok.right ?_; intro _)))
local macro_rules | `(tactic| walk_at "compareOp NotEq str str") => `(tactic| (k_here; refine Mine.neq_self ?_))
local macro_rules | `(tactic| walk_at "subscriptTail Name Constant ref int") => `(tactic| (k_here; (with_reducible show wpAny _ _ (subscriptTail _ _ (Value.ref _) (Value.int 0 _)) _ _ _); (with_reducible rename IsTup _ _ _ => htp); k_dflt (refine' Mine.peer_sub htp ?k1 ?_ ?k2; (case k1 => assumption); (case k2 => with_unfolding_all rfl); k_whole)))
local macro_rules | `(tactic| walk_at "call builtin:list.append cons nil") => `(tactic| (refine Mine.Stop.out ?_))
local macro_rules | `(tactic| walk_at "call builtin:str.split") => `(tactic| (refine Mine.Stop.out ?_))
local macro_rules | `(tactic| walk_at "ite") => `(tactic| (with_reducible refine split_dec ?_ ?_ <;> intro hite <;> first | (exfalso; k_dflt omega) | (exfalso; k_dflt (simp at hite; done)) | (exfalso; k_dflt ((simp only [decide_eq_true_eq, Bool.not_eq_true, decide_eq_false_iff_not] at hite); omega)) | (try dsimp only)))
namespace Mine
def netT (x : Int) (t1 t2 : Tok) : Obj := tup2 (.str (Str.ofString "net") t1) (.int x t2)
def ToldAt (cst : List (Addr × Obj)) (v : Value) (x : Int) : Prop := (x / 12 % 5 = 4 ∧ v = .none) ∨ (x / 12 % 5 ≠ 4 ∧ ∃ b t1 t2, v = .ref b ∧ (b, netT x t1 t2) ∈ cst)
inductive J11 (dp un : Nat) (gd : Option (List Code)) (cn : Str) (cs : Scope) (L a : Addr) (ccd : Value) (loose : List Str) (mean : ExcName → Option Value) (mg mb : Str → Option Value) (base g1 : Heap) (w : World) (l : Addr) (vs : List Value) (nn : Nat) (news : List (Addr × Obj)) (ns : List Int) (i : Nat) (g : Heap) (m : Str → Option Value) (nx : List (Addr × Obj)) : Prop
  | mk (_ : KtsTurn (List.filterMap (fun x => x.frame) [envOf cn cs L a ccd]) g1 g) (_ : Below (ktrTop dp un gd cn cs L a ccd [] []) base [envOf cn cs L a ccd] g) (_ : (Mine.hd.heap_39 w.params).In g) (_ : Top Mine.hd.view_39 loose mean mg mb g) (_ : KtsDicts (List.filterMap (fun x => x.frame) [envOf cn cs L a ccd]) g)
    (D : Addr) (ys : List Value) (n : Nat) (cst : List (Addr × Obj)) (_ : nx = (D, listOf ys.toArray n) :: cst) (_ : (l, listOf vs.toArray nn) ∈ cst) (_ : ∀ p ∈ news, p ∈ cst) (_ : ∀ p ∈ cst, p.1 ≠ D) (_ : All2 (ToldAt cst) ys (ns.take i)) (_ : FrameIs NoN m [("ports", .ref l), ("told", .ref D)] ["x", "mark", "ahead"]) : J11 dp un gd cn cs L a ccd loose mean mg mb base g1 w l vs nn news ns i g m nx
theorem c_told (w : World) (l : Addr) (vs : List Value) (nn : Nat) (ns : List Int) (hi : IntsAre vs ns) (hlen6 : ns.length ≤ 6) (hb : ∀ x ∈ ns, 0 ≤ x ∧ x < 60000) : Mine.ConT w 103 4 l vs nn (fun tl r => ∃ a zs, r = Value.ref a ∧ (a, LCg.lst zs) ∈ tl ∧ All2 (fun v x => ∃ b t1 t2, v = Value.ref b ∧ (b, netT x t1 t2) ∈ tl) zs (ns.filter fun x => decide (x / 12 % 5 ≠ 4))) := by
  w_top off
  refine Mine.ConT.of ?_
  k_fill
  intro loose mean mg mb dp un gd cn cs a ccd A₀ base h₀ L m sh sg sd sk so news Q E B F N X T XB TB hk hd hu hmem hret
  refine wpAny_call ?_
  k_dflt (refine' code_defS0 (binds := [("ports", .ref l)]) ?k1 ?k2 ?k3 ?k4 ?k5 ?kA ?k6 ?k7 ?k8 ?k9 ?kB ?_ ?cK ?c2 ?c3 ?c4 ?c5; (case kA => exact rfl); (case k2 => k_asm); (case k1 => k_asm); (case k3 => k_asm); (case k4 => k_asm); (case k5 => k_asm); (case k6 => k_is); (case k7 => k_is); (case k8 => ktr_room); (case k9 => exact BindsTo.of_eq rfl); (case kB => exact locs rfl); (case cK => assumption); (case c2 => exact rfl); (case c3 => exact rfl); (case c4 => exact rfl); (case c5 => decide); k_whole; intro g1 L' h' FG' F' N' B' X' T' D'; (try dsimp only); (try k_fold))
  replace F' : Fr g1 L' h' (frB NoN [("ports", .ref l)]) := fr_cast F' (funext fun y => look_rev (nodK_of rfl))
  w_strict (repeat' (first | (k_unfold; (try dsimp only)) | (walk1; all_goals (try dsimp only)) | (dsimp only; walk1; all_goals (try dsimp only))))
  refine ⟨?_⟩
  refine For_G (by rfl) (by rfl) ?_
  w_strict (repeat' (first | (k_unfold; (try dsimp only)) | (walk1; all_goals (try dsimp only)) | (dsimp only; walk1; all_goals (try dsimp only))))
  refine ⟨?_⟩
  rename Fr g1 _ _ _ => F1
  rename News g1 _ _ _ => N1
  rename ∀ p, p ∈ news → _ => l1
  refine iterG (vs := vs) (nn := nn) (J := J11 dp un gd cn cs L a ccd loose mean mg mb base g1 w l vs nn news ns) (by rfl) ?_ F1 N1 ?_ ?_ ?_
  · rintro i g m nx ⟨_, _, _, _, _, D, ys, n, cst, rfl, hlm, _, _, _, _⟩
    exact .tail _ hlm
  · exact ⟨KtsTurn.refl, B', X', T', D', _, [], _, _, rfl, hmem, fun _ h => h, fun p hp => Nat.ne_of_lt (l1 p hp), .nil, FrameIs.set FrameIs.base⟩
  · intro i v g m₁ nx h tk I oI hv hPat0 hnI hIt F2 N2
    refine Mine.abs_goal fun PP kPP => ?_
    obtain ⟨T0, BB, XX, TT, DD, D, ys, n, cst, rfl, hlm, hnm, hDc, hys, hm⟩ := hPat0
    refine kPP ?_
    clear kPP
    have F3 := hm.fr1 F2
    clear F2; (try clear F1); (try clear N1); (try clear B' X' T' D')
    obtain ⟨x, hax, ta, rfl⟩ := int_at hi hv
    have hab := hb x (List.mem_of_getElem? hax)
    have hmk := mark_of x
    have hDI : @Ne Nat D I := hnI _ (.head _)
    have hyl : ys.length ≤ 6 := by rw [hys.length, List.length_take]; omega
    (show wpAny _ _ _ _ _ _); k_fold
    w_strict (repeat' (first | (k_unfold; (try dsimp only)) | (walk1; all_goals (try dsimp only)) | (dsimp only; walk1; all_goals (try dsimp only))))
    all_goals refine ⟨?_⟩
    · rcases hmk with ⟨hM, h4⟩ | ⟨c, c1, c2, c3, c4, hM, h4⟩
      · obtain ⟨R, T, r, eR, hok⟩ := ok2 hab.1 hab.2 hM (by decide)
        rw [← eR]
        have hrlo := hok.lo
        have hrhi := hok.hi
        rename Fr g _ _ _ => FF
        have F5 := (FrameIs.skip (FrameIs.skip (FrameIs.skip FrameIs.kstb)) : FrameIs NoN _ [("ports", .ref l), ("told", .ref D)] ["x", "mark", "ahead"]).fr FF
        clear FF eR
        rename _ < _ ∧ _ < _ ∧ AllLt _ _ => lc
        refine wpAny_call ?_
        rename News g _ _ _ => NN
        rename_i tR kR aR D2 h2
        k_dflt (refine' code_defS (binds := [("resp", .str R tR), ("peer", .ref D2)]) ?k1 ?k2 ?k3 ?k4 ?k5 ?XB ?TB ?D ?T0 ?kA ?k6 ?k7 ?k8 ?k9 ?kB ?_ ?cK ?c2 ?c3 ?c4 ?c5; (case kA => exact rfl); (case k2 => k_asm); (case k1 => k_asm); (case XB => assumption); (case TB => assumption); (case D => assumption); (case T0 => assumption); (case k3 => k_asm); (case k4 => k_asm); (case k5 => k_asm); (case k6 => k_is); (case k7 => k_is); (case k8 => ktr_room); (case k9 => exact BindsTo.of_eq rfl); (case kB => exact locs rfl); (case cK => exact rfl); (case c2 => exact rfl); (case c3 => exact rfl); (case c4 => exact rfl); (case c5 => decide); k_whole; intro g2 L2 h2' FG2 FS NS B2 X2 T2 DS; (try dsimp only); (try k_fold); replace FS : Fr g2 L2 h2' (frB NoN [("resp", .str R tR), ("peer", .ref D2)]) := fr_cast FS (funext fun y => look_rev (nodK_of rfl)))
        w_strict (repeat' (first | (k_unfold; (try dsimp only)) | (walk1; all_goals (try dsimp only)) | (dsimp only; walk1; all_goals (try dsimp only))))
        refine ⟨?_⟩
        rename Fr _ _ _ _ => FF
        rename News _ _ _ _ => NN
        rename ReplyOk _ _ _ _ _ => hok
        refine split_eq FF NN hok.cut (by rfl) hok.midlen ?_
        intro Dp lp hp kp el Fp Np lop
        clear FF NN
        obtain ⟨e1, l1', rfl, el1⟩ := KSpl.cons_of el
        clear el
        obtain ⟨e2, l2', rfl, el2⟩ := KSpl.cons_of el1
        clear el1
        obtain ⟨e3, l3', rfl, el3⟩ := KSpl.cons_of el2
        clear el2
        obtain ⟨e4, l4', rfl, el4⟩ := KSpl.cons_of el3
        clear el3
        obtain rfl := KSpl.nil_of el4
        simp only [strValues, List.map_cons, List.map_nil] at Np
        dsimp only
        w_strict (repeat' (first | (k_unfold; (try dsimp only)) | (walk1; all_goals (try dsimp only)) | (dsimp only; walk1; all_goals (try dsimp only))))
        refine ⟨?_⟩
        rename Fr _ L' _ _ => FF
        rename News _ L' _ _ => NN
        rename KtsTurn _ g1 _ => T2
        have N5 := news_sub (news' := (D, listOf ys.toArray n) :: (I, oI) :: cst) NN (fun p hp => by simp only [List.mem_cons] at hp ⊢; rcases hp with h | h | h <;> simp [h])
        clear NN
        k_dflt (refine append_L FF N5 (.head (all_cons (Ne.symm (hnI _ (.head _))) hDc)) (Nat.le_trans hyl (by decide)) ?_)
        intro h5 F6 N6
        clear FF N5
        dsimp only
        w_strict (repeat' (first | (k_unfold; (try dsimp only)) | (walk1; all_goals (try dsimp only)) | (dsimp only; walk1; all_goals (try dsimp only))))
        refine ⟨rfl, _, h5, _, _, (D, listOf (ys ++ [Value.none]).toArray (n + 1)) :: cst, rfl, F6, news_sub N6 mem_c1, all_cons hDI (fun p hp => hnI p (.tail _ hp)), T2, by assumption, by assumption, by assumption, by assumption, D, ys ++ [Value.none], n + 1, cst, rfl, hlm, hnm, hDc, ?_, FrameIs.kstb⟩
        rw [take_one hax]
        exact hys.append (.cons (.inl ⟨h4, rfl⟩) .nil)
      · exfalso
        rename (_ == _) = true => hb2
        rw [hM] at hb2
        rw [show PySem.Str.ofString "~" = tx [126] from rfl] at hb2
        have e9 := congrArg (fun s => s.cps.toList) (eq_of_beq hb2)
        exact c4 (by simpa [tx] using e9)
    · rcases hmk with ⟨hM, h4⟩ | ⟨c, c1, c2, c3, c4, hM, h4⟩
      · exfalso
        rename (_ == _) = false => hb2
        rw [hM] at hb2
        exact absurd hb2 (by decide)
      · obtain ⟨R, T, r, eR, hok⟩ := ok3 hab.1 hab.2 hM ⟨c1, c2, c3⟩
        rw [← eR]
        have hrlo := hok.lo
        have hrhi := hok.hi
        rename Fr g _ _ _ => FF
        have F5 := (FrameIs.skip (FrameIs.skip (FrameIs.skip FrameIs.kstb)) : FrameIs NoN _ [("ports", .ref l), ("told", .ref D)] ["x", "mark", "ahead"]).fr FF
        clear FF eR
        rename _ < _ ∧ _ < _ ∧ AllLt _ _ => l1
        refine wpAny_call ?_
        rename News g _ _ _ => NN
        rename_i tR kR aR D2 h2
        have htp : IsTup h2 D2 #[.str (Str.ofString "net") kR, .int 0 (kR + 1)] := ⟨_, (NN _ (.head _)).1, rfl, _, rfl⟩
        k_dflt (refine' Mine.callG (binds := [("resp", .str R tR), ("peer", .ref D2)]) ?k1 ?k2 ?k3 ?k5 ?kA ?kF ?kK ?k6 ?k7 ?k8 ?k9 ?kB ?kD ?_ ?c2 ?c3 ?c4 ?c5; (case kA => exact rfl); (case kF => exact rfl); (case kK => exact rfl); (case k1 => k_asm); (case k2 => k_asm); (case k3 => k_asm); (case k5 => k_asm); (case k6 => k_is); (case k7 => k_is); (case k8 => ktr_room); (case k9 => exact BindsTo.of_eq rfl); (case c5 => decide); (case kB => exact locs rfl); (case kD => exact rfl); (case c2 => exact rfl); (case c3 => exact rfl); (case c4 => exact rfl); k_whole; intro L' h' F' N' B' X' T'; (try dsimp only); (try k_fold))
        w_strict (repeat' (first | (k_unfold; (try dsimp only)) | (walk1; all_goals (try dsimp only)) | (dsimp only; walk1; all_goals (try dsimp only))))
        refine ⟨?_⟩
        rename Fr _ _ _ _ => FF
        rename News _ _ _ _ => NN
        rename ReplyOk _ _ _ _ _ => hok
        refine split_eq FF NN hok.cut (by rfl) hok.midlen ?_
        intro Dp lp hp kp el Fp Np lop
        clear FF NN
        obtain ⟨e1, l1', rfl, el1⟩ := KSpl.cons_of el
        clear el
        obtain ⟨e2, l2', rfl, el2⟩ := KSpl.cons_of el1
        clear el1
        obtain ⟨e3, l3', rfl, el3⟩ := KSpl.cons_of el2
        clear el2
        obtain ⟨e4, l4', rfl, el4⟩ := KSpl.cons_of el3
        clear el3
        obtain ⟨e5, l5', rfl, el5⟩ := KSpl.cons_of el4
        clear el4
        obtain rfl := KSpl.nil_of el5
        simp only [strValues, List.map_cons, List.map_nil] at Np
        dsimp only
        w_strict (repeat' (first | (k_unfold; (try dsimp only)) | (walk1; all_goals (try dsimp only)) | (dsimp only; walk1; all_goals (try dsimp only))))
        refine ⟨?_⟩
        rename Fr (Shared.heap _) _ _ _ => FC
        rename News (Shared.heap _) _ _ _ => NC
        rename Fr g _ _ _ => FK
        rename News g _ _ _ => NK
        k_dflt (refine append_told FK NK FC NC NN hDI hDc (Nat.le_trans hyl (by decide)) ?_)
        intro h5 F6 N6 hne1 hne2
        clear FK NK FC NC NN
        dsimp only
        w_strict (repeat' (first | (k_unfold; (try dsimp only)) | (walk1; all_goals (try dsimp only)) | (dsimp only; walk1; all_goals (try dsimp only))))
        refine ⟨rfl, _, h5, _, _, _, rfl, F6, news_sub N6 mem_c1, all_cons hDI (all_cons hne1 fun p hp => hnI p (.tail _ hp)), T0, BB, XX, TT, DD, D, _, _, _, rfl, .tail _ hlm, fun p hp => .tail _ (hnm p hp), all_cons hne2 hDc, ?_, FrameIs.kstb⟩
        rw [take_one hax]
        exact (hys.mono fun v y hy => hy.imp id fun ⟨h1, b, t1, t2, e, hm⟩ => ⟨h1, b, t1, t2, e, .tail _ hm⟩).append (.cons (.inr ⟨h4, _, _, _, rfl, .head _⟩) .nil)
  · intro g m nx h tk hPat0 F2 N2
    refine Mine.abs_goal fun PP kPP => ?_
    obtain ⟨T0, BB, XX, TT, DD, D, ys, n, cst, rfl, hlm, hnm, hDc, hys, hm⟩ := hPat0
    refine kPP ?_
    clear kPP
    have F3 := hm.fr F2
    clear F2; (try clear F1); (try clear N1); (try clear B' X' T' D')
    dsimp only
    rw [hi.length, List.take_length] at hys
    have hyl : ys.length ≤ 6 := by rw [hys.length]; exact hlen6
    w_strict (repeat' (first | (k_unfold; (try dsimp only)) | (walk1; all_goals (try dsimp only)) | (dsimp only; walk1; all_goals (try dsimp only))))
    refine ⟨?_⟩
    refine LCt.CompSrcT.ledger (by rfl) F3 N2 (.head _) (by rw [List.size_toArray]; exact Nat.le_trans hyl (by decide)) ?_
    intro g''
    refine restT (n := ys.toArray.size) (J := fun j zs nx' => nx' = _ ∧ All2 (fun v x => ∃ b t1 t2, v = Value.ref b ∧ (b, netT x t1 t2) ∈ cst) zs ((ns.take j).filter fun x => decide (x / 12 % 5 ≠ 4))) ?_ ?_ _ 0 [] _ (Nat.zero_add _) ⟨rfl, .nil⟩
    · intro k zs nx v I oI C oC D3 m₂ h tk E' hk hP hPat0 hC hx F9 N9 off9 ne9
      refine Mine.abs_goal fun PP kPP => ?_
      obtain ⟨rfl, hzs⟩ := hPat0
      refine kPP ?_
      clear kPP
      obtain ⟨x, hax, hv⟩ := hys.get (show ys[k]? = some v by simpa using hP)
      rcases hv with ⟨h4, rfl⟩ | ⟨h4, b, t1, t2, rfl, hbm⟩
      · w_strict (repeat' (first | (k_unfold; (try dsimp only)) | (walk1; all_goals (try dsimp only)) | (dsimp only; walk1; all_goals (try dsimp only))))
        refine ⟨_, _, _, rfl, F9, N9, off9, .inr ⟨_, .head _, rfl, _, rfl⟩, rfl, ?_⟩
        rw [take_one hax, List.filter_append]
        simpa [h4] using hzs
      · w_strict (repeat' (first | (k_unfold; (try dsimp only)) | (walk1; all_goals (try dsimp only)) | (dsimp only; walk1; all_goals (try dsimp only))))
        refine ⟨_, _, _, rfl, F9, N9, off9, .inr ⟨_, .head _, rfl, _, rfl⟩, rfl, ?_⟩
        rw [take_one hax, List.filter_append]
        simp only [List.filter_cons, List.filter_nil, ne_eq, h4, not_false_eq_true, decide_true, if_true]
        exact hzs.append (.cons ⟨b, t1, t2, rfl, hbm⟩ .nil)
    · intro zs nx hPat0 D3 h tk F9 N9 off9
      refine Mine.abs_goal fun PP kPP => ?_
      obtain ⟨rfl, hzs⟩ := hPat0
      refine kPP ?_
      clear kPP
      w_strict (repeat' (first | (k_unfold; (try dsimp only)) | (walk1; all_goals (try dsimp only)) | (dsimp only; walk1; all_goals (try dsimp only))))
      rename Fr h₀ _ _ _ => FK
      rename News h₀ _ _ _ => NK
      rw [List.size_toArray, hys.length, List.take_length] at hzs
      exact hret _ ((D3, LCg.lst zs) :: (D, listOf ys.toArray n) :: cst) _ _ FK (news_sub NK fun p hp => by
        rcases List.mem_append.mp hp with hp | hp
        · exact hp
        · exact .tail _ (.tail _ (hnm p hp))) ⟨D3, zs, rfl, .head _, hzs.mono fun v x ⟨b, t1, t2, e, hm⟩ => ⟨b, t1, t2, e, .tail _ (.tail _ hm)⟩⟩
end Mine
end
section
local macro_rules | `(tactic| walk_at "eval ListComp BinOp cons") => `(tactic| (refine Mine.Stop.out ?_))
local macro_rules | `(tactic| walk_at "subscriptTail Name Slice ref ref") => `(tactic| (refine Mine.Stop.out ?_))
local macro_rules | `(tactic| walk_at "binaryOp Add ref ref") => `(tactic| (refine Mine.Stop.out ?_))
namespace Mine
def duePorts : List Int := [120, 13, 26, 39, 64, 18]
def portsOf (ns : List Int) : List Int := (ns.take 6 ++ duePorts.drop (ns.take 6).length).map (· % 60000)
theorem portsOf_len (ns : List Int) : (portsOf ns).length = 6 := by
  simp only [portsOf, List.length_map, List.length_append, List.length_drop, List.length_take, duePorts, List.length_cons, List.length_nil]; omega
theorem portsOf_b (ns : List Int) : ∀ x ∈ portsOf ns, 0 ≤ x ∧ x < 60000 := fun x hx => by
  obtain ⟨y, _, rfl⟩ := List.mem_map.mp hx
  exact ⟨Int.emod_nonneg _ (by decide), Int.emod_lt_of_pos _ (by decide)⟩
theorem pick_6 {vs : List Value} : kms_pick vs.toArray.toList none (some 6) = vs.take 6 := by
  have e : kms_hi (some 6) vs.length = min 6 vs.length := by rfl
  have e2 : vs.toArray.toList = vs := rfl
  rw [e2, kms_pick, e]
  show (vs.drop 0).take (min 6 vs.length - 0) = _
  rw [List.drop_zero, Nat.sub_zero, kmk_take_min]
theorem pick_from {vs : List Value} {k : Nat} : kms_pick vs.toArray.toList (some (k : Int)) none = vs.drop k := by
  have e : kms_lo (some (k : Int)) vs.length = min k vs.length := by
    show (if (k : Int) < 0 then vs.length - (-(k : Int)).toNat else min (k : Int).toNat vs.length) = _
    rw [if_neg (by omega), show ((k : Int)).toNat = k from by omega]
  have e2 : vs.toArray.toList = vs := rfl
  rw [e2, kms_pick, e, kmk_drop_min]
  show (vs.drop k).take (vs.length - min k vs.length) = _
  rw [List.take_of_length_le]
  rw [List.length_drop]; omega
theorem ints_take : ∀ {vs : List Value} {ns : List Int}, IntsAre vs ns → ∀ k, IntsAre (vs.take k) (ns.take k)
  | _, _, .nil, k => by rw [List.take_nil, List.take_nil]; exact .nil
  | _, _, .cons _ _ _, 0 => .nil
  | _, _, .cons a t r, k + 1 => .cons a t (ints_take r k)
theorem ints_drop : ∀ {vs : List Value} {ns : List Int}, IntsAre vs ns → ∀ k, IntsAre (vs.drop k) (ns.drop k)
  | _, _, .nil, k => by rw [List.drop_nil, List.drop_nil]; exact .nil
  | _, _, .cons a t r, 0 => .cons a t r
  | _, _, .cons _ _ r, k + 1 => ints_drop r k
theorem c_ports (w : World) (l : Addr) (vs : List Value) (ns : List Int) : Mine.Con w 98 4 [.ref l] (fun h => h.IsList l vs.toArray ∧ IntsAre vs ns ∧ ns.length ≤ 63) (fun tl r => ∃ a ws n, r = .ref a ∧ (a, listOf ws.toArray n) ∈ tl ∧ IntsAre ws (portsOf ns)) := by
  w_top off
  refine Mine.Con.of ?_
  k_fill
  intro loose mean mg mb dp un gd cn cs a ccd cl outer A₀ base h₀ L m sh sg sd sk so Q E B F X T hk hd hu hp hret
  obtain ⟨hl, hi, hlen⟩ := hp
  refine wpAny_call ?_
  k_dflt (refine' Mine.callG (binds := [("script", .ref l)]) ?k1 ?k2 ?k3 ?k5 ?kA ?kF ?kK ?k6 ?k7 ?k8 ?k9 ?kB ?kD ?_ ?c2 ?c3 ?c4 ?c5; (case kA => exact rfl); (case kF => exact rfl); (case kK => assumption); (case k1 => k_asm); (case k2 => k_asm); (case k3 => k_asm); (case k5 => k_asm); (case k6 => k_is); (case k7 => k_is); (case k8 => ktr_room); (case k9 => exact BindsTo.of_eq rfl); (case c5 => decide); (case kB => exact locs rfl); (case kD => exact rfl); (case c2 => exact rfl); (case c3 => exact rfl); (case c4 => exact rfl); k_whole; intro L' h' F' N' B' X' T'; (try dsimp only); (try k_fold))
  w_strict (repeat' (first | (k_unfold; (try dsimp only)) | (walk1; all_goals (try dsimp only)) | (dsimp only; walk1; all_goals (try dsimp only))))
  refine ⟨?_⟩
  rename Fr sh _ _ _ => F1
  rename News sh _ _ _ => N1
  have hvz : vs.toArray.size ≤ sizeLine := by rw [List.size_toArray, hi.length]; exact Nat.le_trans hlen (by decide)
  have hd6 := fun (a b c d e f : Tok) => (show IntsAre [.int 120 a, .int 13 b, .int 26 c, .int 39 d, .int 64 e, .int 18 f] duePorts from .cons _ _ (.cons _ _ (.cons _ _ (.cons _ _ (.cons _ _ (.cons _ _ .nil))))))
  have F4 := fr_cast F1 (show _ = frB NoN [("due", _), ("script", .ref l)] from by with_unfolding_all rfl)
  clear F1
  k_dflt (refine LCg.ListComp_U (F₀ := F4) (by with_unfolding_all rfl) (by decide) (by rfl) (by decide) (by rfl) ?_)
  w_strict (repeat' (first | (k_unfold; (try dsimp only)) | (walk1; all_goals (try dsimp only)) | (dsimp only; walk1; all_goals (try dsimp only))))
  refine ⟨?_⟩
  rename Fr _ _ _ _ => FF
  rename News _ _ _ _ => NN
  k_dflt (refine' slice_at FF NN ?zl ?zp ?zq ?ze ?zh ?_ ?zs ?zt ?zz)
  case zh => exact rfl
  case zl => exact Fr.lst FF hl
  case zp => kmk_part
  case zq => kmk_part
  case ze => exact Mine.pick_6
  case zs => with_unfolding_all rfl
  case zt => kmk_pure
  case zz => exact hvz
  intro D2 h9 F9 N9 l9
  clear FF NN
  dsimp only
  have htk : (vs.take 6).length ≤ 6 := by rw [List.length_take]; omega
  w_strict (repeat' (first | (k_unfold; (try dsimp only)) | (walk1; all_goals (try dsimp only)) | (dsimp only; walk1; all_goals (try dsimp only))))
  refine ⟨?_⟩
  rename Fr _ _ _ _ => FF
  rename News _ _ _ _ => NN
  k_dflt (refine' slice_at FF NN ?zl ?zp ?zq ?ze ?zh ?_ ?zs ?zt ?zz)
  case zh => exact rfl
  case zl => exact Fr.lst FF hl
  case zp => kmk_part
  case zq => kmk_part
  case ze => exact Mine.pick_6
  case zs => with_unfolding_all rfl
  case zt => kmk_pure
  case zz => exact hvz
  intro D3 h10 F10 N10 l10
  clear FF NN
  dsimp only
  w_strict (repeat' (first | (k_unfold; (try dsimp only)) | (walk1; all_goals (try dsimp only)) | (dsimp only; walk1; all_goals (try dsimp only))))
  refine ⟨?_⟩
  rename Fr _ _ _ _ => FF
  rename News _ _ _ _ => NN
  have hdl := NN _ (.tail _ (.tail _ (.head _)))
  k_dflt (refine' slice_at FF NN ?zl ?zp ?zq ?ze ?zh ?_ ?zs ?zt ?zz)
  case zh => exact rfl
  case zl => exact ⟨_, hdl.1, rfl, _, rfl⟩
  case zp => kmk_part
  case zq => kmk_part
  case ze => exact Mine.pick_from
  case zs => with_unfolding_all rfl
  case zt => kmk_pure
  case zz => exact (show 6 ≤ sizeLine by decide)
  intro D4 h11 F11 N11 l11
  clear FF NN hdl
  dsimp only
  w_strict (repeat' (first | (k_unfold; (try dsimp only)) | (walk1; all_goals (try dsimp only)) | (dsimp only; walk1; all_goals (try dsimp only))))
  refine ⟨?_⟩
  have hi6 := ints_take hi 6
  k_dflt (refine kmk_add_ints F11 N11 ⟨_, (N11 _ (.tail _ (.tail _ (.head _)))).1, rfl, _, rfl⟩ ⟨_, (N11 _ (.head _)).1, rfl, _, rfl⟩ hi6 (ints_drop (hd6 _ _ _ _ _ _) _) (fun D5 us h5 F5 N5 l5 hI5 => ?_) ?_)
  rotate_left
  · rw [List.length_take, List.length_drop]; exact Nat.le_trans (Nat.add_le_add (Nat.min_le_left _ _) (Nat.sub_le _ _)) (by decide)
  have hus : us.length ≤ 12 := by rw [hI5.length, List.length_append, List.length_take, List.length_drop]; simp only [duePorts, List.length_cons, List.length_nil]; omega
  dsimp only
  w_strict (repeat' (first | (k_unfold; (try dsimp only)) | (walk1; all_goals (try dsimp only)) | (dsimp only; walk1; all_goals (try dsimp only))))
  refine ⟨?_⟩
  refine LCg.CompSrc.ledger (by rfl) F5 N5 (.head _) (by rw [List.size_toArray]; exact Nat.le_trans hus (by decide)) ?_
  intro g'
  refine restU (n := us.toArray.size) (J := fun j ys nx' => nx' = _ ∧ IntsAre ys ((portsOf ns).take j)) ?_ ?_ _ 0 [] _ (Nat.zero_add _) ⟨rfl, .nil⟩
  · intro k ys nx v I oI C oC D m₂ h tk E' hk hP hPat0 hC hx F9 N9 off9 ne9
    refine Mine.abs_goal fun PP kPP => ?_
    obtain ⟨rfl, hys⟩ := hPat0
    refine kPP ?_
    clear kPP
    obtain ⟨a, ha, tka, rfl⟩ := int_at hI5 (by simpa using hP)
    w_strict (repeat' (first | (k_unfold; (try dsimp only)) | (walk1; all_goals (try dsimp only)) | (dsimp only; walk1; all_goals (try dsimp only))))
    refine ⟨_, _, _, rfl, F9, N9, off9, .inr ⟨_, .head _, rfl, _, rfl⟩, rfl, ?_⟩
    have hl6 : (vs.take 6).length = (ns.take 6).length := (ints_take hi 6).length
    rw [hl6] at ha
    rw [take_one (show (portsOf ns)[k]? = some (a % 60000) from by rw [portsOf, List.getElem?_map, ha]; rfl), Int.fmod_eq_emod_of_nonneg a (by decide)]
    exact ints_app hys (.cons _ _ .nil)
  · intro ys nx hPat0 D h tk F9 N9 off9
    refine Mine.abs_goal fun PP kPP => ?_
    obtain ⟨rfl, hys⟩ := hPat0
    refine kPP ?_
    clear kPP
    dsimp only
    w_strict (repeat' (first | (k_unfold; (try dsimp only)) | (walk1; all_goals (try dsimp only)) | (dsimp only; walk1; all_goals (try dsimp only))))
    have hl6 : (vs.take 6).length = (ns.take 6).length := (ints_take hi 6).length
    rw [hl6] at hI5
    rw [List.size_toArray, hI5.length, show (ns.take 6 ++ duePorts.drop (ns.take 6).length).length = (portsOf ns).length from by simp [portsOf], List.take_length] at hys
    exact hret _ [(D, LCg.lst ys)] _ _ F9.keep (fun p hp => by rw [List.mem_singleton.mp hp]; exact ⟨(N9 _ (.head _)).1, (N9 _ (.head _)).2.2⟩) ⟨D, ys, _, rfl, .head _, hys⟩
end Mine
end
section
open PySem PySem.W PyProof.Rows
set_option maxRecDepth 100000
namespace Mine
/-! hues -/
theorem look_put (c : List (Int × Int)) (k v j d : Int) : kdfLook (kdfPut c k v) j d = if j = k then v else kdfLook c j d := by
  have hmap : ∀ l : List (Int × Int), j ≠ k → (l.map (fun p => if decide (p.1 = k) then (p.1, v) else p)).find? (fun p => decide (p.1 = j)) = l.find? (fun p => decide (p.1 = j)) := by
    intro l hj
    induction l with
    | nil => rfl
    | cons p l ih =>
      rw [List.map_cons, List.find?_cons, List.find?_cons]
      by_cases hp : p.1 = k
      · have hpj : ¬ p.1 = j := fun e => hj (e.symm.trans hp)
        simp only [hp, decide_true, if_true]
        rw [show decide (k = j) = false from decide_eq_false (fun e => hj e.symm)]
        exact ih
      · simp only [hp, decide_false, Bool.false_eq_true, if_false]
        cases decide (p.1 = j) with
        | true => rfl
        | false => exact ih
  have hmap2 : ∀ l : List (Int × Int), l.any (fun p => decide (p.1 = k)) = true → (l.map (fun p => if decide (p.1 = k) then (p.1, v) else p)).find? (fun p => decide (p.1 = k)) = some (k, v) := by
    intro l h
    induction l with
    | nil => simp at h
    | cons p l ih =>
      rw [List.map_cons, List.find?_cons]
      by_cases hp : p.1 = k
      · simp [hp]
      · simp only [hp, decide_false, Bool.false_eq_true, if_false]
        refine ih ?_
        simpa [List.any_cons, hp] using h
  unfold kdfLook kdfPut
  by_cases ha : c.any (fun p => decide (p.1 = k)) = true
  · rw [if_pos ha]
    by_cases hj : j = k
    · subst hj
      rw [if_pos rfl, hmap2 c ha]; rfl
    · rw [if_neg hj, hmap c hj]
  · rw [if_neg ha, List.find?_append]
    have hn : c.find? (fun p => decide (p.1 = k)) = none := by
      rw [List.find?_eq_none]
      intro p hp hk
      exact ha (List.any_eq_true.mpr ⟨p, hp, hk⟩)
    by_cases hj : j = k
    · subst hj
      rw [if_pos rfl, hn]; simp
    · rw [if_neg hj]
      have : ([(k, v)] : List (Int × Int)).find? (fun p => decide (p.1 = j)) = none := by
        rw [List.find?_cons, show decide ((k, v).1 = j) = false from decide_eq_false (fun e => hj e.symm)]; rfl
      rw [this]; cases c.find? (fun p => decide (p.1 = j)) <;> rfl
def hits (k : Int) (l : List Int) : Nat := sumL (fun a => if a = k then 1 else 0) l
theorem tally_look (k : Int) : ∀ (l : List Int) (c : List (Int × Int)), kdfLook (l.foldl (fun c k => kdfPut c k (kdfLook c k 0 + 1)) c) k 0 = kdfLook c k 0 + (hits k l : Nat) := by
  intro l
  induction l with
  | nil => intro c; simp [hits, sumL]
  | cons a l ih =>
    intro c
    rw [List.foldl_cons, ih, look_put]
    simp only [hits, sumL]
    by_cases h : k = a
    · subst h; rw [if_pos rfl, if_pos rfl]; omega
    · rw [if_neg h, if_neg (fun e => h e.symm)]; omega
theorem sum_nat {α : Type} (f : α → Int) (g : α → Nat) (l : List α) (h : ∀ a ∈ l, f a = (g a : Int)) : (l.map f).sum = (sumL g l : Nat) := by
  induction l with
  | nil => rfl
  | cons a l ih =>
    simp only [List.map_cons, List.sum_cons, sumL, h a (.head _), ih fun b hb => h b (.tail _ hb)]
    omega
/-- a stand as a point -/
def st (s : List Int) : Nat → Fin 4 := fun x => Fin.ofNat 4 (s.getD x 0).toNat
def raw (p : Int × Int) : Pr := (p.1.toNat, p.2.toNat)
theorem st_add (a : Int) (h0 : 0 ≤ a) (h4 : a < 4) : Fin.ofNat 4 ((a + 1) % 4).toNat = Fin.ofNat 4 a.toNat + 1 ∧ Fin.ofNat 4 ((a + 2) % 4).toNat = Fin.ofNat 4 a.toNat + 2 ∧ Fin.ofNat 4 ((a + 3) % 4).toNat = Fin.ofNat 4 a.toNat + 3 ∧
    Fin.ofNat 4 ((a + 4 - 1) % 4).toNat = Fin.ofNat 4 a.toNat + -1 ∧ Fin.ofNat 4 ((a + 4 - 2) % 4).toNat = Fin.ofNat 4 a.toNat + -2 ∧ Fin.ofNat 4 ((a + 4 - 3) % 4).toNat = Fin.ofNat 4 a.toNat + -3 := by
  have h : a = 0 ∨ a = 1 ∨ a = 2 ∨ a = 3 := by omega
  rcases h with rfl | rfl | rfl | rfl <;> decide
theorem getD_set (s : List Int) (i x : Nat) (v : Int) (hi : i < s.length) : (s.set i v).getD x 0 = if x = i then v else s.getD x 0 := by
  rw [List.getD_eq_getElem?_getD, List.getElem?_set, List.getD_eq_getElem?_getD]
  by_cases h : x = i
  · subst h; rw [if_pos rfl, if_pos rfl, if_pos hi]; rfl
  · rw [if_neg (fun e => h e.symm), if_neg h]
theorem st_turn {o i : Nat} {s : List Int} (h : StOk s) (ho : o < 4) (hi : i < 4) (hne : o ≠ i) (v : Int) (w : Fin 4) (hv : ∀ a : Int, 0 ≤ a → a < 4 → Fin.ofNat 4 ((a + v) % 4).toNat = Fin.ofNat 4 a.toNat + w ∧ Fin.ofNat 4 ((a + 4 - v) % 4).toNat = Fin.ofNat 4 a.toNat + -w) :
    st (turn1 o i v s) = actA (o, i) w (st s) := by
  funext x
  have z : ∀ k : Fin 4, k + 0 = k := by decide
  have z0' : ∀ k : Fin 4, k + 0 + 0 = k := by decide
  show Fin.ofNat 4 ((turn1 o i v s).getD x 0).toNat = st s x + (if x = o then w else 0) + (if x = i then -w else 0)
  simp only [turn1]
  rw [getD_set _ _ _ _ (by rw [List.length_set, h.1]; exact hi), getD_set s o i _ (by rw [h.1]; exact ho), getD_set s o x _ (by rw [h.1]; exact ho), if_neg (Ne.symm hne)]
  by_cases hx : x = o
  · subst hx
    rw [if_pos rfl, if_neg hne, if_neg hne, if_pos rfl, z]
    exact (hv _ (h.getD x).1 (h.getD x).2).1
  · rw [if_neg hx]
    by_cases hx2 : x = i
    · subst hx2
      rw [if_pos rfl, if_pos rfl, if_neg hx, z]
      exact (hv _ (h.getD x).1 (h.getD x).2).2
    · rw [if_neg hx2, if_neg hx2, if_neg hx, z0']; rfl
def TieOk (p : Int × Int) : Prop := (0 ≤ p.1 ∧ p.1 < 4 ∧ 0 ≤ p.2 ∧ p.2 < 4) ∧ p.1 ≠ p.2
theorem st_three {p : Int × Int} {s : List Int} (h : StOk s) (hp : TieOk p) : st (turn1 p.1.toNat p.2.toNat 1 s) = actA (raw p) 1 (st s) ∧ st (turn1 p.1.toNat p.2.toNat 2 s) = actA (raw p) 2 (st s) ∧ st (turn1 p.1.toNat p.2.toNat 3 s) = actA (raw p) 3 (st s) := by
  obtain ⟨⟨h0, h1, h2, h3⟩, hne⟩ := hp
  have a1 : p.1.toNat < 4 := by omega
  have a2 : p.2.toNat < 4 := by omega
  have a3 : p.1.toNat ≠ p.2.toNat := by omega
  exact ⟨st_turn h a1 a2 a3 1 1 fun a x y => ⟨(st_add a x y).1, (st_add a x y).2.2.2.1⟩, st_turn h a1 a2 a3 2 2 fun a x y => ⟨(st_add a x y).2.1, (st_add a x y).2.2.2.2.1⟩, st_turn h a1 a2 a3 3 3 fun a x y => ⟨(st_add a x y).2.2.1, (st_add a x y).2.2.2.2.2⟩⟩
theorem stands_cnt (F : (Nat → Fin 4) → Nat) : ∀ (l : List (Int × Int)) (ss : List (List Int)), (∀ p ∈ l, TieOk p) → (∀ s ∈ ss, StOk s) → sumL (fun s => F (st s)) (l.foldl (fun ss p => ss.flatMap (turn3 p)) ss) = sumL (fun s => cnt actA F (l.map raw) (st s)) ss := by
  intro l
  induction l with
  | nil => intro ss _ _; rfl
  | cons p l ih =>
    intro ss hl hs
    have hok : ∀ s ∈ ss.flatMap (turn3 p), StOk s := fun s hs' => by
      obtain ⟨s', h1, h2⟩ := List.mem_flatMap.mp hs'
      simp only [turn3, List.mem_cons, List.not_mem_nil, or_false] at h2
      rcases h2 with rfl | rfl | rfl <;> exact turn1_ok (hs s' h1)
    rw [List.foldl_cons, ih _ (fun q hq => hl q (.tail _ hq)) hok]
    clear hok ih
    induction ss with
    | nil => rfl
    | cons s ss ih2 =>
      have h3 := st_three (hs s (.head _)) (hl p (.head _))
      rw [List.flatMap_cons, sumL_app, ih2 fun s' h => hs s' (.tail _ h)]
      simp only [turn3, sumL, List.map_cons, cnt, h3.1, h3.2.1, h3.2.2]
      omega
theorem dig4 {a b c d a' b' c' d' : Int} (h : a * 64 + b * 16 + c * 4 + d = a' * 64 + b' * 16 + c' * 4 + d') (hd : 0 ≤ d ∧ d < 4) (hd' : 0 ≤ d' ∧ d' < 4) (hc : 0 ≤ c ∧ c < 4) (hc' : 0 ≤ c' ∧ c' < 4) (hb : 0 ≤ b ∧ b < 4) (hb' : 0 ≤ b' ∧ b' < 4) : a = a' ∧ b = b' ∧ c = c' ∧ d = d' := by
  have step : ∀ x y d d' : Int, x * 4 + d = y * 4 + d' → 0 ≤ d ∧ d < 4 → 0 ≤ d' ∧ d' < 4 → x = y ∧ d = d' := fun x y d d' h1 h2 h3 => by omega
  obtain ⟨h1, e1⟩ := step (a * 16 + b * 4 + c) (a' * 16 + b' * 4 + c') d d' (by omega) hd hd'
  obtain ⟨h2, e2⟩ := step (a * 4 + b) (a' * 4 + b') c c' (by omega) hc hc'
  obtain ⟨h3, e3⟩ := step a a' b b' h2 hb hb'
  exact ⟨h3, e3, e2, e1⟩
theorem code_st {s t : List Int} (hs : StOk s) (ht : StOk t) : (if code s = code t then 1 else 0) = dl (st t) (st s) := by
  have key : ∀ a b : Int, 0 ≤ a → a < 4 → 0 ≤ b → b < 4 → (Fin.ofNat 4 a.toNat = Fin.ofNat 4 b.toNat ↔ a = b) := by
    intro a b h1 h2 h3 h4
    have x : a = 0 ∨ a = 1 ∨ a = 2 ∨ a = 3 := by omega
    have y : b = 0 ∨ b = 1 ∨ b = 2 ∨ b = 3 := by omega
    rcases x with rfl | rfl | rfl | rfl <;> rcases y with rfl | rfl | rfl | rfl <;> decide
  have k := fun x => key (s.getD x 0) (t.getD x 0) (hs.getD x).1 (hs.getD x).2 (ht.getD x).1 (ht.getD x).2
  have b := fun x => hs.getD x
  have c := fun x => ht.getD x
  have e : code s = code t ↔ (st s 0 = st t 0 ∧ st s 1 = st t 1 ∧ st s 2 = st t 2 ∧ st s 3 = st t 3) := by
    show code s = code t ↔ (Fin.ofNat 4 (s.getD 0 0).toNat = Fin.ofNat 4 (t.getD 0 0).toNat ∧ Fin.ofNat 4 (s.getD 1 0).toNat = Fin.ofNat 4 (t.getD 1 0).toNat ∧ Fin.ofNat 4 (s.getD 2 0).toNat = Fin.ofNat 4 (t.getD 2 0).toNat ∧ Fin.ofNat 4 (s.getD 3 0).toNat = Fin.ofNat 4 (t.getD 3 0).toNat)
    rw [k 0, k 1, k 2, k 3]
    constructor
    · intro h
      exact dig4 h (b 3) (c 3) (b 2) (c 2) (b 1) (c 1)
    · rintro ⟨e0, e1, e2, e3⟩
      unfold code
      rw [e0, e1, e2, e3]
  simp only [dl, e]
theorem swp_raw (l : List (Int × Int)) : (l.map swp).map raw = (l.map raw).map swN := by
  simp [List.map_map]; intros; rfl
theorem hues_cnt {ts : List (Int × Int)} (h : ∀ p ∈ ts, TieOk p) : huesWays ts = (cnt actA (dl z0) (ts.map raw) z0 : Nat) := by
  have hb : ∀ p ∈ ts, 0 ≤ p.1 ∧ p.1 < 4 ∧ 0 ≤ p.2 ∧ p.2 < 4 := fun p hp => (h p hp).1
  have h1 : ∀ p ∈ ts.take 3, TieOk p := fun p hp => h p (List.mem_of_mem_take hp)
  have h2 : ∀ p ∈ (ts.drop 3).map swp, TieOk p := fun p hp => by
    obtain ⟨q, hq, rfl⟩ := List.mem_map.mp hp
    obtain ⟨⟨a, b, c, d⟩, e⟩ := h q (List.mem_of_mem_drop hq)
    exact ⟨⟨c, d, a, b⟩, Ne.symm e⟩
  have ok1 := standsOf_ok (ties := ts.take 3) fun p hp => (h1 p hp).1
  have ok2 := standsOf_ok (ties := (ts.drop 3).map swp) fun p hp => (h2 p hp).1
  have zst : st [0, 0, 0, 0] = z0 := by
    funext x
    match x with
    | 0 => rfl
    | 1 => rfl
    | 2 => rfl
    | 3 => rfl
    | x + 4 => rfl
  have z4 : ∀ s ∈ ([[0, 0, 0, 0]] : List (List Int)), StOk s := fun s hs => by
    rw [List.mem_singleton.mp hs]
    exact ⟨rfl, fun x hx => by simp at hx; omega⟩
  have S := fun F (l : List (Int × Int)) (hl : ∀ p ∈ l, TieOk p) => (show sumL (fun s => F (st s)) (standsOf l) = cnt actA F (l.map raw) z0 by
    have := stands_cnt F l [[0, 0, 0, 0]] hl z4
    rw [show standsOf l = l.foldl (fun ss p => ss.flatMap (turn3 p)) [[0, 0, 0, 0]] from rfl, this]
    simp only [sumL, zst]; omega)
  unfold huesWays
  rw [List.map_map, sum_nat _ (fun s2 => cnt actA (dl (st s2)) ((ts.take 3).map raw) z0) _ (fun s2 hs2 => ?_), S (fun h => cnt actA (dl h) ((ts.take 3).map raw) z0) _ h2, swp_raw, cnt_meet, ← List.map_append, cnt_perm commA ((List.perm_append_comm).map raw), List.take_append_drop]
  show kdfLook (tally ((standsOf (ts.take 3)).map code)) (code s2) 0 = _
  rw [tally, tally_look, hits, sumL_map, sumL_congr (fun s1 hs1 => code_st (ok1 s1 hs1) (ok2 s2 hs2)), S (dl (st s2)) _ h1]
  show (0 : Int) + _ = _
  omega
end Mine
end
section
open PySem PySem.W PyProof.Rows
set_option maxRecDepth 100000
namespace Mine
abbrev toI (a : Nat) : Int := (a : Int)
def orT (i j : Nat) : Int := ((i ||| j : Nat) : Int)
def fullOf (ts : List (Int × Int)) : Int := 2 ^ ts.length - 1
def evenOf (ts : List (Int × Int)) : List Int := evenTo (leftOf ts) (leftOf ts).length
def norm (p : Int × Int) : Pr := if p.1 < p.2 then raw p else swN (raw p)
theorem cnt_norm {F : (Nat → Fin 4) → Nat} : ∀ (l : List (Int × Int)) (g : Nat → Fin 4), cnt actA F (l.map raw) g = cnt actA F (l.map norm) g := by
  intro l
  induction l with
  | nil => intro g; rfl
  | cons p l ih =>
    intro g
    have h1 : ∀ e g, cnt actA F (e :: l.map raw) g = cnt actA F (e :: l.map norm) g := fun e g => by simp only [cnt, ih]
    rw [List.map_cons, List.map_cons, h1, norm]
    by_cases h : p.1 < p.2
    · rw [if_pos h]
    · rw [if_neg h, cntA_sw]
theorem norm_six {p : Int × Int} (h : TieOk p) : norm p ∈ six ∧ mask (norm p) = 2 ^ p.1.toNat + 2 ^ p.2.toNat ∧ mask (norm p) < 16 := by
  obtain ⟨x, y⟩ := p
  obtain ⟨⟨h0, h1, h2, h3⟩, hne⟩ := h
  dsimp only at h0 h1 h2 h3 hne
  refine of_fin (n := 4) (P := fun x => x ≠ y → norm (x, y) ∈ six ∧ mask (norm (x, y)) = 2 ^ x.toNat + 2 ^ y.toNat ∧ mask (norm (x, y)) < 16) (fun k => ?_) h0 h1 hne
  exact of_fin (n := 4) (P := fun y => (k.val : Int) ≠ y → norm ((k.val : Int), y) ∈ six ∧ mask (norm ((k.val : Int), y)) = 2 ^ (k.val : Int).toNat + 2 ^ y.toNat ∧ mask (norm ((k.val : Int), y)) < 16) (fun j => by revert k j; decide) h2 h3
/-- the sums of the sets, the newest tie's bit on top -/
def LR : List Pr → List Nat
  | [] => [0]
  | e :: r => LR r ++ (LR r).map (· ^^^ mask e)
theorem LR_len (r : List Pr) : (LR r).length = 2 ^ r.length := by
  induction r with
  | nil => rfl
  | cons e r ih => rw [LR, List.length_append, List.length_map, ih, List.length_cons, Nat.pow_succ]; omega
theorem LR_lt {r : List Pr} (h : ∀ e ∈ r, mask e < 16) : ∀ a ∈ LR r, a < 16 := by
  induction r with
  | nil => intro a ha; rw [List.mem_singleton.mp ha]; decide
  | cons e r ih =>
    intro a ha
    have ih := ih fun f hf => h f (.tail _ hf)
    rcases List.mem_append.mp ha with ha | ha
    · exact ih a ha
    · obtain ⟨b, hb, rfl⟩ := List.mem_map.mp ha
      exact Nat.xor_lt_two_pow (n := 4) (ih b hb) (h e (.head _))
theorem LR_lo {e : Pr} {r : List Pr} {a : Nat} (h : a < 2 ^ r.length) : (LR (e :: r)).getD a 0 = (LR r).getD a 0 := by
  rw [LR, List.getD_eq_getElem?_getD, List.getElem?_append_left (by rw [LR_len]; exact h), List.getD_eq_getElem?_getD]
theorem LR_hi {e : Pr} {r : List Pr} {a : Nat} (h : a < 2 ^ r.length) : (LR (e :: r)).getD (2 ^ r.length + a) 0 = (LR r).getD a 0 ^^^ mask e := by
  have hl : a < (LR r).length := by rw [LR_len]; exact h
  rw [LR, List.getD_eq_getElem?_getD, List.getElem?_append_right (by rw [LR_len]; omega), LR_len, show 2 ^ r.length + a - 2 ^ r.length = a from by omega, List.getElem?_map, List.getD_eq_getElem?_getD, List.getElem?_eq_getElem hl]; rfl
theorem xor_cast : ∀ a, a < 16 → ∀ b, b < 16 → Builtin.bitXor ((a : Nat) : Int) ((b : Nat) : Int) = ((a ^^^ b : Nat) : Int) := by decide +kernel
theorem or_cast (a b : Nat) : Builtin.bitOr (a : Int) (b : Int) = ((a ||| b : Nat) : Int) := by
  have h1 : Builtin.bitNot (a : Int) < 0 := by unfold Builtin.bitNot; omega
  have h2 : Builtin.bitNot (b : Int) < 0 := by unfold Builtin.bitNot; omega
  have h3 : ∀ c : Nat, (Builtin.bitNot (Builtin.bitNot (c : Int))) = c := fun c => by unfold Builtin.bitNot; omega
  unfold Builtin.bitOr
  rw [bitAnd_nn (by omega) (by omega), h3 a, h3 b, Int.toNat_natCast, Int.toNat_natCast, h3]
theorem left_LR {ts : List (Int × Int)} (h : ∀ p ∈ ts, TieOk p) : leftOf ts = (LR (ts.reverse.map norm)).map toI := by
  rw [leftOf, List.foldl_eq_foldr_reverse]
  have hr : ∀ p ∈ ts.reverse, TieOk p := fun p hp => h p (List.mem_reverse.mp hp)
  revert hr
  generalize ts.reverse = r
  intro hr
  induction r with
  | nil => rfl
  | cons p r ih =>
    have ih := ih fun q hq => hr q (.tail _ hq)
    have hp := norm_six (hr p (.head _))
    have hlt := LR_lt (r := r.map norm) fun e he => by
      obtain ⟨q, hq, rfl⟩ := List.mem_map.mp he
      exact (norm_six (hr q (.tail _ hq))).2.2
    rw [List.foldr_cons, ih, List.map_cons, LR, List.map_append, List.map_map, List.map_map]
    congr 1
    refine List.map_congr_left fun a ha => ?_
    show Builtin.bitXor (a : Int) (2 ^ p.1.toNat + 2 ^ p.2.toNat) = ((a ^^^ mask (norm p) : Nat) : Int)
    rw [show (2 : Int) ^ p.1.toNat + 2 ^ p.2.toNat = ((mask (norm p) : Nat) : Int) from by rw [hp.2.1]; norm_cast, xor_cast a (hlt a ha) _ hp.2.2]
/-- the even sets -/
def EN (r : List Pr) : List Nat := (List.range (2 ^ r.length)).filter fun k => decide ((LR r).getD k 0 = 0)
theorem even_EN {ts : List (Int × Int)} (h : ∀ p ∈ ts, TieOk p) : evenOf ts = (EN (ts.reverse.map norm)).map toI := by
  rw [evenOf, left_LR h, evenTo, EN, List.length_map, LR_len]
  congr 1
  refine List.filter_congr fun k _ => ?_
  have e : ((LR (ts.reverse.map norm)).map toI).getD k 0 = (((LR (ts.reverse.map norm)).getD k 0 : Nat) : Int) := by
    rw [List.getD_eq_getElem?_getD, List.getElem?_map, List.getD_eq_getElem?_getD]
    cases (LR (ts.reverse.map norm))[k]? <;> rfl
  rw [e]
  by_cases h0 : (LR (ts.reverse.map norm)).getD k 0 = 0
  · rw [decide_eq_true h0, decide_eq_true (by rw [h0]; rfl)]
  · rw [decide_eq_false h0, decide_eq_false (by omega)]
/-! two sets that cover -/
theorem sumL_filter {α : Type} (f : α → Nat) (p : α → Bool) (l : List α) : sumL f (l.filter p) = sumL (fun a => if p a = true then f a else 0) l := by
  induction l with
  | nil => rfl
  | cons a l ih =>
    rw [List.filter_cons]
    by_cases h : p a = true
    · rw [if_pos h]; simp only [sumL, ih, if_pos h]
    · rw [if_neg h]; simp only [sumL, ih, if_neg h]; omega
theorem sumL_zero {α : Type} {f : α → Nat} {l : List α} (h : ∀ a ∈ l, f a = 0) : sumL f l = 0 := by
  induction l with
  | nil => rfl
  | cons a l ih => simp only [sumL, h a (.head _), ih fun b hb => h b (.tail _ hb)]
def NC (r : List Pr) (g h : Nat) : Nat := sumL (fun a => sumL (fun b => if (LR r).getD a 0 = g ∧ (LR r).getD b 0 = h ∧ a ||| b = 2 ^ r.length - 1 then 1 else 0) (List.range (2 ^ r.length))) (List.range (2 ^ r.length))
theorem or_hi {n a b : Nat} (ha : a < 2 ^ n) (hb : b < 2 ^ n) : (2 ^ n + a) ||| b = 2 ^ n + (a ||| b) ∧ a ||| (2 ^ n + b) = 2 ^ n + (a ||| b) ∧ (2 ^ n + a) ||| (2 ^ n + b) = 2 ^ n + (a ||| b) := by
  have e : ∀ c, c < 2 ^ n → 2 ^ n + c = 2 ^ n ||| c := fun c hc => by
    have := Nat.two_pow_add_eq_or_of_lt hc 1
    rwa [Nat.mul_one] at this
  have hab : a ||| b < 2 ^ n := Nat.or_lt_two_pow ha hb
  rw [e a ha, e b hb, e _ hab]
  refine ⟨by rw [Nat.or_assoc], ?_, ?_⟩
  · rw [← Nat.or_assoc, Nat.or_comm a, Nat.or_assoc]
  · rw [Nat.or_assoc, ← Nat.or_assoc a, Nat.or_comm a, Nat.or_assoc, ← Nat.or_assoc (2 ^ n), Nat.or_self]
theorem xor_eq (x m g : Nat) : x ^^^ m = g ↔ x = g ^^^ m := by
  constructor
  · rintro rfl; rw [Nat.xor_assoc, Nat.xor_self, Nat.xor_zero]
  · rintro rfl; rw [Nat.xor_assoc, Nat.xor_self, Nat.xor_zero]
theorem NC_cons (e : Pr) (r : List Pr) (g h : Nat) : NC (e :: r) g h = NC r (g ^^^ mask e) h + NC r g (h ^^^ mask e) + NC r (g ^^^ mask e) (h ^^^ mask e) := by
  have hn : 0 < 2 ^ r.length := Nat.two_pow_pos _
  have hR : List.range (2 ^ (e :: r).length) = List.range (2 ^ r.length) ++ (List.range (2 ^ r.length)).map fun x => 2 ^ r.length + x := by
    rw [List.length_cons, Nat.pow_succ, show 2 ^ r.length * 2 = 2 ^ r.length + 2 ^ r.length from by omega, List.range_add]
  have hp : 2 ^ (e :: r).length - 1 = 2 ^ r.length + (2 ^ r.length - 1) := by rw [List.length_cons, Nat.pow_succ]; omega
  unfold NC
  rw [hR, hp, sumL_app, sumL_map]
  rw [show sumL (fun a => sumL (fun b => if (LR (e :: r)).getD a 0 = g ∧ (LR (e :: r)).getD b 0 = h ∧ a ||| b = 2 ^ r.length + (2 ^ r.length - 1) then 1 else 0) (List.range (2 ^ r.length) ++ (List.range (2 ^ r.length)).map fun x => 2 ^ r.length + x)) (List.range (2 ^ r.length)) = NC r g (h ^^^ mask e) from by
    refine sumL_congr fun a ha => ?_
    have ha := List.mem_range.mp ha
    rw [sumL_app, sumL_map, sumL_zero (fun b hb => ?_), Nat.zero_add]
    · refine sumL_congr fun b hb => ?_
      have hb := List.mem_range.mp hb
      rw [LR_lo ha, LR_hi hb, (or_hi ha hb).2.1]
      simp only [xor_eq, Nat.add_left_cancel_iff]
    · have hb := List.mem_range.mp hb
      have := Nat.or_lt_two_pow ha hb
      rw [if_neg]; rintro ⟨_, _, h3⟩; omega]
  rw [show sumL (fun a => sumL (fun b => if (LR (e :: r)).getD (2 ^ r.length + a) 0 = g ∧ (LR (e :: r)).getD b 0 = h ∧ (2 ^ r.length + a) ||| b = 2 ^ r.length + (2 ^ r.length - 1) then 1 else 0) (List.range (2 ^ r.length) ++ (List.range (2 ^ r.length)).map fun x => 2 ^ r.length + x)) (List.range (2 ^ r.length)) = NC r (g ^^^ mask e) h + NC r (g ^^^ mask e) (h ^^^ mask e) from by
    unfold NC
    rw [← sumL_add]
    refine sumL_congr fun a ha => ?_
    have ha := List.mem_range.mp ha
    rw [sumL_app, sumL_map]
    congr 1
    · refine sumL_congr fun b hb => ?_
      have hb := List.mem_range.mp hb
      rw [LR_hi ha, LR_lo hb, (or_hi ha hb).1]
      simp only [xor_eq, Nat.add_left_cancel_iff]
    · refine sumL_congr fun b hb => ?_
      have hb := List.mem_range.mp hb
      rw [LR_hi ha, LR_hi hb, (or_hi ha hb).2.2]
      simp only [xor_eq, Nat.add_left_cancel_iff]]
  show NC r g (h ^^^ mask e) + (NC r (g ^^^ mask e) h + NC r (g ^^^ mask e) (h ^^^ mask e)) = NC r (g ^^^ mask e) h + NC r g (h ^^^ mask e) + NC r (g ^^^ mask e) (h ^^^ mask e)
  omega
theorem NC_cnt (r : List Pr) : ∀ g h, NC r g h = cnt actB dB r (g, h) := by
  have z : ∀ a : Nat, a ^^^ 0 = a := Nat.xor_zero
  induction r with
  | nil =>
    intro g h
    show (if 0 = g ∧ 0 = h ∧ 0 ||| 0 = 2 ^ 0 - 1 then 1 else 0) + 0 + 0 = (if g = 0 ∧ h = 0 then 1 else 0)
    by_cases h0 : g = 0 ∧ h = 0
    · obtain ⟨rfl, rfl⟩ := h0; rfl
    · have e1 : (if 0 = g ∧ 0 = h ∧ 0 ||| 0 = 2 ^ 0 - 1 then 1 else 0) = 0 := if_neg (fun x => h0 ⟨x.1.symm, x.2.1.symm⟩)
      rw [if_neg h0]
      exact e1
  | cons e r ih =>
    intro g h
    rw [NC_cons, ih, ih, ih]
    show _ = cnt actB dB r (g ^^^ (if 1 % 2 = 1 then mask e else 0), h ^^^ (if 1 / 2 = 1 then mask e else 0)) + cnt actB dB r (g ^^^ (if 2 % 2 = 1 then mask e else 0), h ^^^ (if 2 / 2 = 1 then mask e else 0)) + cnt actB dB r (g ^^^ (if 3 % 2 = 1 then mask e else 0), h ^^^ (if 3 / 2 = 1 then mask e else 0))
    simp [z]
theorem pair_or {a b n : Nat} (ha : a < 64) (hb : b < 64) (hn : n < 64) : okPair orT (n : Int) (a : Int) (b : Int) = decide (a ||| b = n) := by
  have e1 : ∀ c : Nat, ((c : Int) % 8).toNat = c % 2 ^ 3 := fun c => by omega
  have e2 : ∀ c : Nat, ((c : Int) / 8).toNat = c / 2 ^ 3 := fun c => by omega
  unfold okPair orT
  rw [e1, e1, e2, e2, ← Nat.or_mod_two_pow, ← Nat.or_div_two_pow, Bool.eq_iff_iff, Bool.and_eq_true, decide_eq_true_eq, decide_eq_true_eq, decide_eq_true_eq]
  generalize a ||| b = c
  constructor
  · rintro ⟨h1, h2⟩; omega
  · rintro rfl; constructor <;> omega
theorem lights_NC {r : List Pr} (h6 : r.length ≤ 6) : lightsWays orT ((2 ^ r.length - 1 : Nat) : Int) ((EN r).map toI) ((EN r).map toI) = (NC r 0 0 : Nat) := by
  have h64 : 2 ^ r.length ≤ 64 := Nat.le_trans (Nat.pow_le_pow_right (by decide) h6) (show 2 ^ 6 ≤ 64 by decide)
  have hpos : 0 < 2 ^ r.length := Nat.two_pow_pos _
  have hb : ∀ a ∈ EN r, a < 2 ^ r.length := fun a ha => List.mem_range.mp (List.mem_filter.mp ha).1
  unfold lightsWays
  rw [List.map_map, sum_nat _ (fun a => sumL (fun b => if a ||| b = 2 ^ r.length - 1 then 1 else 0) (EN r)) _ (fun a ha => ?_)]
  · congr 1
    rw [EN, sumL_filter, NC]
    refine sumL_congr fun a ha => ?_
    have : ∀ (P : Prop) [Decidable P], (if decide P = true then sumL (fun b => if a ||| b = 2 ^ r.length - 1 then 1 else 0) (List.filter (fun k => decide ((LR r).getD k 0 = 0)) (List.range (2 ^ r.length))) else 0) = sumL (fun b => if P ∧ (LR r).getD b 0 = 0 ∧ a ||| b = 2 ^ r.length - 1 then 1 else 0) (List.range (2 ^ r.length)) := by
      intro P _
      by_cases hP : P
      · rw [if_pos (decide_eq_true hP), sumL_filter]
        refine sumL_congr fun b _ => ?_
        by_cases hb0 : (LR r).getD b 0 = 0
        · rw [if_pos (decide_eq_true hb0)]
          by_cases hx : a ||| b = 2 ^ r.length - 1
          · rw [if_pos hx, if_pos ⟨hP, hb0, hx⟩]
          · rw [if_neg hx, if_neg (fun y => hx y.2.2)]
        · rw [if_neg (fun e => hb0 (of_decide_eq_true e)), if_neg (fun y => hb0 y.2.1)]
      · rw [if_neg (by simpa using hP), sumL_zero]
        intro b _; rw [if_neg (fun x => hP x.1)]
    exact this _
  · show ((((EN r).map toI).filter (okPair orT ((2 ^ r.length - 1 : Nat) : Int) (a : Int))).length : Int) = _
    congr 1
    rw [List.filter_map, List.length_map]
    have ha := hb a ha
    rw [show (EN r).filter ((okPair orT ((2 ^ r.length - 1 : Nat) : Int) (a : Int)) ∘ toI) = (EN r).filter (fun b => decide (a ||| b = 2 ^ r.length - 1)) from List.filter_congr fun b hb' => pair_or (by omega) (by have := hb b hb'; omega) (by omega)]
    clear ha
    induction EN r with
    | nil => rfl
    | cons b l ih =>
      rw [List.filter_cons, sumL]
      by_cases hx : a ||| b = 2 ^ r.length - 1
      · simp only [hx, decide_true, if_true, List.length_cons, ih]; omega
      · simp only [hx, decide_false, Bool.false_eq_true, if_false, ih]; omega
/-! the union -/
def exB (r : List Pr) (t g : Nat) : Prop := ∃ a, a < 2 ^ r.length ∧ (LR r).getD a 0 = g ∧ a.testBit t = true
theorem exA_iff (r : List Pr) : ∀ g, (∃ a, a < 2 ^ r.length ∧ (LR r).getD a 0 = g) ↔ exS r g = true := by
  induction r with
  | nil =>
    intro g
    constructor
    · rintro ⟨a, ha, rfl⟩
      have : a = 0 := by simpa using ha
      subst this; rfl
    · intro h
      exact ⟨0, by decide, by simpa [exS, LR, eq_comm] using h⟩
  | cons e r ih =>
    intro g
    rw [exS, Bool.or_eq_true, ← ih, ← ih]
    constructor
    · rintro ⟨a, ha, h⟩
      by_cases hlt : a < 2 ^ r.length
      · exact .inl ⟨a, hlt, by rw [← h, LR_lo hlt]⟩
      · have hb : a - 2 ^ r.length < 2 ^ r.length := by rw [List.length_cons, Nat.pow_succ] at ha; omega
        refine .inr ⟨a - 2 ^ r.length, hb, ?_⟩
        have e2 := LR_hi (e := e) hb
        rw [show 2 ^ r.length + (a - 2 ^ r.length) = a from by omega, h] at e2
        exact (xor_eq _ _ _).mp e2.symm
    · rintro (⟨a, ha, h⟩ | ⟨a, ha, h⟩)
      · exact ⟨a, by rw [List.length_cons, Nat.pow_succ]; omega, by rw [LR_lo ha, h]⟩
      · exact ⟨2 ^ r.length + a, by rw [List.length_cons, Nat.pow_succ]; omega, by rw [LR_hi ha]; exact (xor_eq _ _ _).mpr h⟩
theorem exB_top (e : Pr) (r : List Pr) (g : Nat) : exB (e :: r) r.length g ↔ exS r (g ^^^ mask e) = true := by
  rw [← exA_iff]
  constructor
  · rintro ⟨a, ha, h, ht⟩
    have hge := Nat.ge_two_pow_of_testBit ht
    have hb : a - 2 ^ r.length < 2 ^ r.length := by rw [List.length_cons, Nat.pow_succ] at ha; omega
    refine ⟨a - 2 ^ r.length, hb, ?_⟩
    have e2 := LR_hi (e := e) hb
    rw [show 2 ^ r.length + (a - 2 ^ r.length) = a from by omega, h] at e2
    exact (xor_eq _ _ _).mp e2.symm
  · rintro ⟨a, ha, h⟩
    refine ⟨2 ^ r.length + a, by rw [List.length_cons, Nat.pow_succ]; omega, by rw [LR_hi ha]; exact (xor_eq _ _ _).mpr h, ?_⟩
    rw [Nat.testBit_two_pow_add_eq, Nat.testBit_lt_two_pow ha]; rfl
theorem exB_low (e : Pr) (r : List Pr) (t g : Nat) (ht : t < r.length) : exB (e :: r) t g ↔ exB r t g ∨ exB r t (g ^^^ mask e) := by
  constructor
  · rintro ⟨a, ha, h, hb⟩
    by_cases hlt : a < 2 ^ r.length
    · exact .inl ⟨a, hlt, by rw [← h, LR_lo hlt], hb⟩
    · have hs : a - 2 ^ r.length < 2 ^ r.length := by rw [List.length_cons, Nat.pow_succ] at ha; omega
      have ea : 2 ^ r.length + (a - 2 ^ r.length) = a := by omega
      refine .inr ⟨a - 2 ^ r.length, hs, ?_, ?_⟩
      · have e2 := LR_hi (e := e) hs
        rw [ea, h] at e2
        exact (xor_eq _ _ _).mp e2.symm
      · rw [← ea, Nat.testBit_two_pow_add_gt ht] at hb; exact hb
  · rintro (⟨a, ha, h, hb⟩ | ⟨a, ha, h, hb⟩)
    · exact ⟨a, by rw [List.length_cons, Nat.pow_succ]; omega, by rw [LR_lo ha, h], hb⟩
    · exact ⟨2 ^ r.length + a, by rw [List.length_cons, Nat.pow_succ]; omega, by rw [LR_hi ha]; exact (xor_eq _ _ _).mpr h, by rw [Nat.testBit_two_pow_add_gt ht]; exact hb⟩
def Parted (r : List Pr) (t : Nat) (e : Pr) : Prop := ∃ q, r.Perm (e :: q) ∧ ∀ g, exB r t g ↔ exS q (g ^^^ mask e) = true
theorem parted_step {e0 : Pr} {r : List Pr} {t : Nat} {e : Pr} (ht : t < r.length) (h : Parted r t e) : Parted (e0 :: r) t e := by
  obtain ⟨q, hp, hq⟩ := h
  refine ⟨e0 :: q, (hp.cons e0).trans (List.Perm.swap e e0 q), fun g => ?_⟩
  rw [exB_low _ _ _ _ ht, hq, hq, exS, Bool.or_eq_true, xrc g (mask e0)]
theorem parted_at (r : List Pr) : (∀ t, t < r.length → ∃ e ∈ r, Parted r t e) ∧ ∀ e ∈ r, ∃ t, t < r.length ∧ Parted r t e := by
  induction r with
  | nil => exact ⟨fun t h => absurd h (Nat.not_lt_zero _), fun e h => nomatch h⟩
  | cons e0 r ih =>
    have top : Parted (e0 :: r) r.length e0 := ⟨r, List.Perm.refl _, fun g => exB_top e0 r g⟩
    constructor
    · intro t ht
      by_cases h : t < r.length
      · obtain ⟨e, he, hp⟩ := ih.1 t h
        exact ⟨e, .tail _ he, parted_step h hp⟩
      · have : t = r.length := by rw [List.length_cons] at ht; omega
        subst this
        exact ⟨e0, .head _, top⟩
    · intro e he
      rcases List.mem_cons.mp he with rfl | he
      · exact ⟨r.length, by simp, top⟩
      · obtain ⟨t, ht, hp⟩ := ih.2 e he
        exact ⟨t, by rw [List.length_cons]; omega, parted_step ht hp⟩
theorem parted_U {r : List Pr} {t : Nat} {e : Pr} (he : e ∈ r) (h : Parted r t e) : exB r t 0 ↔ exS (r.erase e) (mask e) = true := by
  obtain ⟨q, hp, hq⟩ := h
  have hpe : q.Perm (r.erase e) := (hp.symm.trans (List.perm_cons_erase he)).cons_inv
  rw [hq, Nat.zero_xor, exS_perm hpe]
theorem all_bits (r : List Pr) : (∀ t, t < r.length → exB r t 0) ↔ Uall r = true := by
  rw [Uall_iff]
  constructor
  · intro h e he
    obtain ⟨t, ht, hp⟩ := (parted_at r).2 e he
    exact (parted_U he hp).mp (h t ht)
  · intro h t ht
    obtain ⟨e, he, hp⟩ := (parted_at r).1 t ht
    exact (parted_U he hp).mpr (h e he)
theorem fold_or (l : List Nat) : ∀ (u t : Nat), (l.foldl (· ||| ·) u).testBit t = true ↔ u.testBit t = true ∨ ∃ a ∈ l, a.testBit t = true := by
  induction l with
  | nil => intro u t; simp
  | cons a l ih =>
    intro u t
    rw [List.foldl_cons, ih, Nat.testBit_or, Bool.or_eq_true]
    constructor
    · rintro ((h | h) | ⟨b, hb, h⟩)
      · exact .inl h
      · exact .inr ⟨a, .head _, h⟩
      · exact .inr ⟨b, .tail _ hb, h⟩
    · rintro (h | ⟨b, hb, h⟩)
      · exact .inl (.inl h)
      · rcases List.mem_cons.mp hb with rfl | hb
        · exact .inl (.inr h)
        · exact .inr ⟨b, hb, h⟩
theorem union_bits (r : List Pr) : (EN r).foldl (· ||| ·) 0 = 2 ^ r.length - 1 ↔ Uall r = true := by
  have hm : ∀ t, (∃ a ∈ EN r, a.testBit t = true) ↔ exB r t 0 := fun t => by
    constructor
    · rintro ⟨a, ha, ht⟩
      have h := List.mem_filter.mp ha
      exact ⟨a, List.mem_range.mp h.1, of_decide_eq_true h.2, ht⟩
    · rintro ⟨a, ha, h0, ht⟩
      exact ⟨a, List.mem_filter.mpr ⟨List.mem_range.mpr ha, decide_eq_true h0⟩, ht⟩
  have hf : ∀ t, ((EN r).foldl (· ||| ·) 0).testBit t = true ↔ exB r t 0 := fun t => by
    rw [fold_or, hm]; simp
  rw [← all_bits]
  constructor
  · intro h t ht
    rw [← hf, h, Nat.testBit_two_pow_sub_one]; exact decide_eq_true ht
  · intro h
    refine Nat.eq_of_testBit_eq fun t => ?_
    rw [Nat.testBit_two_pow_sub_one, Bool.eq_iff_iff, hf, decide_eq_true_eq]
    constructor
    · rintro ⟨a, ha, _, hb⟩
      have h1 := Nat.ge_two_pow_of_testBit hb
      have h2 : 2 ^ t < 2 ^ r.length := Nat.lt_of_le_of_lt h1 ha
      exact (Nat.pow_lt_pow_iff_right (by decide)).mp h2
    · exact h t
theorem fold_cast (l : List Nat) : ∀ u : Nat, (l.map toI).foldl Builtin.bitOr (u : Int) = ((l.foldl (· ||| ·) u : Nat) : Int) := by
  induction l with
  | nil => intro u; rfl
  | cons a l ih =>
    intro u
    rw [List.map_cons, List.foldl_cons, List.foldl_cons, show Builtin.bitOr (u : Int) (toI a) = ((u ||| a : Nat) : Int) from or_cast u a, ih]
theorem full_cast (ts : List (Int × Int)) : fullOf ts = ((2 ^ (ts.reverse.map norm).length - 1 : Nat) : Int) := by
  have h : 1 ≤ 2 ^ ts.length := Nat.one_le_two_pow
  rw [fullOf, List.length_map, List.length_reverse]
  push_cast [h]
  rfl
theorem rev_six {ts : List (Int × Int)} (h : ∀ p ∈ ts, TieOk p) : ∀ e ∈ ts.reverse.map norm, e ∈ six := fun e he => by
  obtain ⟨p, hp, rfl⟩ := List.mem_map.mp he
  exact (norm_six (h p (List.mem_reverse.mp hp))).1
theorem hues_B {ts : List (Int × Int)} (h : ∀ p ∈ ts, TieOk p) : huesWays ts = (cnt actB dB (ts.reverse.map norm) (0, 0) : Nat) := by
  rw [hues_cnt h, cnt_norm, cnt_perm commA ((List.reverse_perm ts).symm.map norm), A_eq_B _ (rev_six h)]
theorem law_ways {ts : List (Int × Int)} (h6 : ts.length ≤ 6) (ht : ∀ p ∈ ts, TieOk p) : huesWays ts = lightsWays orT (fullOf ts) (evenOf ts) (evenOf ts) := by
  rw [hues_B ht, full_cast, even_EN ht, lights_NC (by rw [List.length_map, List.length_reverse]; exact h6), NC_cnt]
theorem law_union {ts : List (Int × Int)} (ht : ∀ p ∈ ts, TieOk p) : 0 < huesWays ts ↔ (evenOf ts).foldl Builtin.bitOr 0 = fullOf ts := by
  have e := B_iff_U (ts.reverse.map norm) (rev_six ht)
  have f := fold_cast (EN (ts.reverse.map norm)) 0
  rw [hues_B ht, full_cast, even_EN ht]
  rw [show ((0 : Nat) : Int) = 0 from rfl] at f
  rw [f]
  have u := union_bits (ts.reverse.map norm)
  rw [← e, decide_eq_true_eq] at u
  constructor
  · intro h; rw [u.mpr (by omega)]
  · intro h
    have := u.mp (by exact_mod_cast h)
    omega
end Mine
end
section
local macro_rules | `(tactic| walk_at "eval ListComp Tuple cons") => `(tactic| (refine Mine.Stop.out ?_))
local macro_rules | `(tactic| walk_at "compareOp NotEq ref ref") => `(tactic| (refine Mine.Stop.out ?_))
namespace Mine
def keptOf (ns : List Int) : List Int := ns.filter fun x => decide (x / 12 % 5 ≠ 4)
theorem fdm (x : Int) : (x.fdiv 12).fmod 5 = x / 12 % 5 := by rw [Int.fdiv_eq_ediv_of_nonneg x (by decide), Int.fmod_eq_emod_of_nonneg _ (by decide)]
theorem mem_d4 {α : Type} {a b c d : α} {r : List α} : ∀ p ∈ a :: b :: c :: d :: r, p ∈ d :: a :: b :: c :: r := fun _ hp => mem_fwd (l := [a, b, c]) hp
theorem mem_told {α : Type} {a b c : α} {l : List α} (h : a ∈ l) : ∀ p ∈ b :: a :: c :: l, p ∈ l ++ [b, c] := fun p hp => by
  simp only [List.mem_cons, List.mem_append, List.mem_nil_iff, or_false] at hp ⊢
  rcases hp with rfl | rfl | rfl | hp
  · exact .inr (.inl rfl)
  · exact .inl h
  · exact .inr (.inr rfl)
  · exact .inl hp
def netD (x : Int) : PyData := .tuple [.str (Str.ofString "net"), .int x]
theorem net_reads {h : Heap} {nx : List (Addr × Obj)} {vs : List Value} {xs : List Int} (N : ∀ p ∈ nx, h.get? p.1 = some p.2) (H : All2 (fun v x => ∃ b t1 t2, v = Value.ref b ∧ (b, netT x t1 t2) ∈ nx) vs xs) : ∃ as, ReadsAll h vs (xs.map netD) as := by
  induction H with
  | nil => exact ⟨_, .nil⟩
  | cons h1 _ ih =>
    obtain ⟨b, t1, t2, rfl, hm⟩ := h1
    obtain ⟨as, ih⟩ := ih
    exact ⟨_, .cons (reads_tuple_at (N _ hm) rfl rfl (.cons (Reads.str _ _) (.cons (Reads.int _ _) .nil))) ih⟩
theorem net_lay : ∀ xs : List Int, PyData.canLayAll0 (xs.map netD) = true
  | [] => rfl
  | x :: xs => by
    have e : PyData.canLay0 (netD x) = true := by simp only [netD, PyData.canLay0, PyData.canLayAll0, Bool.and_true]; decide +kernel
    simp [PyData.canLayAll0, e, net_lay xs]
theorem net_depth : ∀ xs : List Int, PyData.depthAll (xs.map netD) ≤ 1
  | [] => by simp [PyData.depthAll]
  | x :: xs => by
    have e : PyData.depth (netD x) = 1 := by simp [netD, PyData.depth, PyData.depthAll]
    have := net_depth xs
    simp only [List.map_cons, PyData.depthAll, e]
    exact Nat.max_le.mpr ⟨Nat.le_refl _, this⟩
theorem net_shaped (xs : List Int) : SeqAt.shaped (.list (xs.map netD)) = true := by
  have h1 := net_lay xs
  have h2 := net_depth xs
  have h3 : PyData.depth (.list (xs.map netD)) ≤ 64 := by simp only [PyData.depth]; omega
  show (PyData.canLayAll0 (xs.map netD) && decide (PyData.depth (.list (xs.map netD)) ≤ 64)) = true
  rw [h1, decide_eq_true h3]; rfl
theorem net_eqv (xs : List Int) : PyData.eqv (.list (xs.map netD)) (.list (xs.map netD)) = true := by
  show PyData.eqvAll _ _ = true
  induction xs with
  | nil => rfl
  | cons x xs ih =>
    simp only [List.map_cons, PyData.eqvAll, ih, Bool.and_true]
    simp [netD, PyData.eqv, PyData.eqvAll]
def tieOf (x : Int) : Int × Int := (x % 12 / 3, (x % 12 / 3 + 1 + x % 3) % 4)
theorem fm3 (a : Int) : a.fmod 3 = a % 3 := Int.fmod_eq_emod_of_nonneg a (by decide)
theorem fm12 (a : Int) : a.fmod 12 = a % 12 := Int.fmod_eq_emod_of_nonneg a (by decide)
theorem fd3 (a : Int) : a.fdiv 3 = a / 3 := Int.fdiv_eq_ediv_of_nonneg a (by decide)
theorem tie_one (x : Int) : [x].map tieOf = [((x.fmod 12).fdiv 3, ((x.fmod 12).fdiv 3 + 1 + x.fmod 3).fmod 4)] := by
  simp only [List.map_cons, List.map_nil, tieOf, fm3, fm12, fd3, fm4]
theorem tie_b {ks : List Int} (_h : ∀ x ∈ ks, 0 ≤ x ∧ x < 60000) : ∀ p ∈ ks.map tieOf, 0 ≤ p.1 ∧ p.1 < 4 ∧ 0 ≤ p.2 ∧ p.2 < 4 := fun p hp => by
  obtain ⟨x, _, rfl⟩ := List.mem_map.mp hp
  exact ⟨Int.ediv_nonneg (Int.emod_nonneg x (by decide)) (by decide), Int.ediv_lt_of_lt_mul (by decide) (Int.emod_lt_of_pos x (by decide)), Int.emod_nonneg _ (by decide), Int.emod_lt_of_pos _ (by decide)⟩
theorem tie_ne {ks : List Int} : ∀ p ∈ ks.map tieOf, p.1 ≠ p.2 := fun p hp => by
  obtain ⟨x, _, rfl⟩ := List.mem_map.mp hp
  show x % 12 / 3 ≠ (x % 12 / 3 + 1 + x % 3) % 4
  omega
theorem ties_at {h : Heap} {nx : List (Addr × Obj)} {us : List Value} {ts : List (Int × Int)} (N : ∀ p ∈ nx, h.get? p.1 = some p.2) (H : TupsIn nx us ts) : All2 (PairAt h) us ts :=
  H.mono fun _ _ ⟨a, t1, t2, e, hm⟩ => ⟨a, t1, t2, e, ⟨_, N _ hm, rfl, _, rfl⟩⟩
theorem ints_idx {vs : List Value} {ms : List Int} (h : IntsAre vs ms) : ∃ tk : Nat → Tok, ∀ j, j < ms.length → vs[j]? = some (.int (ms.getD j 0) (tk j)) := by
  have : ∀ j, ∃ t : Tok, j < ms.length → vs[j]? = some (.int (ms.getD j 0) t) := fun j => by
    by_cases hj : j < ms.length
    · have hv : vs[j]? = some (vs[j]'(by rw [h.length]; exact hj)) := List.getElem?_eq_getElem (by rw [h.length]; exact hj)
      obtain ⟨a, ha, t, e⟩ := int_at h hv
      refine ⟨t, fun _ => ?_⟩
      rw [hv, e, List.getD_eq_getElem?_getD, ha]; rfl
    · exact ⟨0, fun h => absurd h hj⟩
  exact ⟨fun j => Classical.choose (this j), fun j => Classical.choose_spec (this j)⟩
theorem quarters_at {ws : List Value} (h : IntsAre ws [0, 1, 2, 3, 0, 1, 2]) : ∃ tq : Nat → Tok, ∀ i, i < 7 → ws[i]? = some (.int ((i : Int) % 4) (tq i)) := by
  obtain ⟨tk, htk⟩ := ints_idx h
  have e : ∀ i, i < 7 → ([0, 1, 2, 3, 0, 1, 2] : List Int).getD i 0 = (i : Int) % 4 := by decide
  exact ⟨tk, fun i hi => by rw [htk i hi, e i hi]⟩
theorem tab_or : ∀ i, i < 8 → ((tabAt 8 0).getD i []).length = 8 ∧ ∀ j, j < 8 → ((tabAt 8 0).getD i []).getD j 0 = orT i j := by decide +kernel
theorem rows_at {h : Heap} {tl : List (Addr × Obj)} {rs : List Addr} (N : ∀ p ∈ tl, h.get? p.1 = some p.2) (hl : rs.length = 8) (T : TabIn rs (tabAt 8 0) tl) : ∃ tk, Rows h 8 8 (fun i => rs.getD i 0) orT tk := by
  have : ∀ i, ∃ tk : Nat → Tok, i < 8 → Idx h (rs.getD i 0) 8 fun j => .int (orT i j) (tk j) := fun i => by
    by_cases hi : i < 8
    · obtain ⟨vs, n, hm, hv⟩ := T i (by omega)
      obtain ⟨tk, htk⟩ := ints_idx hv
      refine ⟨tk, fun _ => ⟨vs, ⟨_, N _ hm, rfl, _, rfl⟩, fun j hj => ?_⟩⟩
      rw [htk j (by rw [(tab_or i hi).1]; exact hj), (tab_or i hi).2 j hj]
    · exact ⟨fun _ => 0, fun h => absurd h hi⟩
  exact ⟨fun i => Classical.choose (this i), fun i hi => Classical.choose_spec (this i) hi⟩
theorem refs_idx {h : Heap} {tl : List (Addr × Obj)} {rs : List Addr} {a : Addr} (N : ∀ p ∈ tl, h.get? p.1 = some p.2) (hl : rs.length = 8) (hm : (a, LCg.lst (rs.map Value.ref)) ∈ tl) : Idx h a 8 fun i => .ref (rs.getD i 0) :=
  ⟨rs.map Value.ref, ⟨_, N _ hm, rfl, _, rfl⟩, fun i hi => by
    show (rs.map Value.ref)[i]? = some (Value.ref (rs.getD i 0))
    rw [List.getElem?_map, List.getD_eq_getElem?_getD, List.getElem?_eq_getElem (by omega)]; rfl⟩
theorem full_b {ts : List (Int × Int)} (h : ts.length ≤ 6) : 0 ≤ fullOf ts ∧ fullOf ts < 64 := by
  have : ∀ n, n ≤ 6 → 0 ≤ (2 : Int) ^ n - 1 ∧ (2 : Int) ^ n - 1 < 64 := by decide
  exact this _ h
theorem even_b {ts : List (Int × Int)} (h : ts.length ≤ 6) : ∀ x ∈ evenTo (leftOf ts) (leftOf ts).length, 0 ≤ x ∧ x < 64 := fun x hx => by
  obtain ⟨k, hk, rfl⟩ := List.mem_map.mp hx
  have h1 := List.mem_range.mp (List.mem_filter.mp hk).1
  have h2 : (leftOf ts).length ≤ 64 := by rw [leftOf_len]; exact Nat.le_trans (Nat.pow_le_pow_right (by decide) h) (show 2 ^ 6 ≤ 64 by decide)
  constructor <;> omega
theorem kept_yes {ns : List Int} {k : Nat} {x : Int} (h : ns[k]? = some x) (hx : (x.fdiv 12).fmod 5 ≠ 4) : keptOf (ns.take (k + 1)) = keptOf (ns.take k) ++ [x] := by
  rw [fdm] at hx
  rw [take_one h, keptOf, keptOf, List.filter_append]; simp [hx]
theorem kept_no {ns : List Int} {k : Nat} {x : Int} (h : ns[k]? = some x) (hx : (x.fdiv 12).fmod 5 = 4) : keptOf (ns.take (k + 1)) = keptOf (ns.take k) := by
  rw [fdm] at hx
  rw [take_one h, keptOf, keptOf, List.filter_append]; simp [hx]
theorem gen_QE {α : Type} {M : Model} {A : Around} {c : Sem α} {Q : α → Shared → Prop} {E : Value → Shared → Prop} {s : Shared} (h : ∀ (Q' : α → Shared → Prop) (E' : Value → Shared → Prop), (∀ f s, Q f s → Q' f s) → wpAny M A c Q' E' s) : wpAny M A c Q E s := h Q E fun _ _ x => x
set_option maxHeartbeats 8000000 in
theorem w1 : PySem.Challenge.rw_tp0008_01.Holds := Mine.hd (by
  w_top off
  w_strict (k_go0; (all_goals try k_fold))
  refine gen_QE ?_
  intro Qg Eg hQg
  w_strict (repeat' (first | (k_unfold; (try dsimp only)) | (walk1; all_goals (try dsimp only)) | (dsimp only; walk1; all_goals (try dsimp only))))
  refine ⟨?_⟩
  rename Heap.IsList _ _ _ => hL
  rename IntsAre _ _ => hI
  rename ¬ ((63 : Nat) : Int) < _ => h63
  rename Fr _ _ _ _ => F1
  rename News _ _ _ _ => N1
  k_dflt (refine Con.use (c_ports _ _ _ _) (by assumption) F1 (by assumption) N1 (by assumption) rfl (by ktr_room) (by ktr_units) ⟨hL.at fun o e => F1.keep _ o e, hI, by omega⟩ ?_)
  intro r tl h8 tk8 F8 N8 ap8 hPatR
  refine Mine.abs_goal fun PP kPP => ?_
  obtain ⟨pa, pvs, pn, rfl, hpm, hpi⟩ := hPatR
  refine kPP ?_
  clear kPP
  obtain ⟨Ps, hpi, hp6, hpb⟩ : ∃ Ps : List Int, IntsAre pvs Ps ∧ Ps.length = 6 ∧ ∀ x ∈ Ps, 0 ≤ x ∧ x < 60000 := ⟨_, hpi, portsOf_len _, portsOf_b _⟩
  have hpl : pvs.length = 6 := hpi.length.trans hp6
  have N9 := news_sub (news' := [(pa, listOf pvs.toArray pn)]) N8 (fun p hp => by rw [List.mem_singleton.mp hp]; exact List.mem_append_left _ hpm)
  clear N8
  dsimp only
  w_strict (repeat' (first | (k_unfold; (try dsimp only)) | (walk1; all_goals (try dsimp only)) | (dsimp only; walk1; all_goals (try dsimp only))))
  refine ⟨?_⟩
  rename Fr _ _ _ _ => FF
  rename News _ _ _ _ => NN
  refine LCt.CompSrcT.ledger (by rfl) FF NN (.head _) (by rw [List.size_toArray, hpl]; decide) ?_
  intro g'
  refine restT (n := pvs.toArray.size) (J := fun j ys nx' => nx' = _ ∧ IntsAre ys (keptOf (Ps.take j))) ?_ ?_ _ 0 [] _ (Nat.zero_add _) ⟨rfl, .nil⟩
  · intro k ys nx v I oI C oC D m₂ h tk E' hk hP hPat0 hC hx F9 N9 off9 ne9
    refine Mine.abs_goal fun PP kPP => ?_
    obtain ⟨rfl, hys⟩ := hPat0
    refine kPP ?_
    clear kPP
    obtain ⟨a, ha, tka, rfl⟩ := int_at hpi (by simpa using hP)
    w_strict (repeat' (first | (k_unfold; (try dsimp only)) | (walk1; all_goals (try dsimp only)) | (dsimp only; walk1; all_goals (try dsimp only))))
    · refine ⟨_, _, _, rfl, F9, N9, off9, .inr ⟨_, .head _, rfl, _, rfl⟩, rfl, ?_⟩
      rw [kept_yes ha (by assumption)]
      exact ints_app hys (.cons _ _ .nil)
    · refine ⟨_, _, _, rfl, F9, N9, off9, .inr ⟨_, .head _, rfl, _, rfl⟩, rfl, ?_⟩
      rw [kept_no ha (by assumption)]
      exact hys
  · intro ys nx hPat0 D h tk F9 N9 off9
    refine Mine.abs_goal fun PP kPP => ?_
    obtain ⟨rfl, hys⟩ := hPat0
    refine kPP ?_
    clear kPP
    clear FF NN
    rw [List.size_toArray, hpl, ← hp6, List.take_length] at hys
    generalize hks : keptOf Ps = ks at hys
    have hkl : ys.length ≤ 6 := by rw [hys.length, ← hks, ← hp6]; exact List.length_filter_le _ _
    have hkb : ∀ x ∈ ks, 0 ≤ x ∧ x < 60000 := fun x hx => hpb x (by rw [← hks] at hx; exact (List.mem_filter.mp hx).1)
    dsimp only
    w_strict (repeat' (first | (k_unfold; (try dsimp only)) | (walk1; all_goals (try dsimp only)) | (dsimp only; walk1; all_goals (try dsimp only))))
    refine ⟨?_⟩
    rename Fr _ _ _ _ => FF
    rename News _ _ _ _ => NN
    k_dflt (refine ConT.use (c_told _ pa pvs pn Ps hpi (by omega) hpb) (by assumption) FF NN (by assumption) (by assumption) (by assumption) (by assumption) rfl (by ktr_room) (by ktr_units) (.tail _ (.head _)) ?_)
    intro r tl2 h10 tk10 F10 N10 hPatR
    refine Mine.abs_goal fun PP kPP => ?_
    obtain ⟨ta, zs, rfl, htm, hzs⟩ := hPatR
    refine kPP ?_
    clear kPP
    clear FF NN
    have N11 := news_sub N10 (mem_told htm)
    clear N10
    k_dflt (refine LCg.ListComp_U (F₀ := F10) (by with_unfolding_all rfl) (by decide) (by rfl) (by decide) (by rfl) ?_)
    w_strict (repeat' (first | (k_unfold; (try dsimp only)) | (walk1; all_goals (try dsimp only)) | (dsimp only; walk1; all_goals (try dsimp only))))
    refine ⟨?_⟩
    rename Fr _ _ _ _ => FF
    rename News _ _ _ _ => NN
    refine LCg.CompSrc.ledger (by rfl) FF NN (.head _) (by rw [List.size_toArray]; exact Nat.le_trans hkl (by decide)) ?_
    intro g''
    refine restU (n := ys.toArray.size) (J := fun j us nx' => (∀ p ∈ _, p ∈ nx') ∧ All2 (fun v x => ∃ b t1 t2, v = Value.ref b ∧ (b, netT x t1 t2) ∈ nx') us (ks.take j)) ?_ ?_ _ 0 [] _ (Nat.zero_add _) ⟨fun _ h => h, .nil⟩
    · intro k us nx v I oI C oC D3 m₂ h tk E' hk hP hPat0 hC hx F9 N9 off9 ne9
      refine Mine.abs_goal fun PP kPP => ?_
      obtain ⟨hsub, hus⟩ := hPat0
      refine kPP ?_
      clear kPP
      obtain ⟨x, hax, tkx, rfl⟩ := int_at hys (by simpa using hP)
      clear FF NN
      w_strict (repeat' (first | (k_unfold; (try dsimp only)) | (walk1; all_goals (try dsimp only)) | (dsimp only; walk1; all_goals (try dsimp only))))
      rename Fr _ _ _ _ => FF
      rename News _ _ _ _ => NN
      rename _ < _ ∧ _ < _ ∧ _ < _ ∧ AllLt _ _ => lr
      refine ⟨_, _, _ :: nx, rfl, FF, news_sub NN mem_d4, ⟨⟨Nat.ne_of_gt lr.1, Nat.ne_of_gt lr.2.1, Nat.ne_of_gt lr.2.2.1⟩, off9⟩, .inr ⟨_, .tail _ (hsub _ (.head _)), rfl, _, rfl⟩, fun p hp => .tail _ (hsub p hp), ?_⟩
      rw [take_one hax]
      exact (hus.mono fun v y ⟨b, t1, t2, e, hm⟩ => ⟨b, t1, t2, e, .tail _ hm⟩).append (.cons ⟨_, _, _, rfl, .head _⟩ .nil)
    · intro us nx hPat0 D3 h tk F9 N9 off9
      refine Mine.abs_goal fun PP kPP => ?_
      obtain ⟨hsub, hus⟩ := hPat0
      refine kPP ?_
      clear kPP
      clear FF NN
      rw [List.size_toArray, hys.length, List.take_length] at hus
      dsimp only
      w_strict (repeat' (first | (k_unfold; (try dsimp only)) | (walk1; all_goals (try dsimp only)) | (dsimp only; walk1; all_goals (try dsimp only))))
      refine ⟨?_⟩
      obtain ⟨as1, hr1⟩ := net_reads (fun p hp => (N9 p (.tail _ hp)).1) (hzs.mono fun v x ⟨b, t1, t2, e, hm⟩ => ⟨b, t1, t2, e, hsub _ (.tail _ (.tail _ (.tail _ hm)))⟩)
      obtain ⟨as2, hr2⟩ := net_reads (fun p hp => (N9 p (.tail _ hp)).1) hus
      rw [show (Ps.filter fun x => decide (x / 12 % 5 ≠ 4)) = ks from hks] at hr1
      k_dflt (refine ne_dataH (reads_list_at (N9 _ (.tail _ (hsub _ (.tail _ (.head _))))).1 rfl rfl hr1) (reads_list_at (N9 _ (.head _)).1 rfl rfl hr2) (net_shaped _) (net_shaped _) (by ke_room) ?_)
      rw [net_eqv]
      have N12 := news_sub (news' := [(D, LCg.lst ys)]) N9 (fun p hp => by rw [List.mem_singleton.mp hp]; exact .tail _ (hsub _ (.head _)))
      clear N9
      clear hr1 hr2 hus hsub hzs
      w_strict (repeat' (first | (k_unfold; (try dsimp only)) | (walk1; all_goals (try dsimp only)) | (dsimp only; walk1; all_goals (try dsimp only))))
      refine ⟨?_⟩
      rename Fr _ _ _ _ => FF
      rename News _ _ _ _ => NN
      refine LCg.CompSrc.ledger (by rfl) FF NN (.head _) (by rw [List.size_toArray]; exact Nat.le_trans hkl (by decide)) ?_
      intro g3
      refine restU (n := ys.toArray.size) (J := fun j us nx' => (∀ p ∈ _, p ∈ nx') ∧ TupsIn nx' us ((ks.take j).map tieOf)) ?_ ?_ _ 0 [] _ (Nat.zero_add _) ⟨fun _ h => h, .nil⟩
      · intro k us nx v I oI C oC D5 m₂ h tk E' hk hP hPat0 hC hx F9 N9 off9 ne9
        refine Mine.abs_goal fun PP kPP => ?_
        obtain ⟨hsub, hus⟩ := hPat0
        refine kPP ?_
        clear kPP
        obtain ⟨x, hax, tkx, rfl⟩ := int_at hys (by simpa using hP)
        clear FF NN
        w_strict (repeat' (first | (k_unfold; (try dsimp only)) | (walk1; all_goals (try dsimp only)) | (dsimp only; walk1; all_goals (try dsimp only))))
        rename Fr _ _ _ _ => FF
        rename News _ _ _ _ => NN
        rename _ < _ ∧ _ < _ ∧ _ < _ ∧ AllLt _ _ => lr
        refine ⟨_, _, _ :: nx, rfl, FF, news_sub NN mem_d4, ⟨⟨Nat.ne_of_gt lr.1, Nat.ne_of_gt lr.2.1, Nat.ne_of_gt lr.2.2.1⟩, off9⟩, .inr ⟨_, .tail _ (hsub _ (.head _)), rfl, _, rfl⟩, fun p hp => .tail _ (hsub p hp), ?_⟩
        rw [take_one hax, List.map_append]
        rw [tie_one]
        exact (hus.mono fun v y ⟨b, t1, t2, e, hm⟩ => ⟨b, t1, t2, e, .tail _ hm⟩).append (.cons ⟨_, _, _, rfl, .head _⟩ .nil)
      · intro us nx hPat0 D5 h tk F9 N9 off9
        refine Mine.abs_goal fun PP kPP => ?_
        obtain ⟨hsub, hus⟩ := hPat0
        refine kPP ?_
        clear kPP
        clear FF NN
        rw [List.size_toArray, hys.length, List.take_length] at hus
        have htb := tie_b hkb
        have hne : ∀ p ∈ ks.map tieOf, (0 ≤ p.1 ∧ p.1 < 4 ∧ 0 ≤ p.2 ∧ p.2 < 4) ∧ p.1 ≠ p.2 := fun p hp => ⟨htb p hp, tie_ne p hp⟩
        have htl : (ks.map tieOf).length ≤ 6 := by rw [List.length_map, ← hys.length]; exact hkl
        generalize hts : ks.map tieOf = ts at hus htb htl hne
        have hul : us.length ≤ 6 := by rw [hus.length]; exact htl
        dsimp only
        w_strict (repeat' (first | (k_unfold; (try dsimp only)) | (walk1; all_goals (try dsimp only)) | (dsimp only; walk1; all_goals (try dsimp only))))
        refine ⟨?_⟩
        rename Fr _ _ _ _ => FF
        rename News _ _ _ _ => NN
        k_dflt (refine Con.use (c_quarters _) (by assumption) FF (by assumption) NN (by assumption) rfl (by ktr_room) (by ktr_units) trivial ?_)
        intro r tl3 h8 tk8 F8 N8 ap8 hPatR
        refine Mine.abs_goal fun PP kPP => ?_
        obtain ⟨qa, qs, qn, rfl, hqm, hqi⟩ := hPatR
        refine kPP ?_
        clear kPP
        clear FF NN
        obtain ⟨tq, htq⟩ := quarters_at hqi
        dsimp only
        w_strict (repeat' (first | (k_unfold; (try dsimp only)) | (walk1; all_goals (try dsimp only)) | (dsimp only; walk1; all_goals (try dsimp only))))
        refine ⟨?_⟩
        k_dflt (refine Con.use (c_hues _ _ _ us ts tq) (by assumption) F8 (by assumption) N8 (by assumption) rfl (by ktr_room) (by ktr_units) ⟨⟨⟨_, (N8 _ (List.mem_append_right _ (.head _))).1, rfl, _, rfl⟩, ties_at (fun p hp => (N8 p (List.mem_append_right _ (.tail _ hp))).1) hus⟩, htl, htb, ⟨qs, ⟨_, (N8 _ (List.mem_append_left _ hqm)).1, rfl, _, rfl⟩, htq⟩⟩ ?_)
        rintro r tl4 h9 tk9 F9 N9 ap9 ⟨wt, rfl⟩
        have N10 := news_sub (news' := (D5, LCg.lst us) :: nx) N9 (fun p hp => List.mem_append_right _ (List.mem_append_right _ hp))
        clear F8 N8 N9 ap8 ap9 hqm
        dsimp only
        w_strict (repeat' (first | (k_unfold; (try dsimp only)) | (walk1; all_goals (try dsimp only)) | (dsimp only; walk1; all_goals (try dsimp only))))
        refine ⟨?_⟩
        rename Fr _ _ _ _ => FF
        rename News _ _ _ _ => NN
        k_dflt (refine Con.use (c_even _ _ us ts) (by assumption) FF (by assumption) NN (by assumption) rfl (by ktr_room) (by ktr_units) ⟨⟨⟨_, (NN _ (.head _)).1, rfl, _, rfl⟩, ties_at (fun p hp => (NN p (.tail _ hp)).1) hus⟩, htl, htb⟩ ?_)
        intro r tl5 h10 tk10 F10 N10 ap10 hPatR
        refine Mine.abs_goal fun PP kPP => ?_
        obtain ⟨ea, es, en, rfl, hem, hei⟩ := hPatR
        refine kPP ?_
        clear kPP
        have N11 := news_sub (news' := (ea, listOf es.toArray en) :: (D5, LCg.lst us) :: nx) N10 (fun p hp => by
          rcases List.mem_cons.mp hp with rfl | hp
          · exact List.mem_append_left _ hem
          · exact List.mem_append_right _ hp)
        clear FF NN N10 ap10
        dsimp only
        w_strict (repeat' (first | (k_unfold; (try dsimp only)) | (walk1; all_goals (try dsimp only)) | (dsimp only; walk1; all_goals (try dsimp only))))
        refine ⟨?_⟩
        rename Fr _ _ _ _ => FF
        rename News _ _ _ _ => NN
        k_dflt (refine Con.use (c_joined _) (by assumption) FF (by assumption) NN (by assumption) rfl (by ktr_room) (by ktr_units) trivial ?_)
        intro r tl6 h11 tk11 F11 N12 ap11 hPatR
        refine Mine.abs_goal fun PP kPP => ?_
        obtain ⟨ja, rs, rfl, hjm, hrl, hTab⟩ := hPatR
        refine kPP ?_
        clear kPP
        clear FF NN
        obtain ⟨tkr, hrows⟩ := rows_at (fun p hp => (N12 p (List.mem_append_left _ hp)).1) hrl hTab
        have hidx := refs_idx (fun p hp => (N12 p (List.mem_append_left _ hp)).1) hrl hjm
        have hful : (2 : Int) ^ (us.length : Int).toNat - 1 = fullOf ts := by rw [Int.toNat_natCast, hus.length]; rfl
        have hfb := full_b htl
        have hle := even_b htl
        have L1 := law_ways htl hne
        have L2 := law_union hne
        rw [show evenTo (leftOf ts) (leftOf ts).length = evenOf ts from rfl] at hei hle
        rw [hful] at F11
        dsimp only
        w_strict (repeat' (first | (k_unfold; (try dsimp only)) | (walk1; all_goals (try dsimp only)) | (dsimp only; walk1; all_goals (try dsimp only))))
        refine ⟨?_⟩
        rw [hful]
        k_dflt (refine Con.use (c_lights _ _ _ es (evenOf ts) _ _ _ orT tkr) (by assumption) F11 (by assumption) N12 (by assumption) rfl (by ktr_room) (by ktr_units) ⟨⟨_, (N12 _ (List.mem_append_right _ (.head _))).1, rfl, _, rfl⟩, hei, hle, hfb.1, hfb.2, hidx, hrows⟩ ?_)
        rintro r tl7 h12 tk12 F12 N13 ap12 ⟨lt, rfl⟩
        have N14 := news_sub (news' := [(ea, listOf es.toArray en)]) N13 (fun p hp => by rw [List.mem_singleton.mp hp]; exact List.mem_append_right _ (List.mem_append_right _ (.head _)))
        clear N12 N13 ap11 ap12 F11 hTab hjm hrows hidx
        rw [← L1]
        dsimp only
        w_strict (repeat' (first | (k_unfold; (try dsimp only)) | (walk1; all_goals (try dsimp only)) | (dsimp only; walk1; all_goals (try dsimp only))))
        · rename huesWays ts ≠ _ => hbad
          exact absurd rfl hbad
        · refine ⟨?_⟩
          k_dflt (refine Con.use (c_union _ _ es (evenOf ts)) (by assumption) F12 (by assumption) N14 (by assumption) rfl (by ktr_room) (by ktr_units) ⟨⟨_, (N14 _ (.head _)).1, rfl, _, rfl⟩, hei⟩ ?_)
          rintro r tl8 h13 tk13 F13 N13 ap13 ⟨ut, rfl⟩
          dsimp only
          w_strict (repeat' (first | (k_unfold; (try dsimp only)) | (walk1; all_goals (try dsimp only)) | (dsimp only; walk1; all_goals (try dsimp only))))
          have L3 : decide (0 < huesWays ts) = (List.foldl Builtin.bitOr 0 (evenOf ts) == fullOf ts) := by
            rw [Bool.eq_iff_iff, decide_eq_true_eq, beq_iff_eq]; exact L2
          rw [L3, beq_self_eq_true]
          refine hQg _ _ ?_
          dsimp only
          refine goodW_bool F13 (by assumption) (raisesW_false ?_) ?_
          · wrow_none_raised
          · first | wrow_post | kc_post)
end Mine
end
end
end
theorem PySem.Challenge.cw_tp0008_01_holds : PySem.Challenge.rw_tp0008_01.Holds :=
  Mine.w1
