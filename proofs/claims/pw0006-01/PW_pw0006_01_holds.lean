import PyProof.Rows.All
import Wide.All
import OpenK.AllK
import Wide.FinOn
import PySem.Challenge.RW_pw0006_01
open PySem PySem.W PyProof.Rows
set_option Elab.async false
set_option linter.unusedVariables false
set_option linter.unusedSimpArgs false
set_option maxRecDepth 100000 in
set_option maxHeartbeats 8000000 in
open_top Mine.hd for PySem.Challenge.rw_pw0006_01

section
open PySem PySem.W PySem.Spec PySem.Calls PyProof.Rows
namespace Mine
def Hold (P : Prop) : Prop := P
theorem Hold.out {P : Prop} (h : Hold P) : P := h

section
variable {prog : Program} {w : World} {A : Around} {E : Value → Shared → Prop} {s : Shared} {env : Env} {h₀ : Heap} {L : Addr} {m : Str → Option Value} {news : List (Addr × Obj)} {body : List Stmt} {Q : Flow → Shared → Prop}
variable {K : Type} [DecidableEq K] {knd : KeyKind prog w K}

theorem news_sub {h : Heap} {news' : List (Addr × Obj)} (N : News h₀ L h news) (hs : ∀ p ∈ news', p ∈ news) : News h₀ L h news' := fun p hp => N p (hs p hp)

theorem led1 {h : Heap} {own : List (Addr × Obj)} {p : Addr × Obj} (N : News h₀ L h (own ++ p :: news)) : News h₀ L h (p :: (own ++ news)) := news_sub N fun q hq => by
  rcases List.mem_cons.mp hq with rfl | hq
  · exact List.mem_append_right _ (.head _)
  · rcases List.mem_append.mp hq with hq | hq
    · exact List.mem_append_left _ hq
    · exact List.mem_append_right _ (.tail _ hq)
theorem led1' {h : Heap} {own : List (Addr × Obj)} {p : Addr × Obj} (N : News h₀ L h (p :: (own ++ news))) : News h₀ L h (own ++ p :: news) := news_sub N fun q hq => by
  rcases List.mem_append.mp hq with hq | hq
  · exact .tail _ (List.mem_append_left _ hq)
  · rcases List.mem_cons.mp hq with rfl | hq
    · exact .head _
    · exact .tail _ (List.mem_append_right _ hq)
/-- an object of the ledger turned; the rest as chosen -/
theorem news_turn {h h' : Heap} {d : Addr} {o o' : Obj} {rest : List (Addr × Obj)} (N : News h₀ L h news) (hm : (d, o) ∈ news) (hr : ∀ p ∈ rest, p ∈ news ∧ p.1 ≠ d)
    (hs : Heap.SameBut d h h') (ho : h'.get? d = some o') : News h₀ L h' ((d, o') :: rest) := by
  intro p hp
  rcases List.mem_cons.mp hp with rfl | hp
  · exact ⟨ho, (N _ hm).2⟩
  · exact ⟨(hs.2 p.1 (hr p hp).2).trans (N p (hr p hp).1).1, (N p (hr p hp).1).2⟩

theorem dset {d : Addr} {o : Obj} {kvs : List (K × Value)} {k : K} {key v : Value} {rest : List (Addr × Obj)} {Q : Unit → Shared → Prop} (F : Fr h₀ L s.heap m) (N : News h₀ L s.heap news) (hm : (d, o) ∈ news) (hd : o.IsDictOf knd kvs)
    (hr : ∀ p ∈ rest, p ∈ news ∧ p.1 ≠ d) (hkey : knd.is k key = true) (hsz : kvs.length ≤ sizeLine)
    (h : ∀ h' o', Fr h₀ L h' m → News h₀ L h' ((d, o') :: rest) → o'.IsDictOf knd (stored kvs k v) → Q () { s with heap := h', toks := s.toks + 1 }) : wpAny (model prog w) A (setItem (.ref d) key v) Q E s := by
  have hm' := N (d, o) hm
  refine wpAny_setItem_pairs (hsz := hsz) hkey (Heap.dictOf_iff.mpr ⟨o, hm'.1, hd⟩) fun h' hmm hs => ?_
  obtain ⟨o', ho', hd'⟩ := Heap.dictOf_iff.mp hmm
  exact h h' o' (F.change hs hm'.2.1 hm'.2.2) (news_turn N hm hr hs ho') hd'

theorem store_cell {a c : Addr} {cn : Str} {cs : Scope} {ccd : Value} {cl : List (Str × Addr)} {x : Str} {v : Value} {v₀ : Option Value} {o : Obj} {rest : List (Addr × Obj)} {Q : Unit → Shared → Prop} (F : Fr h₀ L s.heap m) (N : News h₀ L s.heap news) (hc : cl.lookup x = some c) (hm : (c, o) ∈ news) (hd : o.data = .cell v₀)
    (hr : ∀ p ∈ rest, p ∈ news ∧ p.1 ≠ c)
    (h : ∀ h' o', Fr h₀ L h' m → News h₀ L h' ((c, o') :: rest) → o'.data = .cell (some v) → Q () { s with heap := h' })
    (hk : cs.kind = .function := by rfl) (hx : (envX cn cs L a ccd cl).kindOf x = some .cell := by rfl) : wpAny (model prog w) A (storeName (envX cn cs L a ccd cl) x v) Q E s := by
  have hmem := N (c, o) hm
  refine wpAny_storeName_cell hk hx hc ⟨o, hmem.1, hd⟩ fun h' hv hs => ?_
  obtain ⟨o', ho', hd'⟩ := hv
  exact h h' o' (F.change hs hmem.2.1 hmem.2.2) (news_turn N hm hr hs ho') hd'

theorem fr_store {h h' : Heap} {m' : Str → Option Value} (F : Fr h₀ L h m) (hn : h'.Ns L m') (hs : Heap.SameBut L h h') : Fr h₀ L h' m' := F.set hn hs

theorem for_items {xk xv : Str} {pk pv pt pos apos cpos : Pos} {x1} {o : Expr} {d : Addr} {od : Obj} {kvs : List (K × Value)}
    (J : Nat → (Str → Option Value) → List (Addr × Obj) → Prop)
    (hh : A.handled = none) (F : Fr h₀ env.locals s.heap m) (N : News h₀ env.locals s.heap news) (hm : (d, od) ∈ news) (hD : od.IsDictOf knd kvs) (lo : (d == sysModules) = false)
    (hxk : env.kindOf xk = some .local) (hxv : env.kindOf xv = some .local) (hp : (env.scope.kind == .class || (env.scope.kind == .module && env.locals != env.globals)) = false)
    (hbase : attributeBase o "items" env (eval o env) = eval o env) (hline : (apos.endLine == cpos.line) = true)
    (ho : ∀ Q', Q' (.ref d) s → wpAny (model prog w) A (eval o env) Q' E s)
    (h0 : J 0 m news)
    (step : ∀ i k v key m₁ news₁ h₁ tk₁ own I, kvs[i]? = some (k, v) → knd.is k key = true → J i m₁ news₁ → (∀ p ∈ news₁, p.1 ≠ I) → (∀ p ∈ own, p.1 = I ∨ p.1 = d) →
      Fr h₀ env.locals h₁ (fun y => if y = xv then some v else if y = xk then some key else m₁ y) → News h₀ env.locals h₁ (own ++ news₁) →
      wpAny (model prog w) A (execs body env) (LoopStepV h₀ env.locals [I] own (J (i + 1)) { s with heap := h₁, toks := tk₁ } (fun v s' => Q (.ret v) s') fun s' => Q .next s') E { s with heap := h₁, toks := tk₁ })
    (done : ∀ h' tk m' news', J kvs.length m' news' → Fr h₀ env.locals h' m' → News h₀ env.locals h' news' → Q .next { s with heap := h', toks := tk })
    (hE : PassesOwn (model prog w) A env E)
    (hs : ∀ x, foldedSetIterable (.Call (.Attribute o "items" apos) [] [] cpos) env x = pure x := by intro _; rfl) :
    wpAny (model prog w) A (exec (.For (.Tuple [.Name xk pk, .Name xv pv] x1 pt) (.Call (.Attribute o "items" apos) [] [] cpos) body [] pos) env) Q E s := by
  have hdo : s.heap.DictOf knd d kvs := Heap.dictOf_iff.mpr ⟨od, (N _ hm).1, hD⟩
  obtain ⟨ep, hat⟩ := hdo.dictAt
  refine For_turns F (wpAny_Call_items lo hdo hbase hline ho ?_) hs hE
  have up : ∀ b o, s.heap.get? b = some o → (s.heap.push { cls := .type "dict_items", data := .fields #[.ref d] }).get? b = some o := fun b o e => Heap.get?_push_of_some _ e
  have hsz : (s.heap.push { cls := .type "dict_items", data := .fields #[.ref d] }).objs.size = s.heap.objs.size + 1 := Heap.size_push ..
  refine wpAny_pyIter_items (knd := knd) (d := d) (kvs := kvs) (ep := ep) ⟨_, Heap.get?_push_size _ rfl, rfl, rfl⟩ (hat.push _) ?_
  generalize (s.heap.push { cls := .type "dict_items", data := .fields #[.ref d] }) = H at up hsz ⊢
  have hlt : ∀ b o, s.heap.get? b = some o → b < H.objs.size := fun b o e => Heap.lt_size (up b o e)
  have hIne : ∀ b o, s.heap.get? b = some o → b ≠ H.objs.size := fun b o e => Nat.ne_of_lt (hlt b o e)
  obtain ⟨oL, _, _, hoL, _⟩ := id F.ns
  have up2 : ∀ b o, s.heap.get? b = some o → (H.push { cls := .type "dict_itemiterator", data := .fields #[.none, .bool false, .ref d, .int 0 0, .int kvs.length 0, .int ep 0, .none, .none] }).get? b = some o := fun b o e => Heap.get?_push_of_some _ (up b o e)
  have hnew : h₀.get? H.objs.size = none := by
    cases q : h₀.get? H.objs.size with
    | none => rfl
    | some o' => exact absurd rfl (hIne _ _ (F.keep _ _ q))
  refine ⟨H.objs.size, _, _, _, _, _, _, m, news, J, rfl, kti_itemsTurns (knd := knd) hh H.objs.size d (hIne _ _ (N _ hm).1) kvs ep, ?_, ?_, ?_, ⟨⟨.none, .none, Heap.get?_push_size _ rfl⟩, hat.at fun o e => up2 _ _ e⟩, F.keeps up2, N.grown up2, h0, ?_, ?_⟩
  · intro hI
    rcases (by simpa using hI : env.locals = H.objs.size ∨ env.locals = d) with e | e
    · exact hIne _ _ hoL e
    · exact (N _ hm).2.1 e.symm
  · intro b hb
    rw [List.mem_singleton.mp hb]; exact hnew
  · intro p hp hI
    exact hIne _ _ (N p hp).1 (List.mem_singleton.mp hI)
  · rintro i v m₁ news₁ h₁ tk₁ own hi ⟨T, key, k, x, rfl, hx, hk, hT⟩ hJ hoff hown _ _ _ F₁ N₁
    refine wpAny_assign_Tuple hh hT rfl rfl fun h₃ hx₃ => ?_
    replace hx₃ : Heap.ExtBut h₁.objs.size h₁ h₃ := hx₃
    have old : ∀ b o, h₁.get? b = some o → h₃.get? b = some o := fun b o e => hx₃ b o (Nat.ne_of_lt (Heap.lt_size e)) e
    have F₃ := F₁.keeps old
    have N₃ := N₁.grown old
    show wpAny _ _ (do holding [x] (assign (.Name xk pk) env key); do holding [] (assign (.Name xv pv) env x); pure ()) _ _ _
    refine wpAny_bind (wpAny_holding (wpAny_assign_Name (wpAny_storeName_local hxk F₃.ns (fun h₄ hn₄ hs₄ => ?_) hp)))
    have F₄ := F₃.set hn₄ hs₄
    have N₄ := N₃.set hs₄
    refine wpAny_bind (wpAny_holding (wpAny_assign_Name (wpAny_storeName_local hxv F₄.ns (fun h₅ hn₅ hs₅ => wpAny_pure ?_) hp)))
    exact step i k x key m₁ news₁ h₅ _ own H.objs.size hx hk hJ (fun p hp => by simpa using hoff p hp) (fun p hp => by simpa using hown p hp) (F₄.set hn₅ hs₅) (N₄.set hs₅)
  · intro h' tk m' news' F' N' _ hJ
    exact done h' tk m' news' hJ F' N'

/-- the turns of a loop whose one target is a name, over anything that walks -/
theorem turns_of {x : Str} {px : Pos} {I : Addr} {fp : List Addr} {n : Nat} {P : Nat → Value → Prop} {St : Nat → Heap → Prop} {s₂ : Shared}
    (J : Nat → (Str → Option Value) → List (Addr × Obj) → Prop)
    (W : Walks prog w A I fp [I] n P St) (hIo : ∀ i h, St i h → ∃ o, h.get? I = some o) (hI : h₀.get? I = none) (hLf : env.locals ∉ fp) (F : Fr h₀ env.locals s₂.heap m) (N : News h₀ env.locals s₂.heap news) (hoff : ∀ p ∈ news, p.1 ≠ I) (hst : St 0 s₂.heap)
    (hx : env.kindOf x = some .local) (hp : (env.scope.kind == .class || (env.scope.kind == .module && env.locals != env.globals)) = false)
    (h0 : J 0 m news)
    (step : ∀ i v m₁ news₁ h₁ tk₁ own, i < n → P i v → J i m₁ news₁ → (∀ p ∈ news₁, p.1 ≠ I) → (∀ p ∈ own, p.1 ∈ fp) → (∃ oI, (I, oI) ∈ own) →
      Fr h₀ env.locals h₁ (fun y => if y = x then some v else m₁ y) → News h₀ env.locals h₁ (own ++ news₁) →
      wpAny (model prog w) A (execs body env) (LoopStepV h₀ env.locals [I] own (J (i + 1)) { s₂ with heap := h₁, toks := tk₁ } (fun v s' => Q (.ret v) s') fun s' => Q .next s') E { s₂ with heap := h₁, toks := tk₁ })
    (done : ∀ h' tk m' news', J n m' news' → Fr h₀ env.locals h' m' → News h₀ env.locals h' news' → Q .next { s₂ with heap := h', toks := tk }) :
    TurnsAt prog w A h₀ env (.Name x px) body Q E (.ref I) s₂ := by
  refine ⟨I, fp, [I], n, _, _, St, m, news, J, rfl, KTurns.ofWalks W (fun _ _ _ _ _ _ q => wpAny_pure q), hLf, ?_, ?_, hst, F, N, h0, ?_, ?_⟩
  · intro b hb; rw [List.mem_singleton.mp hb]; exact hI
  · intro p hp q; exact hoff p hp (List.mem_singleton.mp q)
  · intro i v m₁ news₁ h₁ tk₁ own hi hP hJ hoff hown _ hin st F₁ N₁
    refine wpAny_assign_Name (wpAny_storeName_local hx F₁.ns (fun h₄ hn₄ hs₄ => ?_) hp)
    obtain ⟨oI, hoI⟩ := hIo _ _ st
    exact step i v m₁ news₁ h₄ _ own hi hP hJ (fun p hp => by simpa using hoff p hp) hown ⟨oI, hin I (W.sub I (List.mem_singleton.mpr rfl)) hI oI hoI⟩ (F₁.set hn₄ hs₄) (N₁.set hs₄)
  · intro h' tk m' news' F' N' _ hJ
    exact done h' tk m' news' hJ F' N'

theorem iter_str {x : Str} {px : Pos} {y : Str} {ty : Tok}
    (J : Nat → (Str → Option Value) → List (Addr × Obj) → Prop)
    (hh : A.handled = none) (F : Fr h₀ env.locals s.heap m) (N : News h₀ env.locals s.heap news)
    (hx : env.kindOf x = some .local) (hp : (env.scope.kind == .class || (env.scope.kind == .module && env.locals != env.globals)) = false)
    (h0 : J 0 m news)
    (step : ∀ i c u m₁ news₁ h₁ tk₁ own I, y.cps[i]? = some c → J i m₁ news₁ → (∀ p ∈ news₁, p.1 ≠ I) → (∀ p ∈ own, p.1 = I) → (∃ oI, (I, oI) ∈ own) →
      Fr h₀ env.locals h₁ (fun z => if z = x then some (.str ⟨#[c]⟩ u) else m₁ z) → News h₀ env.locals h₁ (own ++ news₁) →
      wpAny (model prog w) A (execs body env) (LoopStepV h₀ env.locals [I] own (J (i + 1)) { s with heap := h₁, toks := tk₁ } (fun v s' => Q (.ret v) s') fun s' => Q .next s') E { s with heap := h₁, toks := tk₁ })
    (done : ∀ h' tk m' news', J y.cps.size m' news' → Fr h₀ env.locals h' m' → News h₀ env.locals h' news' → Q .next { s with heap := h', toks := tk }) :
    wpAny (model prog w) A (pyIter (.str y ty)) (fun it s₂ => TurnsAt prog w A h₀ env (.Name x px) body Q E it s₂) E s := by
  have key : ∀ (nme : String) (W : Walks prog w A s.heap.objs.size [s.heap.objs.size] [s.heap.objs.size] y.cps.size (SignAt y) (fun i h => h.IsStrIter s.heap.objs.size nme y ty i)),
      TurnsAt prog w A h₀ env (.Name x px) body Q E (.ref s.heap.objs.size) { s with heap := s.heap.push { cls := .type nme, data := .fields #[.str y ty, .int 0 0] } } := by
    intro nme W
    have up : ∀ (o : Obj) b o', s.heap.get? b = some o' → (s.heap.push o).get? b = some o' := fun o b o' e => Heap.get?_push_of_some _ e
    refine turns_of (s₂ := { s with heap := s.heap.push _ }) J W (fun i h st => by obtain ⟨o, e, _⟩ := st; exact ⟨o, e⟩) (next_is_new F) ?_ (F.keeps (up _)) (N.grown (up _)) (fun p hp => Nat.ne_of_lt (Heap.lt_size (N p hp).1)) ⟨_, Heap.get?_push_size _ rfl, rfl, rfl⟩ hx hp h0 ?_ done
    · intro q; rw [List.mem_singleton] at q; exact absurd F.ns.lt (q ▸ Nat.lt_irrefl _)
    · rintro i v m₁ news₁ h₁ tk₁ own hi ⟨c, u, hc, rfl⟩ hJ hoff hown hin F₁ N₁
      exact step i c u m₁ news₁ h₁ tk₁ own _ hc hJ hoff (fun p hp => List.mem_singleton.mp (hown p hp)) hin F₁ N₁
  cases ha : y.cps.all (· < 128)
  · exact wpAny_pyIter_wide ha (key _ (Walks.strWide hh _ y ty))
  · exact wpAny_pyIter_ascii ha (key _ (Walks.strAscii hh _ y ty))

theorem iter_range {x : Str} {px : Pos} {r : Addr} {a b : Int} {t1 t2 t3 : Tok} {n : Nat}
    (J : Nat → (Str → Option Value) → List (Addr × Obj) → Prop)
    (hh : A.handled = none) (F : Fr h₀ env.locals s.heap m) (N : News h₀ env.locals s.heap news)
    (hr : IsRange s.heap r a b 1 t1 t2 t3) (hsm : Builtin.Range.small a b 1 = true) (hn : Builtin.Range.rangeSize a b 1 = ((n : Nat) : Int))
    (hx : env.kindOf x = some .local) (hp : (env.scope.kind == .class || (env.scope.kind == .module && env.locals != env.globals)) = false)
    (h0 : J 0 m news)
    (step : ∀ i u m₁ news₁ h₁ tk₁ own I, i < n → J i m₁ news₁ → (∀ p ∈ news₁, p.1 ≠ I) → (∀ p ∈ own, p.1 = I) → (∃ oI, (I, oI) ∈ own) →
      Fr h₀ env.locals h₁ (fun z => if z = x then some (.int (a + (i : Int)) u) else m₁ z) → News h₀ env.locals h₁ (own ++ news₁) →
      wpAny (model prog w) A (execs body env) (LoopStepV h₀ env.locals [I] own (J (i + 1)) { s with heap := h₁, toks := tk₁ } (fun v s' => Q (.ret v) s') fun s' => Q .next s') E { s with heap := h₁, toks := tk₁ })
    (done : ∀ h' tk m' news', J n m' news' → Fr h₀ env.locals h' m' → News h₀ env.locals h' news' → Q .next { s with heap := h', toks := tk }) :
    wpAny (model prog w) A (pyIter (.ref r)) (fun it s₂ => TurnsAt prog w A h₀ env (.Name x px) body Q E it s₂) E s := by
  refine wpAny_pyIter_range hr hsm ?_
  have up : ∀ (o : Obj) b o', s.heap.get? b = some o' → (s.heap.push o).get? b = some o' := fun o b o' e => Heap.get?_push_of_some _ e
  refine turns_of (s₂ := { s with heap := s.heap.push _ }) J (LCg.range_walks hh a n) (fun i h st => ⟨_, st⟩) (next_is_new F) ?_ (F.keeps (up _)) (N.grown (up _)) (fun p hp => Nat.ne_of_lt (Heap.lt_size (N p hp).1)) ?_ hx hp h0 ?_ done
  · intro q; rw [List.mem_singleton] at q; exact absurd F.ns.lt (q ▸ Nat.lt_irrefl _)
  · show IsRangeIter _ _ _ _ _; rw [hn]; simpa using Heap.get?_push_size _ rfl
  · rintro i v m₁ news₁ h₁ tk₁ own hi ⟨u, rfl⟩ hJ hoff hown hin F₁ N₁
    exact step i u m₁ news₁ h₁ tk₁ own _ hi hJ hoff (fun p hp => List.mem_singleton.mp (hown p hp)) hin F₁ N₁

theorem iter_values {x : Str} {px : Pos} {vw d : Addr} {od : Obj} {kvs : List (K × Value)}
    (J : Nat → (Str → Option Value) → List (Addr × Obj) → Prop)
    (hh : A.handled = none) (F : Fr h₀ env.locals s.heap m) (N : News h₀ env.locals s.heap news) (hvw : s.heap.IsValuesView vw d) (hm : (d, od) ∈ news) (hD : od.IsDictOf knd kvs)
    (hx : env.kindOf x = some .local) (hp : (env.scope.kind == .class || (env.scope.kind == .module && env.locals != env.globals)) = false)
    (h0 : J 0 m news)
    (step : ∀ i k v m₁ news₁ h₁ tk₁ own I, kvs[i]? = some (k, v) → J i m₁ news₁ → (∀ p ∈ news₁, p.1 ≠ I) → (∀ p ∈ own, p.1 = I ∨ p.1 = d) → (∃ oI, (I, oI) ∈ own) →
      Fr h₀ env.locals h₁ (fun z => if z = x then some v else m₁ z) → News h₀ env.locals h₁ (own ++ news₁) →
      wpAny (model prog w) A (execs body env) (LoopStepV h₀ env.locals [I] own (J (i + 1)) { s with heap := h₁, toks := tk₁ } (fun v s' => Q (.ret v) s') fun s' => Q .next s') E { s with heap := h₁, toks := tk₁ })
    (done : ∀ h' tk m' news', J kvs.length m' news' → Fr h₀ env.locals h' m' → News h₀ env.locals h' news' → Q .next { s with heap := h', toks := tk }) :
    wpAny (model prog w) A (pyIter (.ref vw)) (fun it s₂ => TurnsAt prog w A h₀ env (.Name x px) body Q E it s₂) E s := by
  have hdo : s.heap.DictOf knd d kvs := Heap.dictOf_iff.mpr ⟨od, (N _ hm).1, hD⟩
  obtain ⟨ep, hat⟩ := hdo.dictAt
  have hne : d ≠ s.heap.objs.size := Nat.ne_of_lt hat.lt_size
  refine wpAny_pyIter_values hvw hat ?_
  have up : ∀ (o : Obj) b o', s.heap.get? b = some o' → (s.heap.push o).get? b = some o' := fun o b o' e => Heap.get?_push_of_some _ e
  refine turns_of (s₂ := { s with heap := s.heap.push _ }) J (Walks.dictValues (knd := knd) hh s.heap.objs.size d hne kvs ep) (fun i h st => by obtain ⟨o, e, _⟩ := st.1; exact ⟨o, e⟩) (next_is_new F) ?_ (F.keeps (up _)) (N.grown (up _)) (fun p hp => Nat.ne_of_lt (Heap.lt_size (N p hp).1)) ⟨⟨_, Heap.get?_push_size _ rfl, rfl, rfl⟩, hat.push _⟩ hx hp h0 ?_ done
  · intro q
    rcases (by simpa using q : env.locals = s.heap.objs.size ∨ env.locals = d) with e | e
    · exact absurd F.ns.lt (e ▸ Nat.lt_irrefl _)
    · exact (N _ hm).2.1 e.symm
  · rintro i v m₁ news₁ h₁ tk₁ own hi hP hJ hoff hown hin F₁ N₁
    obtain ⟨k, hx⟩ := hP
    exact step i k v m₁ news₁ h₁ tk₁ own _ hx hJ hoff (fun p hp => by simpa using hown p hp) hin F₁ N₁

theorem Call_values {o : Expr} {apos pos : Pos} {d : Addr} {kvs : List (K × Value)} {Q : Value → Shared → Prop} (hdS : (d == sysModules) = false) (hm : s.heap.DictOf knd d kvs)
    (hbase : attributeBase o "values" env (eval o env) = eval o env) (hline : (apos.endLine == pos.line) = true)
    (ho : ∀ Q', Q' (.ref d) s → wpAny (model prog w) A (eval o env) Q' E s)
    (hQ : Q (.ref s.heap.objs.size) { s with heap := s.heap.push { cls := .type "dict_values", data := .fields #[.ref d] } }) :
    wpAny (model prog w) A (eval (.Call (.Attribute o "values" apos) [] [] pos) env) Q E s := by
  refine wpAny_Call_method (T := "dict") (id := "dict.values") hbase rfl hline PySem.F.plainAttrs_dict PySem.F.slot_dict_values PySem.F.type_dict_values (ho _ ⟨hm.typeIs, hm.mapOf.noDict, ?_⟩)
  show wpAny _ _ (callWith pos (.builtin "dict.values") [.ref d] [] []) Q E s
  exact method_meetsIn PySem.F.slot_dict_values PySem.F.entry_dict_values rfl (PySem.evalArgs_none ⟨rfl, hm.typeIs, PySem.F.args_dict_values_1 _, _, meets_dict_values knd d hdS, ⟨kvs, hm⟩, hQ⟩)

/-- a turn's end: the frame and the ledger as they were, and P -/
def CBack (h₀ : Heap) (L : Addr) (m : Str → Option Value) (s : Shared) (led : List (Addr × Obj)) (P : Prop) (s' : Shared) : Prop :=
  ∃ h' tk', s' = { s with heap := h', toks := tk' } ∧ Fr h₀ L h' m ∧ News h₀ L h' led ∧ P
theorem CBack.intro {led : List (Addr × Obj)} {P : Prop} {h' : Heap} {tk' : Nat} (F : Fr h₀ L h' m) (N : News h₀ L h' led) (p : P) : CBack h₀ L m s led P { s with heap := h', toks := tk' } := ⟨h', tk', rfl, F, N, p⟩

open LCg LCt in
/-- a comprehension with one test, by what holds of its list behind each turn; the ledger stays -/
theorem restT_inv {ct elt : Expr} {x : Str} {scope : Scope} {cl : List (Str × Addr)} {S : List (Addr × Obj) → Prop} {P : Nat → Value → Prop} {Fin : List Value → List (Addr × Obj) → Prop} {n : Nat} (J : Nat → List Value → Prop) (hS : S news)
    (turn : ∀ i ys v I oI C oC D m₂ h tk (E' : Value → Shared → Prop), i < n → J i ys → P i v → NsObj oC m₂ → m₂ x = some v → Fr h₀ L h m → News h₀ L h ((I, oI) :: (C, oC) :: (D, lst ys) :: news) → Off3 I C D news → ((@Ne Nat I C) ∧ (@Ne Nat I D) ∧ (@Ne Nat C D)) →
      wpAny (model prog w) A (isTrue ct (compEnvC scope cl C env) (eval ct (compEnvC scope cl C env))) (fun ok s' => if ok = true then
        wpAny (model prog w) A (eval elt (compEnvC scope cl C env)) (fun y s'' => CBack h₀ L m s ((I, oI) :: (C, oC) :: (D, lst ys) :: news) (J (i + 1) (ys ++ [y])) s'') E' s'
        else CBack h₀ L m s ((I, oI) :: (C, oC) :: (D, lst ys) :: news) (J (i + 1) ys) s') E' { s with heap := h, toks := tk })
    (fin : ∀ ys, J n ys → Fin ys news) :
    ∀ k i ys, i + k = n → J i ys → CompRestT prog w A h₀ L m env ct elt x scope cl s S P Fin k i ys news := by
  intro k
  induction k with
  | zero => intro i ys e hJ; have : i = n := by omega
            subst this; exact fin ys hJ
  | succ k ih =>
    intro i ys e hJ v I oI C oC D m₂ h tk E' hv hC hx F N off ne
    refine wpAny_mono (turn i ys v I oI C oC D m₂ h tk E' (by omega) hJ hv hC hx F N off ne) (fun ok s' h' => ?_) fun _ _ q => q
    cases ok with
    | true =>
      simp only [if_true] at h' ⊢
      refine wpAny_mono h' (fun y s'' h'' => ?_) fun _ _ q => q
      obtain ⟨g, tk', rfl, F', N', hJ'⟩ := h''
      exact ⟨g, tk', news, rfl, F', N', off, hS, ih (i + 1) _ (by omega) hJ'⟩
    | false =>
      simp only [Bool.false_eq_true, if_false] at h' ⊢
      obtain ⟨g, tk', rfl, F', N', hJ'⟩ := h'
      exact ⟨g, tk', news, rfl, F', N', off, hS, ih (i + 1) _ (by omega) hJ'⟩

open LCg in
theorem restU_inv {elt : Expr} {x : Str} {scope : Scope} {cl : List (Str × Addr)} {S : List (Addr × Obj) → Prop} {P : Nat → Value → Prop} {Fin : List Value → List (Addr × Obj) → Prop} {n : Nat} (J : Nat → List Value → Prop) (hS : S news)
    (turn : ∀ i ys v I oI C oC D m₂ h tk (E' : Value → Shared → Prop), i < n → J i ys → P i v → NsObj oC m₂ → m₂ x = some v → Fr h₀ L h m → News h₀ L h ((I, oI) :: (C, oC) :: (D, lst ys) :: news) → Off3 I C D news → ((@Ne Nat I C) ∧ (@Ne Nat I D) ∧ (@Ne Nat C D)) →
      wpAny (model prog w) A (eval elt (compEnvC scope cl C env)) (fun y s'' => CBack h₀ L m s ((I, oI) :: (C, oC) :: (D, lst ys) :: news) (J (i + 1) (ys ++ [y])) s'') E' { s with heap := h, toks := tk })
    (fin : ∀ ys, J n ys → Fin ys news) :
    ∀ k i ys, i + k = n → J i ys → CompRest prog w A h₀ L m env elt x scope cl s S P Fin k i ys news := by
  intro k
  induction k with
  | zero => intro i ys e hJ; have : i = n := by omega
            subst this; exact fin ys hJ
  | succ k ih =>
    intro i ys e hJ v I oI C oC D m₂ h tk E' hv hC hx F N off ne
    refine wpAny_mono (turn i ys v I oI C oC D m₂ h tk E' (by omega) hJ hv hC hx F N off ne) (fun y s'' h'' => ?_) fun _ _ q => q
    obtain ⟨g, tk', rfl, F', N', hJ'⟩ := h''
    exact ⟨g, tk', news, rfl, F', N', off, hS, ih (i + 1) _ (by omega) hJ'⟩
end
abbrev prg : Program := PySem.Challenge.rw_pw0006_01.row.prog
abbrev sk (w : World) : KeyKind PySem.Challenge.rw_pw0006_01.row.prog w Str := strKind PySem.Challenge.rw_pw0006_01.row.prog w

/-- a call of the top's def at f, from any frame of a def: what it hands back, and what it leaves on the ledger -/
abbrev Ctc (w : World) (s₀ : Shared) (mg mb : Str → Option Value) (k : Nat) (f : Addr) (vs : List Value) (news : List (Addr × Obj)) (Ret : Value → List (Addr × Obj) → Prop) : Prop :=
  ∀ (dp un : Nat) (gd : Option (List Code)) (cn : Str) (cs : Scope) (a : Addr) (ccd : Value) (cl : List (Str × Addr)) (outer : List Env) (A₀ : Around) (base h₀ : Heap) (L : Addr) (m : Str → Option Value) (s : Shared) (Q E : Value → Shared → Prop),
    Below A₀ base outer h₀ → Fr h₀ L s.heap m → (hd.heap_39 w.params).In h₀ → News h₀ L s.heap news → Top hd.view_39 (looseW hd.view_39 []) (ExcName.means s₀.heap) mg mb h₀ → cs.kind = .function →
    dp + k < recursionLimit → un + 10 * k < cLine →
    (∀ v tl h' tk', Ret v tl → (∀ p ∈ news, ∀ q ∈ tl, p.1 < q.1) → Fr h₀ L h' m → News h₀ L h' (tl ++ news) → Q v { s with heap := h', toks := tk' }) →
    wpAny (model PySem.Challenge.rw_pw0006_01.row.prog w) (ktrTop dp un gd cn cs L a ccd cl outer) (call (.ref f) vs) Q E s

theorem frKnow {h₀ h : Heap} {L : Addr} {m : Str → Option Value} {a : Str} {v : Value} (F : Fr h₀ L h m) (e : m a = some v) : Fr h₀ L h (fun y => if y = a then some v else m y) := by
  have : (fun y => if y = a then some v else m y) = m := by
    funext y
    by_cases hy : y = a
    · subst hy; simp [e]
    · simp [hy]
  rw [this]; exact F

theorem frArgs1 {h₀ h : Heap} {L : Addr} {m : Str → Option Value} (a : Str) {u : Value} (F : Fr h₀ L h m) (e1 : m a = some u) : ∃ mm : Str → Option Value, Fr h₀ L h (fun y => if y = a then some u else mm y) := ⟨m, frKnow F e1⟩
theorem frArgs2 {h₀ h : Heap} {L : Addr} {m : Str → Option Value} (a b : Str) {u v : Value} (F : Fr h₀ L h m) (e1 : m a = some u) (e2 : m b = some v) (hab : a ≠ b) :
    ∃ mm : Str → Option Value, Fr h₀ L h (fun y => if y = a then some u else if y = b then some v else mm y) :=
  ⟨m, frKnow (frKnow F e2) (by simp [hab, e1])⟩
theorem frArgs3 {h₀ h : Heap} {L : Addr} {m : Str → Option Value} (a b c : Str) {u v x : Value} (F : Fr h₀ L h m) (e1 : m a = some u) (e2 : m b = some v) (e3 : m c = some x) (hab : a ≠ b) (hac : a ≠ c) (hbc : b ≠ c) :
    ∃ mm : Str → Option Value, Fr h₀ L h (fun y => if y = a then some u else if y = b then some v else if y = c then some x else mm y) :=
  ⟨m, frKnow (frKnow (frKnow F e3) (by simp [hbc, e2])) (by simp [hab, hac, e1])⟩

theorem stored_take {kvs : List (Str × Value)} (hn : (kvs.map (·.1)).Nodup) {i : Nat} {k : Str} {v : Value} (hx : kvs[i]? = some (k, v)) : stored (kvs.take i) k v = kvs.take (i + 1) := by
  have hlt := (List.getElem?_eq_some_iff.mp hx).1
  have hnot : ¬ ((kvs.take i).any fun kv => decide (kv.1 = k)) = true := by
    rw [List.any_eq_true]
    rintro ⟨kv, hkv, he⟩
    have he := of_decide_eq_true he
    obtain ⟨j, hj, e⟩ := List.mem_iff_getElem.mp hkv
    rw [List.length_take] at hj
    have hji : j < i := by omega
    rw [List.getElem_take] at e
    have hjl : j < kvs.length := by omega
    have h1 : (kvs.map (·.1))[j]'(by simpa using hjl) = k := by simp [e, he]
    have h2 : (kvs.map (·.1))[i]'(by simpa using hlt) = k := by
      have := (List.getElem?_eq_some_iff.mp hx).2
      simp [this]
    have := (List.getElem_inj hn).mp (h1.trans h2.symm)
    omega
  rw [stored, if_neg hnot, List.take_add_one, hx]; rfl

theorem mem_of_valueAt {kvs : List (Str × Value)} {k : Str} {v : Value} (h : valueAt kvs k = some v) : (k, v) ∈ kvs := by
  unfold valueAt at h
  obtain ⟨kv, hf, rfl⟩ := Option.map_eq_some_iff.mp h
  have h1 := List.find?_some hf
  have h2 := List.mem_of_find?_eq_some hf
  have : kv.1 = k := of_decide_eq_true h1
  subst this; exact h2
theorem nodup_of_dict {w : World} {o : Obj} {kvs : List (Str × Value)} (h : o.IsDictOf (sk w) kvs) : (kvs.map (·.1)).Nodup := by
  obtain ⟨es, ep, _, _, _, _, hn⟩ := h
  exact hn

end Mine
end

section
open PySem PySem.W PySem.Spec PySem.Calls PyProof.Rows
namespace Mine
theorem quiet_C1 : True := by w_top off; trivial
local macro_rules | `(tactic| walk_at $s:str) => if ["exec For Tuple Call cons nil", "setItem ref str", "setItem ref str int"].contains s.getString then `(tactic| refine Hold.out ?_) else Lean.Macro.throwUnsupported
set_option maxRecDepth 100000 in
set_option maxHeartbeats 8000000 in
theorem callers_c (w : World) (s₀ : Shared) (mg mb : Str → Option Value) (tgt src : Addr) (ot os : Obj) (kvs : List (Str × Value)) (name : Str) (tn : Tok) (news : List (Addr × Obj))
  (htgt : (tgt, ot) ∈ news) (hsrc : (src, os) ∈ news) (hot : ot.IsDictOf (sk w) kvs) (hos : os.IsDictOf (sk w) [(name, .int 1 tn)]) (hsm : kvs.length ≤ 100) (hlt : (tgt == sysModules) = false) (hls : (src == sysModules) = false)
  (hval : ∀ kv ∈ kvs, ∃ n t, kv.2 = .int n t) :
  Ctc w s₀ mg mb 3 49 [.ref tgt, .ref src] news fun v tl => ∃ D o t, v = .ref D ∧ tl = [(D, o)] ∧ (D == sysModules) = false ∧ o.IsDictOf (sk w) (stored kvs name (.int ((match valueAt kvs name with | some (.int n _) => n | _ => 0) + 1) t)) := by
  intro dp un gd cn cs a ccd cl outer A₀ base h₀ L m s Q E B F X N T hk hdp hu ret
  revert X; k_fill; intro X
  refine wpAny_call ?_
  k_dflt cell_enter
  k_steps
  rename_i D hA oD l1 lo' hs' fs' hi' fi' hB FB NB
  unfold Hold
  refine for_items (knd := sk w) (fun i m₁ nw => m₁ (Str.ofString "new_callers") = some (.ref D) ∧ m₁ (Str.ofString "source") = some (.ref src) ∧ ∃ o, nw = (D, o) :: news ∧ o.IsDictOf (sk w) (kvs.take i))
    rfl FB NB (.tail _ htgt) hot hlt rfl rfl rfl rfl rfl (fun Q' hq => ?_) ⟨rfl, rfl, oD, rfl, hs'⟩ ?_ ?_ (by passes_own)
  · k_steps
    exact hq
  · rintro i k v key m₁ news₁ h₁ tk₁ own I hkv hkey ⟨e1, e2, o, rfl, ho⟩ hoff hown F₁ N₁
    obtain ⟨t', rfl⟩ := Value.isStrOf_shape hkey
    obtain ⟨n', t2, hv'⟩ := hval _ (List.mem_of_getElem? hkv)
    subst hv'
    have F₂ := frKnow (a := Str.ofString "new_callers") F₁ e1
    clear F₁
    have hDt : D ≠ tgt := Nat.ne_of_gt (l1 _ htgt)
    k_steps
    unfold Hold
    refine dset (knd := sk w) (rest := own ++ news) F₂ N₁ (List.mem_append_right _ (.head _)) ho ?_ hkey (by rw [sizeLine_eq, List.length_take]; omega) ?_
    · intro p hp
      rcases List.mem_append.mp hp with hp | hp
      · refine ⟨List.mem_append_left _ hp, ?_⟩
        rcases hown p hp with e | e
        · rw [e]; exact fun q => hoff (D, o) (.head _) q.symm
        · rw [e]; exact hDt.symm
      · exact ⟨List.mem_append_right _ (.tail _ hp), Nat.ne_of_lt (l1 p hp)⟩
    · intro h' o' F' N' ho'
      rw [stored_take (nodup_of_dict hot) hkv] at ho'
      k_steps
      refine LoopStepU.intro (news₂ := (D, o') :: news) F' (news_sub N' ?_) ?_ ⟨rfl, e2, o', rfl, ho'⟩
      · intro p hp
        rcases List.mem_append.mp hp with hp | hp
        · exact .tail _ (List.mem_append_left _ hp)
        · rcases List.mem_cons.mp hp with rfl | hp
          · exact .head _
          · exact .tail _ (List.mem_append_right _ hp)
      · intro p hp q
        rw [List.mem_singleton] at q
        rcases List.mem_cons.mp hp with rfl | hp
        · exact hoff (D, o) (.head _) q
        · exact hoff p (.tail _ hp) q
  · rintro h2 tk2 m2 news2 ⟨e1, e2, o, rfl, ho⟩ F2 N2
    rw [List.take_length] at ho
    have F3 := frKnow (a := Str.ofString "new_callers") (frKnow (a := Str.ofString "source") F2 e2) e1
    clear F2 FB
    k_steps
    unfold Hold
    refine for_items (knd := sk w) (kvs := [(name, .int 1 tn)]) (fun i m₁ nw => m₁ (Str.ofString "new_callers") = some (.ref D) ∧ ∃ o, nw = (D, o) :: news ∧ ((i = 0 ∧ o.IsDictOf (sk w) kvs) ∨ (i = 1 ∧ ∃ t, o.IsDictOf (sk w) (stored kvs name (.int ((match valueAt kvs name with | some (.int n _) => n | _ => 0) + 1) t)))))
      rfl F3 N2 (.tail _ hsrc) hos hls rfl rfl rfl rfl rfl (fun Q' hq => ?_) ⟨rfl, o, rfl, .inl ⟨rfl, ho⟩⟩ ?_ ?_ (by passes_own)
    · k_steps
      exact hq
    · rintro i k v key m₁ news₁ h₁ tk₁ own I hkv hkey ⟨e1, o, rfl, ho⟩ hoff hown F₁ N₁
      obtain ⟨t', rfl⟩ := Value.isStrOf_shape hkey
      have hi : i = 0 := by
        have := (List.getElem?_eq_some_iff.mp hkv).1
        simp at this; exact this
      subst hi
      obtain ⟨rfl, rfl⟩ : name = k ∧ Value.int 1 tn = v := by simpa using hkv
      have ho : o.IsDictOf (sk w) kvs := by
        rcases ho with ⟨_, h⟩ | ⟨h, _⟩
        · exact h
        · cases h
      have F₂ := frKnow (a := Str.ofString "new_callers") F₁ e1
      clear F₁ F3
      have hDt : D ≠ src := Nat.ne_of_gt (l1 _ hsrc)
      have hrest : ∀ p ∈ own ++ news, p ∈ own ++ (D, o) :: news ∧ p.1 ≠ D := by
        intro p hp
        rcases List.mem_append.mp hp with hp | hp
        · refine ⟨List.mem_append_left _ hp, ?_⟩
          rcases hown p hp with e | e
          · rw [e]; exact fun q => hoff (D, o) (.head _) q.symm
          · rw [e]; exact hDt.symm
        · exact ⟨List.mem_append_right _ (.tail _ hp), Nat.ne_of_lt (l1 p hp)⟩
      have hback : ∀ o' : Obj, ∀ p ∈ own ++ (D, o') :: news, p ∈ (D, o') :: (own ++ news) := by
        intro o' p hp
        rcases List.mem_append.mp hp with hp | hp
        · exact .tail _ (List.mem_append_left _ hp)
        · rcases List.mem_cons.mp hp with rfl | hp
          · exact .head _
          · exact .tail _ (List.mem_append_right _ hp)
      have hoff' : ∀ o' : Obj, ∀ p ∈ (D, o') :: news, p.1 ∉ [I] := by
        intro o' p hp q
        rw [List.mem_singleton] at q
        rcases List.mem_cons.mp hp with rfl | hp
        · exact hoff (D, o) (.head _) q
        · exact hoff p (.tail _ hp) q
      k_steps
      cases hv : valueAt kvs name with
      | none =>
        refine kda_in (knd := sk w) N₁ (List.mem_append_right _ (.head _)) ho lo' hkey false (by rw [hv]; rfl) ?_
        k_steps
        unfold Hold
        refine dset (knd := sk w) (rest := own ++ news) F₂ N₁ (List.mem_append_right _ (.head _)) ho hrest hkey (by rw [sizeLine_eq]; omega) ?_
        intro h' o' F' N' ho'
        k_steps
        refine LoopStepU.intro (news₂ := (D, o') :: news) F' (news_sub N' (hback o')) (hoff' o') ⟨rfl, o', rfl, .inr ⟨rfl, tn, ?_⟩⟩
        exact ho'
      | some v =>
        obtain ⟨n, t, e⟩ := hval _ (mem_of_valueAt hv)
        dsimp only at e
        subst e
        refine kda_in (knd := sk w) N₁ (List.mem_append_right _ (.head _)) ho lo' hkey true (by rw [hv]; rfl) ?_
        k_steps
        refine wpAny_getItem_of hkey (kda_dict N₁ (List.mem_append_right _ (.head _)) ho).mapOf hv ?_
        k_steps
        unfold Hold
        refine dset (knd := sk w) (rest := own ++ news) F₂ N₁ (List.mem_append_right _ (.head _)) ho hrest hkey (by rw [sizeLine_eq]; omega) ?_
        intro h' o' F' N' ho'
        k_steps
        exact LoopStepU.intro (news₂ := (D, o') :: news) F' (news_sub N' (hback o')) (hoff' o') ⟨rfl, o', rfl, .inr ⟨by first | rfl | trivial, _, ho'⟩⟩
    · rintro h3 tk3 m3 news3 ⟨e1, o, rfl, ho⟩ F4 N4
      have ho : ∃ t, o.IsDictOf (sk w) (stored kvs name (.int ((match valueAt kvs name with | some (.int n _) => n | _ => 0) + 1) t)) := by
        rcases ho with ⟨h, _⟩ | ⟨_, h⟩
        · cases h
        · exact h
      obtain ⟨t, ho⟩ := ho
      have F5 := frKnow (a := Str.ofString "new_callers") F4 e1
      clear F4 F3
      k_steps
      refine ret _ [(D, o)] _ _ ⟨D, o, t, rfl, rfl, lo', ho⟩ ?_ (by assumption) (by assumption)
      intro p hp q hq
      rw [List.mem_singleton.mp hq]
      exact l1 p hp
end Mine
end

section
open PySem PySem.W PySem.Spec PySem.Calls PyProof.Rows
namespace Mine
local macro_rules | `(tactic| walk_at "none such") => `(tactic| fail)
theorem quiet_C2 : True := by w_top off; trivial
abbrev tupObj (vs : Array Value) (n : Nat) : Obj := { cls := .type "tuple", data := .seq vs n }

local macro_rules | `(tactic| walk_at "call ref") => `(tactic| refine Hold.out ?_)
set_option maxRecDepth 100000 in
set_option maxHeartbeats 8000000 in
theorem stats_c (w : World) (s₀ : Shared) (mg mb : Str → Option Value) (tgt src dt ds : Addr) (ot os : Obj) (kvs : List (Str × Value)) (name : Str) (tn : Tok) (news : List (Addr × Obj))
  (c1 c2 c3 c4 e1 e2 e3 e4 : Int) (t1 t2 t3 t4 u1 u2 u3 u4 : Tok) (n1 n2 : Nat)
  (hsrc : (src, tupObj #[.int c1 t1, .int c2 t2, .int c3 t3, .int c4 t4, .ref ds] n1) ∈ news)
  (htgt : (tgt, tupObj #[.int e1 u1, .int e2 u2, .int e3 u3, .int e4 u4, .ref dt] n2) ∈ news)
  (hdt : (dt, ot) ∈ news) (hds : (ds, os) ∈ news) (hot : ot.IsDictOf (sk w) kvs) (hos : os.IsDictOf (sk w) [(name, .int 1 tn)]) (hsm : kvs.length ≤ 100) (hlt : (dt == sysModules) = false) (hls : (ds == sysModules) = false)
  (hval : ∀ kv ∈ kvs, ∃ n t, kv.2 = .int n t) :
  Ctc w s₀ mg mb 4 42 [.ref tgt, .ref src] news fun v tl => ∃ R D o t v1 v2 v3 v4 nn, v = .ref R ∧ tl = [(R, tupObj #[.int (c1 + e1) v1, .int (c2 + e2) v2, .int (c3 + e3) v3, .int (c4 + e4) v4, .ref D] nn), (D, o)] ∧ (D == sysModules) = false ∧ D < R ∧
    o.IsDictOf (sk w) (stored kvs name (.int ((match valueAt kvs name with | some (.int n _) => n | _ => 0) + 1) t)) := by
  intro dp un gd cn cs a ccd cl outer A₀ base h₀ L m s Q E B F X N T hk hdp hu ret
  revert X; k_fill; intro X
  refine wpAny_call ?_
  k_dflt cell_enter
  k_steps
  unfold Hold
  refine callers_c w s₀ mg mb dt ds ot os kvs name tn news hdt hds hot hos hsm hlt hls hval _ _ _ _ _ _ _ _ _ _ _ _ _ _ _ _ _ (by assumption) (by assumption) (by assumption) (by assumption) (by assumption) rfl ?_ ?_ ?_
  · show dp + 1 + 3 < recursionLimit; omega
  · show un + 3 + 10 * 3 < cLine; omega
  rintro v tl h' tk' ⟨D, o, t, rfl, rfl, hlo, ho⟩ hl F' N'
  k_steps
  rename_i R hR FR NR l1 kF kN Tc kX
  refine ret _ [(R, _), (D, o)] _ _ ⟨R, D, o, t, _, _, _, _, _, rfl, rfl, hlo, l1 (D, o) (.head _), ho⟩ ?_ kF kN
  intro p hp q hq
  have h1 : p.1 < D := hl p hp (D, o) (.head _)
  rcases List.mem_cons.mp hq with rfl | hq
  · exact Nat.lt_trans h1 (l1 (D, o) (.head _))
  · rw [List.mem_singleton.mp hq]; exact h1
end Mine
end

section
open PySem PySem.W PySem.Spec PySem.Calls PyProof.Rows
namespace Mine
/-- the eight letters' signs -/
def nm (c : Nat) : Nat := [107, 98, 103, 99, 114, 109, 121, 119].getD c 0
def ltr (c : Nat) : Str := ⟨#[nm c]⟩
def txt (cs : List Nat) : Str := ⟨(cs.map nm).toArray⟩
theorem nm_inj : ∀ a < 8, ∀ b < 8, nm a = nm b → a = b := by decide
theorem ltr_inj {a b : Nat} (ha : a < 8) (hb : b < 8) (h : ltr a = ltr b) : a = b := by
  refine nm_inj a ha b hb ?_
  simpa [ltr] using h
theorem txt_get (cs : List Nat) (i : Nat) : (txt cs).cps[i]? = (cs[i]?).map nm := by simp [txt]
theorem txt_size (cs : List Nat) : (txt cs).cps.size = cs.length := by simp [txt]

/-- one more of a letter -/
def bump (l : List (Str × Int)) (k : Str) : List (Str × Int) :=
  if l.any (fun p => decide (p.1 = k)) then l.map (fun p => if p.1 = k then (p.1, p.2 + 1) else p) else l ++ [(k, 1)]
inductive Cn : List (Str × Value) → List (Str × Int) → Prop
  | nil : Cn [] []
  | cons {k : Str} {n : Int} {t : Tok} {kvs : List (Str × Value)} {l : List (Str × Int)} : Cn kvs l → Cn ((k, .int n t) :: kvs) ((k, n) :: l)
theorem Cn.ints {kvs : List (Str × Value)} {l : List (Str × Int)} (h : Cn kvs l) : ∀ kv ∈ kvs, ∃ n t, kv.2 = .int n t := by
  induction h with
  | nil => intro kv h; cases h
  | cons _ ih =>
    intro kv h
    rcases List.mem_cons.mp h with rfl | h
    · exact ⟨_, _, rfl⟩
    · exact ih kv h
theorem Cn.length {kvs : List (Str × Value)} {l : List (Str × Int)} (h : Cn kvs l) : kvs.length = l.length := by
  induction h with
  | nil => rfl
  | cons _ ih => simp [ih]
theorem Cn.keys {kvs : List (Str × Value)} {l : List (Str × Int)} (h : Cn kvs l) : kvs.map (·.1) = l.map (·.1) := by
  induction h with
  | nil => rfl
  | cons _ ih => simp [ih]
theorem Cn.get {kvs : List (Str × Value)} {l : List (Str × Int)} (h : Cn kvs l) {i : Nat} {k : Str} {v : Value} (e : kvs[i]? = some (k, v)) : ∃ n t, v = .int n t ∧ l[i]? = some (k, n) := by
  induction h generalizing i with
  | nil => simp at e
  | @cons k' n' t' kvs' l' _ ih =>
    cases i with
    | zero => simp at e; exact ⟨n', t', e.2.symm, by simp [e.1]⟩
    | succ i => simp at e; obtain ⟨n, t, h1, h2⟩ := ih e; exact ⟨n, t, h1, by simpa using h2⟩
theorem Cn.any {kvs : List (Str × Value)} {l : List (Str × Int)} (h : Cn kvs l) (k : Str) : (kvs.any fun kv => decide (kv.1 = k)) = l.any fun p => decide (p.1 = k) := by
  induction h with
  | nil => rfl
  | cons _ ih => simp only [List.any_cons, ih]
theorem Cn.snoc {kvs : List (Str × Value)} {l : List (Str × Int)} (h : Cn kvs l) (k : Str) (n : Int) (t : Tok) : Cn (kvs ++ [(k, .int n t)]) (l ++ [(k, n)]) := by
  induction h with
  | nil => exact .cons .nil
  | cons _ ih => exact .cons ih
theorem valueAt_none {kvs : List (Str × Value)} {k : Str} (h : (kvs.any fun kv => decide (kv.1 = k)) = false) : valueAt kvs k = none := by
  unfold valueAt
  rw [List.find?_eq_none.mpr]
  · rfl
  · intro x hx hd
    have := List.any_eq_false.mp h x hx
    exact this hd
theorem Cn.map {kvs : List (Str × Value)} {l : List (Str × Int)} (h : Cn kvs l) (hn : (kvs.map (·.1)).Nodup) {k : Str} {n : Int} {t t' : Tok} (e : valueAt kvs k = some (.int n t)) :
    Cn (kvs.map fun kv => if kv.1 = k then (kv.1, .int (n + 1) t') else kv) (l.map fun p => if p.1 = k then (p.1, p.2 + 1) else p) := by
  induction h with
  | nil => exact .nil
  | @cons k₁ n₁ t₁ kvs₁ l₁ h₁ ih =>
    simp only [List.map_cons, List.nodup_cons] at hn
    by_cases hk : k₁ = k
    · subst hk
      have e' : n₁ = n ∧ t₁ = t := by simpa [valueAt] using e
      obtain ⟨rfl, rfl⟩ := e'
      simp only [List.map_cons, if_true]
      refine .cons ?_
      have h2 : k₁ ∉ l₁.map (·.1) := h₁.keys ▸ hn.1
      have a1 : (kvs₁.map fun kv => if kv.1 = k₁ then (kv.1, Value.int (n₁ + 1) t') else kv) = kvs₁ := map_store_of_not_mem kvs₁ k₁ _ hn.1
      have a2 : (l₁.map fun p => if p.1 = k₁ then (p.1, p.2 + 1) else p) = l₁ := by
        conv => rhs; rw [← List.map_id l₁]
        refine List.map_congr_left fun p hp => ?_
        rw [if_neg]; rfl
        exact fun q => h2 (List.mem_map.mpr ⟨p, hp, q⟩)
      rw [a1, a2]; exact h₁
    · simp only [List.map_cons, if_neg hk]
      refine .cons (ih hn.2 ?_)
      simpa [valueAt, List.find?_cons, hk] using e
theorem Cn.bump {kvs : List (Str × Value)} {l : List (Str × Int)} (h : Cn kvs l) (hn : (kvs.map (·.1)).Nodup) (k : Str) (t : Tok) :
    Cn (stored kvs k (.int ((match valueAt kvs k with | some (.int n _) => n | _ => 0) + 1) t)) (Mine.bump l k) := by
  cases ha : (kvs.any fun kv => decide (kv.1 = k)) with
  | false =>
    have ha' := h.any k; rw [ha] at ha'
    rw [valueAt_none ha, stored, if_neg (by rw [ha]; exact Bool.false_ne_true), Mine.bump, if_neg (by rw [← ha']; exact Bool.false_ne_true)]
    exact h.snoc k 1 t
  | true =>
    have ha' := h.any k; rw [ha] at ha'
    rw [stored, if_pos ha, Mine.bump, if_pos ha'.symm]
    obtain ⟨v, hv⟩ : ∃ v, valueAt kvs k = some v := by
      unfold valueAt
      obtain ⟨x, hx, he⟩ := List.any_eq_true.mp ha
      cases hf : kvs.find? (fun kv => decide (kv.1 = k)) with
      | none => exact absurd he (List.find?_eq_none.mp hf x hx)
      | some y => exact ⟨_, rfl⟩
    obtain ⟨n, t₀, e⟩ := h.ints _ (mem_of_valueAt hv)
    dsimp only at e
    subst e
    rw [hv]
    exact h.map hn hv
theorem Cn.take_sum {kvs : List (Str × Value)} {l : List (Str × Int)} (h : Cn kvs l) {i : Nat} {k : Str} {n : Int} (e : l[i]? = some (k, n)) : ((l.take (i + 1)).map (·.2)).sum = ((l.take i).map (·.2)).sum + n := by
  rw [List.take_add_one, e]; simp

def rb (c : Nat) : Int := ((c / 4 : Nat) : Int)
def gb (c : Nat) : Int := ((c / 2 % 2 : Nat) : Int)
def bb (c : Nat) : Int := ((c % 2 : Nat) : Int)
def sumBy (f : Nat → Int) (cs : List Nat) : Int := (cs.map f).sum
theorem sumBy_take {f : Nat → Int} {cs : List Nat} {i c : Nat} (e : cs[i]? = some c) : sumBy f (cs.take (i + 1)) = f c + sumBy f (cs.take i) := by
  rw [sumBy, List.take_add_one, e]; simp [sumBy]; omega
def cnts (cs : List Nat) : List (Str × Int) := cs.foldl (fun l c => bump l (ltr c)) []
theorem cnts_take {cs : List Nat} {i c : Nat} (e : cs[i]? = some c) : cnts (cs.take (i + 1)) = bump (cnts (cs.take i)) (ltr c) := by
  rw [cnts, List.take_add_one, e]; simp [cnts]
theorem bump_length (l : List (Str × Int)) (k : Str) : (bump l k).length ≤ l.length + 1 := by
  unfold bump; split <;> simp
theorem cnts_length (cs : List Nat) : (cnts cs).length ≤ cs.length := by
  have : ∀ (cs : List Nat) (l : List (Str × Int)), (cs.foldl (fun l c => bump l (ltr c)) l).length ≤ l.length + cs.length := by
    intro cs
    induction cs with
    | nil => intro l; simp
    | cons c r ih => intro l; simp only [List.foldl_cons, List.length_cons]; have := ih (bump l (ltr c)); have := bump_length l (ltr c); omega
  simpa [cnts] using this cs []

/-- the table of the eight letters' entries -/
def EntriesAt (w : World) (news : List (Addr × Obj)) (aE : Addr) (price : Nat → Int) : Prop :=
  ∃ oE kvE, (aE, oE) ∈ news ∧ oE.IsDictOf (sk w) kvE ∧ ∀ c < 8, ∃ a d od t1 t2 t3 t4 t5 n, valueAt kvE (ltr c) = some (.ref a) ∧
    (a, ({ cls := .type "tuple", data := .seq #[.int (rb c) t1, .int (gb c) t2, .int (bb c) t3, .int (price c) t4, .ref d] n } : Obj)) ∈ news ∧ (d, od) ∈ news ∧ od.IsDictOf (sk w) [(ltr c, .int 1 t5)] ∧ (d == sysModules) = false
end Mine
end

section
open PySem PySem.W PySem.Spec PySem.Calls PyProof.Rows
namespace Mine
theorem quiet_C3 : True := by w_top off; trivial

local macro_rules | `(tactic| walk_at $s:str) => if ["call ref", "exec For Name Name cons nil", "exec For Name Call cons nil", "pyIter str", "pyIter ref", "subscriptTail Name Name ref str"].contains s.getString then `(tactic| refine Hold.out ?_) else Lean.Macro.throwUnsupported
set_option maxRecDepth 100000 in
set_option maxHeartbeats 8000000 in
theorem count_c (w : World) (s₀ : Shared) (mg mb : Str → Option Value) (d : Addr) (o : Obj) (kvs : List (Str × Value)) (l : List (Str × Int)) (news : List (Addr × Obj))
  (hd : (d, o) ∈ news) (ho : o.IsDictOf (sk w) kvs) (hc : Cn kvs l) (hlo : (d == sysModules) = false) :
  Ctc w s₀ mg mb 3 56 [.ref d] news fun v tl => ∃ t, v = .int (l.map (·.2)).sum t ∧ tl = [] := by
  intro dp un gd cn cs a ccd cl outer A₀ base h₀ L m s Q E B F X N T hk hdp hu ret
  revert X; k_fill; intro X
  refine wpAny_call ?_
  k_dflt cell_enter
  rename_i g' L' h' FG' F' N' B' X' T'
  obtain ⟨mm, F1⟩ := frArgs1 (Str.ofString "callers") F' rfl
  clear F'
  k_steps
  unfold Hold
  rename_i hA FA NA
  refine For_turns FA (Call_values (knd := sk w) hlo (Heap.dictOf_iff.mpr ⟨o, (NA _ hd).1, ho⟩) rfl rfl (fun Q' hq => by k_steps; exact hq) ?_) (by intro _; rfl) (by passes_own)
  have up : ∀ b o', hA.get? b = some o' → (hA.push { cls := .type "dict_values", data := .fields #[.ref d] }).get? b = some o' := fun b o' e => Heap.get?_push_of_some _ e
  refine iter_values (knd := sk w) (fun i m₁ nw => nw = news ∧ ∃ t, m₁ (Str.ofString "nc") = some (.int ((l.take i).map (·.2)).sum t)) rfl (FA.keeps up) (NA.grown up) ⟨_, Heap.get?_push_size _ rfl, rfl, rfl⟩ hd ho rfl rfl ⟨rfl, _, rfl⟩ ?_ ?_
  · rintro i k v m₁ news₁ h₁ tk₁ own I hkv ⟨rfl, t, e1⟩ hoff hown hin F₁ N₁
    obtain ⟨n, tv, rfl, hl⟩ := hc.get hkv
    have F₂ := frKnow (a := Str.ofString "nc") F₁ e1
    clear F₁
    k_steps
    rename_i F₃ N₃
    exact LoopStepU.intro F₃ N₃ (fun p hp q => hoff p hp (List.mem_singleton.mp q)) ⟨rfl, _, by rw [hc.take_sum hl]; rfl⟩
  · rintro h2 tk2 m2 news2 ⟨rfl, t, e1⟩ F2 N2
    rw [hc.length, List.take_length] at e1
    have F3 := frKnow (a := Str.ofString "nc") F2 e1
    clear F2 FA
    k_steps
    rename_i kF kN _ _
    exact ret _ [] _ _ ⟨t, rfl, rfl⟩ (fun _ _ _ h => nomatch h) kF kN

/-- the loop's word -/
inductive J3 (w : World) (ds : List Nat) (aE : Addr) (price : Nat → Int) (news : List (Addr × Obj)) (i : Nat) (m₁ : Str → Option Value) (nw : List (Addr × Obj)) : Prop
  | mk : m₁ (Str.ofString "entries") = some (.ref aE) → ∀ (R D : Addr) (o : Obj) (kvs : List (Str × Value)) (v1 v2 v3 v4 : Tok) (nn : Nat), m₁ (Str.ofString "entry") = some (.ref R) →
    nw = (R, tupObj #[.int (sumBy rb (ds.take i)) v1, .int (sumBy gb (ds.take i)) v2, .int (sumBy bb (ds.take i)) v3, .int (sumBy price (ds.take i)) v4, .ref D] nn) :: (D, o) :: news →
    o.IsDictOf (sk w) kvs → Cn kvs (cnts (ds.take i)) → (D == sysModules) = false → (∀ p ∈ news, p.1 < D) → D < R → J3 w ds aE price news i m₁ nw
set_option maxRecDepth 100000 in
set_option maxHeartbeats 8000000 in
theorem added_c (w : World) (s₀ : Shared) (mg mb : Str → Option Value) (ds : List Nat) (tr : Tok) (aE : Addr) (price : Nat → Int) (news : List (Addr × Obj))
  (hds : ∀ c ∈ ds, c < 8) (hlen : ds.length ≤ 50) (hE : EntriesAt w news aE price) :
  Ctc w s₀ mg mb 5 77 [.str (txt ds) tr, .ref aE] news fun v tl => ∃ R D o kvs v1 v2 v3 v4 nn, v = .ref R ∧ tl = [(R, tupObj #[.int (sumBy rb ds) v1, .int (sumBy gb ds) v2, .int (sumBy bb ds) v3, .int (sumBy price ds) v4, .ref D] nn), (D, o)] ∧
    o.IsDictOf (sk w) kvs ∧ Cn kvs (cnts ds) ∧ (D == sysModules) = false := by
  intro dp un gd cn cs a ccd cl outer A₀ base h₀ L m s Q E B F X N T hk hdp hu ret
  revert X; k_fill; intro X
  refine wpAny_call ?_
  k_dflt cell_enter
  rename_i g' L' h' FG' F' N' B' X' T'
  obtain ⟨mm, F1⟩ := frArgs2 (Str.ofString "row") (Str.ofString "entries") F' rfl rfl (by decide)
  clear F'
  k_steps
  unfold Hold
  rename_i D0 hB oD l1 lo' hs' fs' hi' fi' R0 hC l2 hA FA NA
  refine For_turns FA ?_ (by intro _; rfl) (by passes_own)
  k_steps
  unfold Hold
  obtain ⟨oE, kvE, hmE, hoE, hent⟩ := hE
  refine iter_str (J3 w ds aE price news) rfl FA NA rfl rfl ⟨rfl, R0, D0, oD, [], _, _, _, _, _, rfl, rfl, hs', .nil, lo', l1, l2.1⟩ ?_ ?_
  · rintro i c u m₁ news₁ h₁ tk₁ own I hc ⟨e1, R, D, o, kvs, v1, v2, v3, v4, nn, e2, rfl, ho, hcn, hlo, hl1, hl2⟩ hoff hown ⟨oI, hin⟩ F₁ N₁
    rw [txt_get] at hc
    obtain ⟨c', hc', rfl⟩ := Option.map_eq_some_iff.mp hc
    obtain ⟨ta, td, od, t1, t2, t3, t4, t5, nt, hval, hta, htd, hod, hld⟩ := hent c' (hds c' (List.mem_of_getElem? hc'))
    have F₂ := frKnow (a := Str.ofString "entry") (frKnow (a := Str.ofString "entries") F₁ e1) e2
    clear F₁
    k_steps
    unfold Hold
    refine kda_item (knd := sk w) N₁ (List.mem_append_right _ (.tail _ (.tail _ hmE))) hoE (k := ltr c') (strKind_is _ _ _ _) hval ?_
    k_steps
    unfold Hold
    refine stats_c w s₀ mg mb R ta D td o od kvs (ltr c') t5 _ _ _ _ _ _ _ _ _ _ _ _ _ _ _ _ _ _ _ (List.mem_append_right _ (.tail _ (.tail _ hta))) (List.mem_append_right _ (.head _)) (List.mem_append_right _ (.tail _ (.head _))) (List.mem_append_right _ (.tail _ (.tail _ htd))) ho hod
      (by have := hcn.length; have := cnts_length (ds.take i); rw [List.length_take] at this; omega) hlo hld hcn.ints _ _ _ _ _ _ _ _ _ _ _ _ _ _ _ _ _ (by assumption) (by assumption) (by assumption) N₁ (by assumption) rfl ?_ ?_ ?_
    · show dp + 1 + 4 < recursionLimit; omega
    · show un + 3 + 10 * 4 < cLine; omega
    rintro v tl h' tk' ⟨R2, D2, o2, t6, w1, w2, w3, w4, n2, rfl, rfl, hlo2, hl22, ho2⟩ hl F' N'
    k_steps
    rename_i h5 F5 N5
    have hD2 : ∀ p ∈ news, p.1 < D2 := fun p hp => hl p (List.mem_append_right _ (.tail _ (.tail _ hp))) (D2, o2) (.tail _ (.head _))
    have hI2 : I < D2 := hl (I, oI) (List.mem_append_left _ hin) (D2, o2) (.tail _ (.head _))
    refine LoopStepU.intro (news₂ := (R2, tupObj #[.int (rb c' + sumBy rb (ds.take i)) w1, .int (gb c' + sumBy gb (ds.take i)) w2, .int (bb c' + sumBy bb (ds.take i)) w3, .int (price c' + sumBy price (ds.take i)) w4, .ref D2] n2) :: (D2, o2) :: news) F5 (news_sub N5 ?_) ?_ ⟨rfl, R2, D2, o2, _, w1, w2, w3, w4, n2, rfl, ?_, ho2, ?_, hlo2, hD2, hl22⟩
    · intro p hp
      rcases List.mem_append.mp hp with hp | hp
      · exact List.mem_append_right _ (List.mem_append_left _ hp)
      · rcases List.mem_cons.mp hp with rfl | hp
        · exact .head _
        · rcases List.mem_cons.mp hp with rfl | hp
          · exact .tail _ (.head _)
          · exact List.mem_append_right _ (List.mem_append_right _ (.tail _ (.tail _ hp)))
    · intro p hp q
      rw [List.mem_singleton] at q
      rcases List.mem_cons.mp hp with rfl | hp
      · exact absurd q (Nat.ne_of_gt (Nat.lt_trans hI2 hl22))
      · rcases List.mem_cons.mp hp with rfl | hp
        · exact absurd q (Nat.ne_of_gt hI2)
        · exact hoff p (.tail _ (.tail _ hp)) q
    · simp only [sumBy_take hc']
    · rw [cnts_take hc']
      exact hcn.bump (nodup_of_dict ho) _ _
  · rintro h2 tk2 m2 news2 ⟨e1, R, D, o, kvs, v1, v2, v3, v4, nn, e2, rfl, ho, hcn, hlo, hl1, hl2⟩ F2 N2
    rw [txt_size, List.take_length] at *
    have F3 := frKnow (a := Str.ofString "entry") F2 e2
    clear F2 FA
    k_steps
    rename_i kF kN _ _
    refine ret _ [(R, _), (D, o)] _ _ ⟨R, D, o, kvs, v1, v2, v3, v4, nn, rfl, rfl, ho, hcn, hlo⟩ ?_ kF kN
    intro p hp q hq
    have h1 := hl1 p hp
    rcases List.mem_cons.mp hq with rfl | hq
    · exact Nat.lt_trans h1 hl2
    · rw [List.mem_singleton.mp hq]; exact h1
end Mine
end

section
open PySem PySem.W PySem.Spec PySem.Calls PyProof.Rows
open PySem.Builtin PySem.Builtin.Str PySem.StrLaws
namespace Mine
/-- two neighbours replaced, from the left -/
def rp2 (p q u v : Nat) : List Nat → List Nat
  | [] => []
  | [a] => [a]
  | a :: b :: r => if a = p ∧ b = q then u :: v :: rp2 p q u v r else a :: rp2 p q u v (b :: r)

theorem rp2_free (p q u v : Nat) : ∀ l : List Nat, (∀ i, ¬ (l[i]? = some p ∧ l[i + 1]? = some q)) → rp2 p q u v l = l
  | [], _ => rfl
  | [a], _ => rfl
  | a :: b :: r, h => by
    rw [rp2, if_neg (fun e => h 0 ⟨by simp [e.1], by simp [e.2]⟩), rp2_free p q u v (b :: r) fun i => ?_]
    have := h (i + 1)
    simpa using this
theorem rp2_pre (p q u v : Nat) (rest : List Nat) : ∀ pre : List Nat, (∀ i, i < pre.length → ¬ ((pre ++ p :: q :: rest)[i]? = some p ∧ (pre ++ p :: q :: rest)[i + 1]? = some q)) →
    rp2 p q u v (pre ++ p :: q :: rest) = pre ++ u :: v :: rp2 p q u v rest
  | [], _ => by simp [rp2]
  | a :: pre, h => by
    have ih := rp2_pre p q u v rest pre fun i hi => by
      have := h (i + 1) (by simpa using hi)
      simpa using this
    have h0 := h 0 (by simp)
    cases hp : pre ++ p :: q :: rest with
    | nil => simp at hp
    | cons b r =>
      rw [hp] at ih
      simp only [List.cons_append, hp] at h0 ⊢
      rw [rp2, if_neg (by simpa using h0), ih]

theorem at_iff {x : Str} {p q i : Nat} : At x ⟨#[p, q]⟩ x.length i ↔ x.cps.toList[i]? = some p ∧ x.cps.toList[i + 1]? = some q := by
  have hl : x.cps.toList.length = x.length := by simp [Str.length]
  have h2 : (⟨#[p, q]⟩ : Str).length = 2 := rfl
  unfold At
  rw [subAt_eq, h2]
  constructor
  · rintro ⟨h1, h3⟩
    have e := eq_of_beq h3
    have a0 : ((x.cps.toList.drop i).take 2)[0]? = some p := by rw [e]; rfl
    have a1 : ((x.cps.toList.drop i).take 2)[1]? = some q := by rw [e]; rfl
    rw [List.getElem?_take_of_lt (by omega), List.getElem?_drop] at a0 a1
    exact ⟨by simpa using a0, a1⟩
  · rintro ⟨h1, h3⟩
    have hlt := (List.getElem?_eq_some_iff.mp h3).1
    refine ⟨by omega, beq_iff_eq.mpr ?_⟩
    have hlt0 : i < x.cps.toList.length := by omega
    rw [List.drop_eq_getElem_cons hlt0, List.drop_eq_getElem_cons hlt]
    have e1 : x.cps.toList[i] = p := (List.getElem?_eq_some_iff.mp h1).2
    have e2 : x.cps.toList[i + 1] = q := (List.getElem?_eq_some_iff.mp h3).2
    simp [e1, e2]

theorem join_rp2 (x : Str) (p q u v : Nat) : ∀ (cuts : List Nat) (a f : Nat), ChainG x ⟨#[p, q]⟩ x.length a cuts f → (∀ k, f ≤ k → ¬ At x ⟨#[p, q]⟩ x.length k) →
    (Str.join ⟨#[u, v]⟩ (partsFrom x 2 a cuts)).cps.toList = rp2 p q u v (x.cps.toList.drop a)
  | [], a, f, h, hn => by
    have e : f = a := h
    subst e
    show (strSub x f x.length).cps.toList = _
    rw [strSub_toList, rp2_free]
    · exact List.take_of_length_le (by simp [Str.length])
    · intro i hi
      rw [List.getElem?_drop, List.getElem?_drop] at hi
      exact hn (f + i) (by omega) (at_iff.mpr ⟨hi.1, by rw [← hi.2]; congr 1⟩)
  | c :: r, a, f, h, hn => by
    obtain ⟨h1, h2, h3, h4⟩ := h
    have ih := join_rp2 x p q u v r (c + 2) f h4 hn
    obtain ⟨p', q', e⟩ := partsFrom_ne x 2 (c + 2) r
    show (Str.join ⟨#[u, v]⟩ (strSub x a c :: partsFrom x 2 (c + 2) r)).cps.toList = _
    rw [e] at ih ⊢
    show ((strSub x a c ++ ⟨#[u, v]⟩) ++ Str.join ⟨#[u, v]⟩ (p' :: q')).cps.toList = _
    rw [Str.cps_append, Str.cps_append, Array.toList_append, Array.toList_append, ih, strSub_toList]
    obtain ⟨hp, hq⟩ := at_iff.mp h2
    have hlt := (List.getElem?_eq_some_iff.mp hq).1
    have hlt0 : c < x.cps.toList.length := by omega
    have e1 : x.cps.toList[c] = p := (List.getElem?_eq_some_iff.mp hp).2
    have e2 : x.cps.toList[c + 1] = q := (List.getElem?_eq_some_iff.mp hq).2
    have ed : x.cps.toList.drop a = (x.cps.toList.drop a).take (c - a) ++ p :: q :: x.cps.toList.drop (c + 2) := by
      have : x.cps.toList.drop c = p :: q :: x.cps.toList.drop (c + 2) := by
        rw [List.drop_eq_getElem_cons hlt0, List.drop_eq_getElem_cons hlt, e1, e2]
      rw [← this]
      have e5 : x.cps.toList.drop c = (x.cps.toList.drop a).drop (c - a) := by rw [List.drop_drop]; congr 1; omega
      rw [e5]
      exact (List.take_append_drop (c - a) _).symm
    have hpl : ((x.cps.toList.drop a).take (c - a)).length = c - a := by
      rw [List.length_take, List.length_drop]; omega
    generalize hpre : (x.cps.toList.drop a).take (c - a) = pre at ed hpl
    rw [ed, rp2_pre]
    · simp
    · intro i hi hx
      rw [← ed, List.getElem?_drop, List.getElem?_drop] at hx
      exact h3 (a + i) (by omega) (by omega) (at_iff.mpr ⟨hx.1, by rw [← hx.2]; congr 1⟩)

theorem kind_low {x : Str} (h : ∀ c ∈ x.cps.toList, c < 256) : PySem.Builtin.Str.strKind x = 1 := by
  unfold PySem.Builtin.Str.strKind
  rw [if_pos]
  rw [← Array.all_toList]
  exact List.all_eq_true.mpr fun c hc => decide_eq_true (h c hc)

/-- what the program's replace makes of two signs -/
theorem replaced {x : Str} {p q u v : Nat} (hx : ∀ c ∈ x.cps.toList, c < 256) (hp : p < 256) (hq : q < 256) :
    Txt.join ⟨#[u, v]⟩ (Txt.split x ⟨#[p, q]⟩) = ⟨(rp2 p q u v x.cps.toList).toArray⟩ := by
  have hj : ∀ l, Txt.join ⟨#[u, v]⟩ l = Str.join ⟨#[u, v]⟩ l := fun l => glued_eq_join _ l
  rw [hj]
  apply Str.ext'
  apply Array.toList_inj.mp
  show _ = rp2 p q u v x.cps.toList
  obtain ⟨f, hG, hn⟩ := occ_tight x ⟨#[p, q]⟩ (by show 1 ≤ 2; omega)
  have none0 : occurrences x ⟨#[p, q]⟩ 0 x.length (x.length + 1) = [] → rp2 p q u v x.cps.toList = x.cps.toList := by
    intro e
    rw [e] at hG
    have : f = 0 := hG
    subst this
    exact rp2_free _ _ _ _ _ fun i hi => hn i (Nat.zero_le _) (at_iff.mpr hi)
  unfold Txt.split
  split
  · rename_i hc
    rw [Bool.or_eq_true, decide_eq_true_eq, decide_eq_true_eq] at hc
    show x.cps.toList = _
    rcases hc with h | h
    · rw [rp2_free]
      intro i hi
      have := (at_iff.mpr hi).1
      omega
    · rw [kind_low hx, kind_low (x := ⟨#[p, q]⟩) (by intro c hc; simp at hc; rcases hc with rfl | rfl <;> assumption)] at h
      omega
  · split
    · rename_i he
      show x.cps.toList = _
      rw [none0 (List.isEmpty_iff.mp he)]
    · rw [partsBetween_eq]
      exact join_rp2 x p q u v _ 0 f hG hn

theorem split_len (x y : Str) : (Txt.split x y).length ≤ x.length + 2 := by
  unfold Txt.split
  split
  · simp
  · split
    · simp
    · rw [partsBetween]
      simp only [List.length_map, List.length_zip, List.length_cons, List.length_append, List.length_nil]
      have := occ_length_le x y 0 x.length (x.length + 1)
      omega
theorem parts_len (x y : Str) : (partsBetween x (occurrences x y 0 x.length (x.length + 1)) y.length).length ≤ x.length + 2 := by
  rw [partsBetween]
  simp only [List.length_map, List.length_zip, List.length_cons, List.length_append, List.length_nil]
  have := occ_length_le x y 0 x.length (x.length + 1)
  omega
theorem sub_len (x : Str) (i j : Nat) : (strSub x i j).length ≤ x.length := by
  unfold strSub
  show (x.cps.extract i j).size ≤ x.cps.size
  rw [Array.size_extract]; omega
theorem split_part_len (x y : Str) : ∀ p ∈ Txt.split x y, p.length ≤ x.length := by
  unfold Txt.split
  split
  · intro p hp; rw [List.mem_singleton.mp hp]; exact Nat.le_refl _
  · split
    · intro p hp; rw [List.mem_singleton.mp hp]; exact Nat.le_refl _
    · intro p hp
      rw [partsBetween] at hp
      obtain ⟨⟨i, j⟩, _, rfl⟩ := List.mem_map.mp hp
      exact sub_len x i j
theorem sum_le_of {l : List Nat} {b : Nat} (h : ∀ n ∈ l, n ≤ b) : l.sum ≤ l.length * b := by
  induction l with
  | nil => simp
  | cons a r ih =>
    have h1 := h a (.head _)
    have h2 := ih fun n hn => h n (.tail _ hn)
    simp only [List.sum_cons, List.length_cons, Nat.succ_mul]
    omega
theorem split_join_ok (x y z : Str) (hx : x.length ≤ 100) (hz : z.length ≤ 100) : JoinOk z (Txt.split x y) = true := by
  refine joinOk_of ?_
  have h1 := split_len x y
  have h2 : ((Txt.split x y).map (·.length)).sum ≤ (Txt.split x y).length * 100 := by
    have := sum_le_of (l := (Txt.split x y).map (·.length)) (b := 100) fun n hn => by
      obtain ⟨p, hp, rfl⟩ := List.mem_map.mp hn
      have := split_part_len x y p hp; omega
    simpa using this
  have h3 : (Txt.split x y).length * z.length ≤ (Txt.split x y).length * 100 := Nat.mul_le_mul_left _ hz
  omega
end Mine
end

section
open PySem PySem.W PySem.Spec PySem.Calls PyProof.Rows
namespace Mine
local macro_rules | `(tactic| walk_at "none such") => `(tactic| fail)
theorem quiet_C4 : True := by w_top off; trivial

local macro_rules | `(tactic| walk_at $s:str) => if ["exec While Name cons nil", "subscriptTail Name Slice ref ref", "WhlIf", "WhlPost next"].contains s.getString then `(tactic| refine Hold.out ?_) else Lean.Macro.throwUnsupported
set_option maxRecDepth 100000 in
set_option maxHeartbeats 8000000 in
theorem replace_c (w : World) (s₀ : Shared) (mg mb : Str → Option Value) (x p r : Str) (tx tp tr : Tok) (news : List (Addr × Obj)) (hx : x.length ≤ 100) (hp : (p.length == 0) = false) (hr : r.length ≤ 100) :
  Ctc w s₀ mg mb 3 21 [.str x tx, .str p tp, .str r tr] news fun v tl => ∃ t, v = .str (Txt.join r (Txt.split x p)) t ∧ tl = [] := by
  intro dp un gd cn cs a ccd cl outer A₀ base h₀ L m s Q E B F X N T hk hdp hu ret
  revert X; k_fill; intro X
  refine wpAny_call ?_
  k_dflt (refine' kp_rest ?k1 ?k2 ?k3 ?k4 ?k5 ?kA ?kF ?kK ?k6 ?k7 ?k8 ?kV ?kP ?kG ?kB ?_ ?c2 ?c3 ?c4 ?c5; (case kA => exact rfl); (case kF => exact rfl); (case kK => assumption); (case k1 => k_asm); (case k2 => k_asm); (case k3 => k_asm); (case k4 => k_asm); (case k5 => k_asm); (case k6 => k_is); (case k7 => k_is); (case k8 => ktr_room); (case kV => kl_lit); (case kP => exact rfl); (case kG => exact fun _ => rfl); (case kB => exact fun _ => locs rfl); (case c5 => decide); (case c2 => exact rfl); (case c3 => exact rfl); (case c4 => exact rfl); k_whole; intro D' g' L' h' l1 FG' F' N' B' X' T'; (try k_lt l1); (try dsimp only); (try k_lift B'); (try k_fold))
  obtain ⟨mm, F1⟩ := frArgs2 (Str.ofString "text") (Str.ofString "pairs") F' rfl rfl (by decide)
  clear F'
  k_steps
  unfold Hold
  refine whl_start 2 (whl_turn (by passes_own) ?_)
  k_steps
  unfold Hold
  refine WhlIf.yes rfl ?_
  k_steps
  rename_i l h2 k2 hl hst hlen hL F2 N2
  refine SC.join hL hl (split_join_ok x p r hx hr) ?_
  intro t' k3
  k_steps
  unfold Hold
  rename_i h5 F5 N5
  refine slice_tuple_from (s := { s with heap := h5, toks := _ }) (a := 2) F5 N5 ⟨_, (N5 _ (.tail _ (.head _))).1, rfl, _, rfl⟩ (by decide) (Nat.le_refl 2) ?_
  intro h6 F6 N6
  k_steps
  unfold Hold
  refine WhlIf.no rfl ?_
  k_steps
  rename_i kF kN _ _
  exact ret _ [] _ _ ⟨_, rfl, rfl⟩ (fun _ _ _ h => nomatch h) kF (news_sub kN fun p hp => .tail _ (.tail _ (.tail _ hp)))
end Mine
end

section
open PySem PySem.W PySem.Spec PySem.Calls PyProof.Rows
namespace Mine
/-- a lamp that isn't within the next one -/
abbrev wrong (x y : Nat) : Prop := x &&& y ≠ x

inductive Steps : List Nat → List Nat → Nat → Prop
  | zero (ds : List Nat) : Steps ds ds 0
  | succ {ds es : List Nat} {n k x y : Nat} : Steps ds es n → es[k]? = some x → es[k + 1]? = some y → wrong x y → Steps ds (rp2 x y (x &&& y) (x ||| y) es) (n + 1)

/-- the texts of the neighbours that may be straightened, among the first i -/
def wr (es : List Nat) (i : Nat) : List Str := (List.range i).filterMap fun k => match es[k]?, es[k + 1]? with
  | some x, some y => if x &&& y ≠ x then some (txt [x, y]) else none
  | _, _ => none

theorem rp2_length (p q u v : Nat) : ∀ l : List Nat, (rp2 p q u v l).length = l.length
  | [] => rfl
  | [a] => rfl
  | a :: b :: r => by
    rw [rp2]
    split
    · simp [rp2_length p q u v r]
    · simp [rp2_length p q u v (b :: r)]
theorem rp2_lt (p q u v N : Nat) (hu : u < N) (hv : v < N) : ∀ l : List Nat, (∀ c ∈ l, c < N) → ∀ c ∈ rp2 p q u v l, c < N
  | [], _ => by intro c h; cases h
  | [a], h => h
  | a :: b :: r, h => by
    rw [rp2]
    split
    · intro c hc
      rcases List.mem_cons.mp hc with rfl | hc
      · exact hu
      · rcases List.mem_cons.mp hc with rfl | hc
        · exact hv
        · exact rp2_lt p q u v N hu hv r (fun c hc => h c (.tail _ (.tail _ hc))) c hc
    · intro c hc
      rcases List.mem_cons.mp hc with rfl | hc
      · exact h c (.head _)
      · exact rp2_lt p q u v N hu hv (b :: r) (fun c hc => h c (.tail _ hc)) c hc
theorem rp2_map (x y u v : Nat) (hx : x < 8) (hy : y < 8) : ∀ l : List Nat, (∀ c ∈ l, c < 8) → rp2 (nm x) (nm y) (nm u) (nm v) (l.map nm) = (rp2 x y u v l).map nm
  | [], _ => rfl
  | [a], _ => rfl
  | a :: b :: r, h => by
    have ha := h a (.head _)
    have hb := h b (.tail _ (.head _))
    have e : (nm a = nm x ∧ nm b = nm y) ↔ (a = x ∧ b = y) := ⟨fun q => ⟨nm_inj a ha x hx q.1, nm_inj b hb y hy q.2⟩, fun q => ⟨by rw [q.1], by rw [q.2]⟩⟩
    have i1 := rp2_map x y u v hx hy r fun c hc => h c (.tail _ (.tail _ hc))
    have i2 := rp2_map x y u v hx hy (b :: r) fun c hc => h c (.tail _ hc)
    simp only [List.map_cons] at i2 ⊢
    rw [rp2, rp2]
    by_cases hq : a = x ∧ b = y
    · rw [if_pos (e.mpr hq), if_pos hq]; simp [i1]
    · rw [if_neg (fun q => hq (e.mp q)), if_neg hq]; simp [i2]
theorem nm_low : ∀ c < 8, nm c < 256 := by decide
theorem txt_low {cs : List Nat} (h : ∀ c ∈ cs, c < 8) : ∀ c ∈ (txt cs).cps.toList, c < 256 := by
  intro c hc
  simp only [txt, List.mem_map] at hc
  obtain ⟨d, hd, rfl⟩ := hc
  exact nm_low d (h d hd)
theorem replaced_txt {cs : List Nat} {x y u v : Nat} (hx : x < 8) (hy : y < 8) (h : ∀ c ∈ cs, c < 8) : Txt.join (txt [u, v]) (Txt.split (txt cs) (txt [x, y])) = txt (rp2 x y u v cs) := by
  have := replaced (x := txt cs) (p := nm x) (q := nm y) (u := nm u) (v := nm v) (txt_low h) (nm_low x hx) (nm_low y hy)
  rw [show (txt [u, v]) = ⟨#[nm u, nm v]⟩ from rfl, show (txt [x, y]) = ⟨#[nm x, nm y]⟩ from rfl, this]
  simp [txt, rp2_map x y u v hx hy cs h]
theorem txt_length (cs : List Nat) : (txt cs).length = cs.length := by simp [txt, Str.length]
theorem slice_txt {es : List Nat} {j : Nat} {x y : Nat} (hx : es[j]? = some x) (hy : es[j + 1]? = some y) : Txt.slice (txt es) (some ((j : Nat) : Int)) (some ((j : Int) + 2)) = txt [x, y] := by
  have hlt := (List.getElem?_eq_some_iff.mp hy).1
  have hlt0 : j < es.length := by omega
  have e1 : es[j] = x := (List.getElem?_eq_some_iff.mp hx).2
  have e2 : es[j + 1] = y := (List.getElem?_eq_some_iff.mp hy).2
  have := eq_of_beq (slice_closes (x := txt es) (i := (j : Int)) (j := (j : Int) + 2) ⟨by omega, by omega, by simp [txt]; omega⟩)
  rw [this]
  have e3 : ((j : Int) + 2 - j).toNat = 2 := by omega
  rw [e3]
  simp only [txt, Int.toNat_natCast, ← List.map_drop, ← List.map_take]
  rw [List.drop_eq_getElem_cons hlt0, List.drop_eq_getElem_cons hlt, e1, e2]
  rfl

theorem and_lt8 : ∀ x < 8, ∀ y < 8, x &&& y < 8 ∧ x ||| y < 8 := by decide
theorem Steps.keeps {ds es : List Nat} {n : Nat} (h : Steps ds es n) (hl : ∀ c ∈ ds, c < 8) : es.length = ds.length ∧ ∀ c ∈ es, c < 8 := by
  induction h with
  | zero => exact ⟨rfl, hl⟩
  | @succ es n k x y h hx hy hw ih =>
    obtain ⟨h1, h2⟩ := ih
    have a := and_lt8 x (h2 x (List.mem_of_getElem? hx)) y (h2 y (List.mem_of_getElem? hy))
    exact ⟨(rp2_length _ _ _ _ _).trans h1, rp2_lt _ _ _ _ 8 a.1 a.2 es h2⟩

/-- a sum by the letters that a pair's straightening does not raise falls -/
theorem rp2_sum (f : Nat → Int) (p q u v : Nat) (h : f u + f v ≤ f p + f q) : ∀ l : List Nat, sumBy f (rp2 p q u v l) ≤ sumBy f l
  | [] => Int.le_refl _
  | [a] => Int.le_refl _
  | a :: b :: r => by
    rw [rp2]
    split
    · rename_i e
      obtain ⟨rfl, rfl⟩ := e
      have := rp2_sum f a b u v h r
      simp only [sumBy, List.map_cons, List.sum_cons] at this ⊢
      omega
    · have := rp2_sum f p q u v h (b :: r)
      simp only [sumBy, List.map_cons, List.sum_cons] at this ⊢
      omega
theorem rp2_sum_eq (f : Nat → Int) (p q u v : Nat) (h : f u + f v = f p + f q) (l : List Nat) : sumBy f (rp2 p q u v l) = sumBy f l := by
  have h1 := rp2_sum f p q u v (Int.le_of_eq h) l
  have h2 := rp2_sum (fun c => - f c) p q u v (by show -f u + -f v ≤ -f p + -f q; omega) l
  have h3 : ∀ l : List Nat, sumBy (fun c => - f c) l = - sumBy f l := by
    intro l
    induction l with
    | nil => rfl
    | cons a r ih => simp only [sumBy, List.map_cons, List.sum_cons] at ih ⊢; omega
  rw [h3, h3] at h2
  omega
theorem bits_and_or : ∀ x < 8, ∀ y < 8, rb (x &&& y) + rb (x ||| y) = rb x + rb y ∧ gb (x &&& y) + gb (x ||| y) = gb x + gb y ∧ bb (x &&& y) + bb (x ||| y) = bb x + bb y := by decide
theorem Steps.bits {ds es : List Nat} {n : Nat} (h : Steps ds es n) (hl : ∀ c ∈ ds, c < 8) : sumBy rb es = sumBy rb ds ∧ sumBy gb es = sumBy gb ds ∧ sumBy bb es = sumBy bb ds := by
  induction h with
  | zero => exact ⟨rfl, rfl, rfl⟩
  | @succ es n k x y h hx hy hw ih =>
    obtain ⟨h1, h2⟩ := h.keeps hl
    obtain ⟨a, b, c⟩ := bits_and_or x (h2 x (List.mem_of_getElem? hx)) y (h2 y (List.mem_of_getElem? hy))
    rw [rp2_sum_eq rb _ _ _ _ a, rp2_sum_eq gb _ _ _ _ b, rp2_sum_eq bb _ _ _ _ c]
    exact ih
theorem Steps.price {ds es : List Nat} {n : Nat} (h : Steps ds es n) (hl : ∀ c ∈ ds, c < 8) (f : Nat → Int) (hf : ∀ x < 8, ∀ y < 8, f (x &&& y) + f (x ||| y) ≤ f x + f y) : sumBy f es ≤ sumBy f ds := by
  induction h with
  | zero => exact Int.le_refl _
  | @succ es n k x y h hx hy hw ih =>
    obtain ⟨h1, h2⟩ := h.keeps hl
    exact Int.le_trans (rp2_sum f _ _ _ _ (hf x (h2 x (List.mem_of_getElem? hx)) y (h2 y (List.mem_of_getElem? hy))) es) ih

/-- the places' weight -/
def posF (f : Nat → Int) : Int → List Nat → Int
  | _, [] => 0
  | k, c :: r => k * f c + posF f (k + 1) r
theorem rp2_pos (f : Nat → Int) (p q u v : Nat) (h : f u + f v = f p + f q) (h2 : f q ≤ f v) : ∀ (l : List Nat) (k : Int), posF f k l ≤ posF f k (rp2 p q u v l)
  | [], _ => Int.le_refl _
  | [a], _ => Int.le_refl _
  | a :: b :: r, k => by
    rw [rp2]
    split
    · rename_i e
      obtain ⟨rfl, rfl⟩ := e
      have := rp2_pos f a b u v h h2 r (k + 1 + 1)
      simp only [posF] at this ⊢
      have e : k * f u + k * f v = k * f a + k * f b := by rw [← Int.mul_add, ← Int.mul_add, h]
      rw [Int.add_mul, Int.add_mul, Int.one_mul, Int.one_mul]
      omega
    · have := rp2_pos f p q u v h h2 (b :: r) (k + 1)
      simp only [posF] at this ⊢
      omega
theorem rp2_pos_lt (f : Nat → Int) (p q u v : Nat) (h : f u + f v = f p + f q) (h2 : f q < f v) : ∀ (l : List Nat) (k : Int) (i : Nat), l[i]? = some p → l[i + 1]? = some q → posF f k l < posF f k (rp2 p q u v l)
  | [], _, i, h1, _ => by simp at h1
  | [a], _, i, _, h2 => by simp at h2
  | a :: b :: r, k, i, hp, hq => by
    rw [rp2]
    split
    · rename_i e
      obtain ⟨rfl, rfl⟩ := e
      have := rp2_pos f a b u v h (Int.le_of_lt h2) r (k + 1 + 1)
      simp only [posF] at this ⊢
      have e : k * f u + k * f v = k * f a + k * f b := by rw [← Int.mul_add, ← Int.mul_add, h]
      rw [Int.add_mul, Int.add_mul, Int.one_mul, Int.one_mul]
      omega
    · rename_i hne
      cases i with
      | zero => exact absurd ⟨by simpa using hp, by simpa using hq⟩ hne
      | succ i =>
        have := rp2_pos_lt f p q u v h h2 (b :: r) (k + 1) i (by simpa using hp) (by simpa using hq)
        simp only [posF] at this ⊢
        omega
def pc (c : Nat) : Int := rb c + gb c + bb c
theorem pc_and_or : ∀ x < 8, ∀ y < 8, x &&& y ≠ x → pc (x &&& y) + pc (x ||| y) = pc x + pc y ∧ pc y < pc (x ||| y) := by decide
theorem Steps.grows {ds es : List Nat} {n : Nat} (h : Steps ds es n) (hl : ∀ c ∈ ds, c < 8) : posF pc 0 ds + n ≤ posF pc 0 es := by
  induction h with
  | zero => simp
  | @succ es n k x y h hx hy hw ih =>
    obtain ⟨h1, h2⟩ := h.keeps hl
    obtain ⟨a, b⟩ := pc_and_or x (h2 x (List.mem_of_getElem? hx)) y (h2 y (List.mem_of_getElem? hy)) hw
    have := rp2_pos_lt pc _ _ _ _ a b es 0 k hx hy
    have := ih
    omega
theorem seven {α : Type} {l : List α} (h : l.length = 7) : ∃ a b c d e f g, l = [a, b, c, d, e, f, g] := by
  match l, h with
  | [a, b, c, d, e, f, g], _ => exact ⟨a, b, c, d, e, f, g, rfl⟩
theorem bit01 : ∀ c < 8, (0 ≤ rb c ∧ rb c ≤ 1) ∧ (0 ≤ gb c ∧ gb c ≤ 1) ∧ (0 ≤ bb c ∧ bb c ≤ 1) := by decide
theorem pos_split (l : List Nat) : ∀ k, posF pc k l = posF rb k l + posF gb k l + posF bb k l := by
  induction l with
  | nil => intro k; rfl
  | cons c r ih => intro k; simp only [posF, ih, pc, Int.mul_add]; omega

theorem lin_near {a0 a1 a2 a3 a4 a5 a6 b0 b1 b2 b3 b4 b5 b6 : Int} (hs : b0 + (b1 + (b2 + (b3 + (b4 + (b5 + (b6 + 0)))))) = a0 + (a1 + (a2 + (a3 + (a4 + (a5 + (a6 + 0))))))) :
    0 * b0 + ((0 + 1) * b1 + ((0 + 1 + 1) * b2 + ((0 + 1 + 1 + 1) * b3 + ((0 + 1 + 1 + 1 + 1) * b4 + ((0 + 1 + 1 + 1 + 1 + 1) * b5 + ((0 + 1 + 1 + 1 + 1 + 1 + 1) * b6 + 0)))))) =
    0 * a0 + ((0 + 1) * a1 + ((0 + 1 + 1) * a2 + ((0 + 1 + 1 + 1) * a3 + ((0 + 1 + 1 + 1 + 1) * a4 + ((0 + 1 + 1 + 1 + 1 + 1) * a5 + ((0 + 1 + 1 + 1 + 1 + 1 + 1) * a6 + 0)))))) +
      (3 * (a0 - b0) + 2 * (a1 - b1) + (a2 - b2) + (b4 - a4) + 2 * (b5 - a5) + 3 * (b6 - a6)) := by omega
theorem le1 {x y : Int} (h : x ≤ 1) (h' : 0 ≤ y) : x - y ≤ 1 := by omega
theorem pos_near (f : Nat → Int) {ds es : List Nat} (hd : ds.length = 7) (he : es.length = 7) (h01 : ∀ c ∈ ds, 0 ≤ f c ∧ f c ≤ 1) (h01' : ∀ c ∈ es, 0 ≤ f c ∧ f c ≤ 1) (hs : sumBy f es = sumBy f ds) : posF f 0 es ≤ posF f 0 ds + 12 := by
  obtain ⟨a, b, c, d, e, f', g, rfl⟩ := seven hd
  obtain ⟨a', b', c', d', e', f'', g', rfl⟩ := seven he
  simp only [List.forall_mem_cons] at h01 h01'
  obtain ⟨p0, p1, p2, p3, p4, p5, p6, _⟩ := h01
  obtain ⟨q0, q1, q2, q3, q4, q5, q6, _⟩ := h01'
  have hl := lin_near hs
  show 0 * f a' + ((0 + 1) * f b' + ((0 + 1 + 1) * f c' + ((0 + 1 + 1 + 1) * f d' + ((0 + 1 + 1 + 1 + 1) * f e' + ((0 + 1 + 1 + 1 + 1 + 1) * f f'' + ((0 + 1 + 1 + 1 + 1 + 1 + 1) * f g' + 0)))))) ≤
    0 * f a + ((0 + 1) * f b + ((0 + 1 + 1) * f c + ((0 + 1 + 1 + 1) * f d + ((0 + 1 + 1 + 1 + 1) * f e + ((0 + 1 + 1 + 1 + 1 + 1) * f f' + ((0 + 1 + 1 + 1 + 1 + 1 + 1) * f g + 0)))))) + 12
  rw [hl]
  have t0 : f a - f a' ≤ 1 := le1 p0.2 q0.1
  have t1 : f b - f b' ≤ 1 := le1 p1.2 q1.1
  have t2 : f c - f c' ≤ 1 := le1 p2.2 q2.1
  have t4 : f e' - f e ≤ 1 := le1 q4.2 p4.1
  have t5 : f f'' - f f' ≤ 1 := le1 q5.2 p5.1
  have t6 : f g' - f g ≤ 1 := le1 q6.2 p6.1
  generalize f a - f a' = x0 at *
  generalize f b - f b' = x1 at *
  generalize f c - f c' = x2 at *
  generalize f e' - f e = x4 at *
  generalize f f'' - f f' = x5 at *
  generalize f g' - f g = x6 at *
  clear p0 p1 p2 p3 p4 p5 p6 q0 q1 q2 q3 q4 q5 q6 hl hs
  refine Int.add_le_add_left ?_ _
  omega
theorem Steps.few {ds es : List Nat} {n : Nat} (h : Steps ds es n) (hl : ∀ c ∈ ds, c < 8) (h7 : ds.length = 7) : n ≤ 36 := by
  have g := h.grows hl
  obtain ⟨k1, k2⟩ := h.keeps hl
  obtain ⟨b1, b2, b3⟩ := h.bits hl
  have p1 := pos_near rb h7 (k1.trans h7) (fun c hc => (bit01 c (hl c hc)).1) (fun c hc => (bit01 c (k2 c hc)).1) b1
  have p2 := pos_near gb h7 (k1.trans h7) (fun c hc => (bit01 c (hl c hc)).2.1) (fun c hc => (bit01 c (k2 c hc)).2.1) b2
  have p3 := pos_near bb h7 (k1.trans h7) (fun c hc => (bit01 c (hl c hc)).2.2) (fun c hc => (bit01 c (k2 c hc)).2.2) b3
  rw [pos_split, pos_split] at g
  omega

/-- the row of r, g, b units of red, green and blue, straightened -/
def srt (r g b : Nat) : List Nat := (List.range 7).map fun i => (if 7 ≤ i + r then 4 else 0) + (if 7 ≤ i + g then 2 else 0) + (if 7 ≤ i + b then 1 else 0)
theorem within_bits : ∀ x < 8, ∀ y < 8, x &&& y = x → rb x ≤ rb y ∧ gb x ≤ gb y ∧ bb x ≤ bb y := by decide
theorem code_bits : ∀ c : Nat, c < 8 → (c : Int) = 4 * rb c + 2 * gb c + bb c := by decide
theorem thr (x : Nat → Int) : ∀ n : Nat, (∀ i < n, x i = 0 ∨ x i = 1) → (∀ i, i + 1 < n → x i ≤ x (i + 1)) → ∃ k, k ≤ n ∧ ∀ i < n, x i = if k ≤ i then 1 else 0
  | 0, _, _ => ⟨0, Nat.le_refl _, fun _ h => absurd h (Nat.not_lt_zero _)⟩
  | n + 1, h1, h2 => by
    obtain ⟨k, hk, hx⟩ := thr x n (fun i hi => h1 i (Nat.lt_succ_of_lt hi)) (fun i hi => h2 i (Nat.lt_succ_of_lt hi))
    rcases h1 n (Nat.lt_succ_self n) with h0 | h0
    · refine ⟨n + 1, Nat.le_refl _, fun i hi => ?_⟩
      rw [if_neg (Nat.not_le_of_lt hi)]
      rcases Nat.lt_succ_iff_lt_or_eq.mp hi with hi | rfl
      · rw [hx i hi]
        refine if_neg fun hki => ?_
        obtain ⟨p, rfl⟩ : ∃ p, n = p + 1 := ⟨n - 1, (Nat.succ_pred_eq_of_pos (Nat.lt_of_le_of_lt (Nat.zero_le _) hi)).symm⟩
        have e := hx p (Nat.lt_succ_self p)
        rw [if_pos (Nat.le_trans hki (Nat.le_of_lt_succ hi))] at e
        have := h2 p (Nat.lt_succ_self _)
        rw [e, h0] at this
        exact absurd this (by decide)
      · exact h0
    · refine ⟨k, Nat.le_succ_of_le hk, fun i hi => ?_⟩
      rcases Nat.lt_succ_iff_lt_or_eq.mp hi with hi | rfl
      · exact hx i hi
      · rw [if_pos hk]; exact h0
theorem thr_sum : ∀ k ≤ 7, ∀ s ≤ 7, (if k ≤ 0 then (1 : Int) else 0) + ((if k ≤ 1 then 1 else 0) + ((if k ≤ 2 then 1 else 0) + ((if k ≤ 3 then 1 else 0) + ((if k ≤ 4 then 1 else 0) + ((if k ≤ 5 then 1 else 0) + ((if k ≤ 6 then 1 else 0) + 0)))))) = ((s : Nat) : Int) → ∀ i < 7, (k ≤ i ↔ 7 ≤ i + s) := by decide
theorem thr_le : ∀ k ≤ 7, (if k ≤ 0 then (1 : Int) else 0) + ((if k ≤ 1 then 1 else 0) + ((if k ≤ 2 then 1 else 0) + ((if k ≤ 3 then 1 else 0) + ((if k ≤ 4 then 1 else 0) + ((if k ≤ 5 then 1 else 0) + ((if k ≤ 6 then 1 else 0) + 0)))))) ≤ 7 := by decide
theorem bit_of {x a b : Int} (h0 : 0 ≤ a) (h1 : a ≤ x) (h2 : x ≤ b) (h3 : b ≤ 1) : x = 0 ∨ x = 1 := by omega
theorem mono01 {x0 x1 x2 x3 x4 x5 x6 : Int} {s : Nat} (h0 : 0 ≤ x0) (h6 : x6 ≤ 1) (i0 : x0 ≤ x1) (i1 : x1 ≤ x2) (i2 : x2 ≤ x3) (i3 : x3 ≤ x4) (i4 : x4 ≤ x5) (i5 : x5 ≤ x6) (hs : x0 + (x1 + (x2 + (x3 + (x4 + (x5 + (x6 + 0)))))) = s) :
    x0 = (if 7 ≤ 0 + s then 1 else 0) ∧ x1 = (if 7 ≤ 1 + s then 1 else 0) ∧ x2 = (if 7 ≤ 2 + s then 1 else 0) ∧ x3 = (if 7 ≤ 3 + s then 1 else 0) ∧ x4 = (if 7 ≤ 4 + s then 1 else 0) ∧ x5 = (if 7 ≤ 5 + s then 1 else 0) ∧ x6 = (if 7 ≤ 6 + s then 1 else 0) := by
  have j1 := Int.le_trans i0 i1
  have j2 := Int.le_trans j1 i2
  have j3 := Int.le_trans j2 i3
  have j4 := Int.le_trans j3 i4
  have j5 := Int.le_trans j4 i5
  have g4 := Int.le_trans i4 i5
  have g3 := Int.le_trans i3 g4
  have g2 := Int.le_trans i2 g3
  have g1 := Int.le_trans i1 g2
  obtain ⟨k, hk, hx⟩ := thr (fun i => [x0, x1, x2, x3, x4, x5, x6].getD i 0) 7 (fun i hi => by
    match i, hi with
    | 0, _ => exact bit_of h0 (Int.le_refl _) j5 h6
    | 1, _ => exact bit_of h0 i0 g1 h6
    | 2, _ => exact bit_of h0 j1 g2 h6
    | 3, _ => exact bit_of h0 j2 g3 h6
    | 4, _ => exact bit_of h0 j3 g4 h6
    | 5, _ => exact bit_of h0 j4 i5 h6
    | 6, _ => exact bit_of h0 j5 (Int.le_refl _) h6) (fun i hi => by
    match i, hi with
    | 0, _ => exact i0
    | 1, _ => exact i1
    | 2, _ => exact i2
    | 3, _ => exact i3
    | 4, _ => exact i4
    | 5, _ => exact i5)
  obtain rfl : x0 = _ := hx 0 (by decide)
  obtain rfl : x1 = _ := hx 1 (by decide)
  obtain rfl : x2 = _ := hx 2 (by decide)
  obtain rfl : x3 = _ := hx 3 (by decide)
  obtain rfl : x4 = _ := hx 4 (by decide)
  obtain rfl : x5 = _ := hx 5 (by decide)
  obtain rfl : x6 = _ := hx 6 (by decide)
  have hs7 : s ≤ 7 := by have := thr_le k hk; rw [hs] at this; omega
  have hi := thr_sum k hk s hs7 hs
  simp only [hi 0 (by decide), hi 1 (by decide), hi 2 (by decide), hi 3 (by decide), hi 4 (by decide), hi 5 (by decide), hi 6 (by decide)]
  exact ⟨trivial, trivial, trivial, trivial, trivial, trivial, trivial⟩
theorem code_of {a i r g b : Nat} (h : (a : Int) = 4 * (if 7 ≤ i + r then 1 else 0) + 2 * (if 7 ≤ i + g then 1 else 0) + (if 7 ≤ i + b then 1 else 0)) :
    a = (if 7 ≤ i + r then 4 else 0) + (if 7 ≤ i + g then 2 else 0) + (if 7 ≤ i + b then 1 else 0) := by
  by_cases h1 : 7 ≤ i + r <;> by_cases h2 : 7 ≤ i + g <;> by_cases h3 : 7 ≤ i + b <;> simp only [h1, h2, h3, if_true, if_false] at h ⊢ <;> omega
theorem straight_is {es : List Nat} (h7 : es.length = 7) (hl : ∀ c ∈ es, c < 8) (hw : ∀ k x y, es[k]? = some x → es[k + 1]? = some y → ¬ wrong x y) {r g b : Nat} (hr : sumBy rb es = r) (hg : sumBy gb es = g) (hb : sumBy bb es = b) : es = srt r g b := by
  obtain ⟨a0, a1, a2, a3, a4, a5, a6, rfl⟩ := seven h7
  simp only [List.forall_mem_cons] at hl
  obtain ⟨l0, l1, l2, l3, l4, l5, l6, _⟩ := hl
  have w0 := within_bits _ l0 _ l1 (Decidable.not_not.mp (hw 0 a0 a1 rfl rfl))
  have w1 := within_bits _ l1 _ l2 (Decidable.not_not.mp (hw 1 a1 a2 rfl rfl))
  have w2 := within_bits _ l2 _ l3 (Decidable.not_not.mp (hw 2 a2 a3 rfl rfl))
  have w3 := within_bits _ l3 _ l4 (Decidable.not_not.mp (hw 3 a3 a4 rfl rfl))
  have w4 := within_bits _ l4 _ l5 (Decidable.not_not.mp (hw 4 a4 a5 rfl rfl))
  have w5 := within_bits _ l5 _ l6 (Decidable.not_not.mp (hw 5 a5 a6 rfl rfl))
  have b0 := bit01 _ l0
  have b6 := bit01 _ l6
  obtain ⟨r0, r1, r2, r3, r4, r5, r6⟩ := mono01 b0.1.1 b6.1.2 w0.1 w1.1 w2.1 w3.1 w4.1 w5.1 hr
  obtain ⟨g0, g1, g2, g3, g4, g5, g6⟩ := mono01 b0.2.1.1 b6.2.1.2 w0.2.1 w1.2.1 w2.2.1 w3.2.1 w4.2.1 w5.2.1 hg
  obtain ⟨q0, q1, q2, q3, q4, q5, q6⟩ := mono01 b0.2.2.1 b6.2.2.2 w0.2.2 w1.2.2 w2.2.2 w3.2.2 w4.2.2 w5.2.2 hb
  have e0 := code_of (i := 0) ((code_bits a0 l0).trans (by rw [r0, g0, q0]))
  have e1 := code_of (i := 1) ((code_bits a1 l1).trans (by rw [r1, g1, q1]))
  have e2 := code_of (i := 2) ((code_bits a2 l2).trans (by rw [r2, g2, q2]))
  have e3 := code_of (i := 3) ((code_bits a3 l3).trans (by rw [r3, g3, q3]))
  have e4 := code_of (i := 4) ((code_bits a4 l4).trans (by rw [r4, g4, q4]))
  have e5 := code_of (i := 5) ((code_bits a5 l5).trans (by rw [r5, g5, q5]))
  have e6 := code_of (i := 6) ((code_bits a6 l6).trans (by rw [r6, g6, q6]))
  show [a0, a1, a2, a3, a4, a5, a6] = [_, _, _, _, _, _, _]
  simp only [List.cons.injEq, and_true]
  exact ⟨e0, e1, e2, e3, e4, e5, e6⟩
end Mine
end

section
open PySem PySem.W PySem.Spec PySem.Calls PyProof.Rows PyProof.V
namespace Mine
local macro_rules | `(tactic| walk_at "none such") => `(tactic| fail)
theorem quiet_C5 : True := by w_top off; trivial

/-- the table of the pairs -/
def PairsAt (w : World) (news : List (Addr × Obj)) (aP : Addr) : Prop :=
  (aP == sysModules) = false ∧ ∃ oP kvP, (aP, oP) ∈ news ∧ oP.IsDictOf (sk w) kvP ∧ ∀ x < 8, ∀ y < 8, if wrong x y then ∃ t, valueAt kvP (txt [x, y]) = some (.str (txt [x &&& y, x ||| y]) t) else valueAt kvP (txt [x, y]) = none

theorem wr_succ_yes {es : List Nat} {j x y : Nat} (hx : es[j]? = some x) (hy : es[j + 1]? = some y) (hw : wrong x y) : wr es (j + 1) = wr es j ++ [txt [x, y]] := by
  rw [wr, List.range_succ, List.filterMap_append]
  simp only [List.filterMap_cons, List.filterMap_nil, hx, hy]
  rw [if_pos hw]; rfl
theorem wr_succ_no {es : List Nat} {j x y : Nat} (hx : es[j]? = some x) (hy : es[j + 1]? = some y) (hw : ¬ wrong x y) : wr es (j + 1) = wr es j := by
  rw [wr, List.range_succ, List.filterMap_append]
  simp only [List.filterMap_cons, List.filterMap_nil, hx, hy]
  rw [if_neg hw]
  simp [wr]
theorem strsAre_snoc {vs : List Value} {ys : List Str} (h : StrsAre vs ys) (y : Str) (t : Tok) : StrsAre (vs ++ [.str y t]) (ys ++ [y]) := by
  induction h with
  | nil => exact .cons y t .nil
  | cons z u _ ih => exact .cons z u ih
theorem strs_wr_yes {es : List Nat} {ys : List Value} {j x y : Nat} {t : Tok} (h : StrsAre ys (wr es j)) (hx : es[j]? = some x) (hy : es[j + 1]? = some y) (hw : wrong x y) : StrsAre (ys ++ [.str (txt [x, y]) t]) (wr es (j + 1)) := by
  rw [wr_succ_yes hx hy hw]; exact strsAre_snoc h _ _
theorem strs_wr_no {es : List Nat} {ys : List Value} {j x y : Nat} (h : StrsAre ys (wr es j)) (hx : es[j]? = some x) (hy : es[j + 1]? = some y) (hw : ¬ wrong x y) : StrsAre ys (wr es (j + 1)) := by
  rw [wr_succ_no hx hy hw]; exact h

theorem wr_mem {es : List Nat} : ∀ {i : Nat} {z : Str}, z ∈ wr es i → ∃ k x y, k < i ∧ es[k]? = some x ∧ es[k + 1]? = some y ∧ wrong x y ∧ z = txt [x, y] := by
  intro i z h
  obtain ⟨k, hk, e⟩ := List.mem_filterMap.mp h
  rw [List.mem_range] at hk
  cases hx : es[k]? with
  | none => rw [hx] at e; cases e
  | some x =>
    cases hy : es[k + 1]? with
    | none => rw [hx, hy] at e; cases e
    | some y =>
      rw [hx, hy] at e
      dsimp only at e
      by_cases hw : x &&& y ≠ x
      · rw [if_pos hw] at e; exact ⟨k, x, y, hk, hx, hy, hw, (Option.some.inj e).symm⟩
      · rw [if_neg hw] at e; cases e
theorem strsAre_length {vs : List Value} {ts : List Str} (h : StrsAre vs ts) : vs.length = ts.length := by
  induction h with
  | nil => rfl
  | cons _ _ _ ih => simp [ih]
theorem wr_length (es : List Nat) (i : Nat) : (wr es i).length ≤ i := by
  have := List.length_filterMap_le (fun k => match es[k]?, es[k + 1]? with
    | some x, some y => if x &&& y ≠ x then some (txt [x, y]) else none
    | _, _ => none) (List.range i)
  rw [List.length_range] at this
  exact this
theorem fmod_in (a : Int) {b : Int} (hb : 0 < b) : 0 ≤ a.fmod b ∧ a.fmod b < b := ⟨Int.fmod_nonneg_of_pos a hb, Int.fmod_lt_of_pos a hb⟩
theorem wr_nil {es : List Nat} (h : wr es 6 = []) (h7 : es.length = 7) : ∀ k x y, es[k]? = some x → es[k + 1]? = some y → ¬ wrong x y := by
  intro k x y hx hy hw
  have hlt := (List.getElem?_eq_some_iff.mp hy).1
  have : txt [x, y] ∈ wr es 6 := List.mem_filterMap.mpr ⟨k, List.mem_range.mpr (by omega), by rw [hx, hy]; exact if_pos hw⟩
  rw [h] at this; cases this
theorem txt_ok {cs : List Nat} (h : ∀ c ∈ cs, c < 8) : PyData.strOk (txt cs) = true := by
  show (txt cs).cps.all (· < 0x110000) = true
  rw [← Array.all_toList]
  exact List.all_eq_true.mpr fun c hc => decide_eq_true (Nat.lt_trans (txt_low h c hc) (by decide))
theorem wr_ok {es : List Nat} (h : ∀ c ∈ es, c < 8) (i : Nat) : ∀ z ∈ wr es i, PyData.strOk z = true := by
  intro z hz
  obtain ⟨k, x, y, _, hx, hy, _, rfl⟩ := wr_mem hz
  refine txt_ok fun c hc => ?_
  rcases List.mem_cons.mp hc with rfl | hc
  · exact h _ (List.mem_of_getElem? hx)
  · rw [List.mem_singleton.mp hc]; exact h _ (List.mem_of_getElem? hy)
theorem carried_strs : ∀ {vs : List Value} {ts : List Str}, StrsAre vs ts → CarriedAll vs (ts.map PyData.str)
  | _, _, .nil => .nil
  | _, _, .cons _ t r => .cons (.str _ t) (carried_strs r)
theorem strs_shaped {ts : List Str} (h : ∀ x ∈ ts, PyData.strOk x = true) : SeqAt.shaped (.list (ts.map PyData.str)) = true := by
  have h1 : PyData.canLayAll0 (ts.map PyData.str) = true := by
    induction ts with
    | nil => rfl
    | cons a r ih =>
      simp only [List.map_cons, PyData.canLayAll0, PyData.canLay0, h a (.head _), Bool.true_and]
      exact ih fun x hx => h x (.tail _ hx)
  have h2 : PyData.depthAll (ts.map PyData.str) = 0 := by
    clear h h1
    induction ts with
    | nil => rfl
    | cons a r ih => simp [PyData.depthAll, PyData.depth, ih]
  simp [SeqAt.shaped, PyData.canLay0, h1, PyData.depth, h2]
theorem eq_nil {prog : Program} {w : World} {A : Around} {E : Value → Shared → Prop} {s : Shared} {a b : Addr} {vs : List Value} {ts : List Str} {Q : Value → Shared → Prop} (ha : s.heap.IsList a vs.toArray) (hb : s.heap.IsList b #[]) (hv : StrsAre vs ts) (hok : ∀ x ∈ ts, PyData.strOk x = true)
    (hu : A.units + 64 < cLine) (h : Q (.bool ts.isEmpty) s) : wpAny (model prog w) A (compareOp .Eq (.ref a) (.ref b)) Q E s := by
  refine eq_dataH (reads_newData ha (carried_strs hv)) (reads_newData (ys := []) hb .nil) (strs_shaped hok) rfl hu ?_
  cases ts with
  | nil => exact h
  | cons x r => exact h

/-- the loop's word -/
inductive J5 (ds : List Nat) (aK : Addr) (cP : Addr × Obj) (aR : Addr) (news : List (Addr × Obj)) (i : Nat) (m₁ : Str → Option Value) (nw : List (Addr × Obj)) : Prop
  | mk : m₁ (Str.ofString "picks") = some (.ref aK) → ∀ (es : List Nat) (t : Tok) (oc : Obj), Steps ds es i → oc.data = .cell (some (.str (txt es) t)) → nw = cP :: (aR, oc) :: news → J5 ds aK cP aR news i m₁ nw
theorem hold_nm (l : List String) {M : Model} {A : Around} {E : Value → Shared → Prop} {s : Shared} {env : Env} {x : Str} {v : Value} {Q : Unit → Shared → Prop} (hx : (l.any fun n => x == Str.ofString n) = true) (h : Hold (wpAny M A (storeName env x v) Q E s)) : wpAny M A (storeName env x v) Q E s := h
local macro_rules | `(tactic| walk_at $s:str) => if ["exec For Name Call cons nil", "pyIter ref", "compareOp Eq ref ref", "call ref", "call builtin:len", "binaryOp Mod int int", "subscriptTail Name BinOp ref int", "subscriptTail Name Name ref str", "CompSrcT", "exec Assign cons ListComp"].contains s.getString then `(tactic| refine Hold.out ?_) else Lean.Macro.throwUnsupported
local macro_rules | `(tactic| walk_at "storeName") => `(tactic| refine hold_nm ["row"] (by decide) ?_)
set_option maxRecDepth 100000 in
set_option maxHeartbeats 8000000 in
theorem straight_c (w : World) (s₀ : Shared) (mg mb : Str → Option Value) (ds : List Nat) (td : Tok) (aP aK : Addr) (vsK : List Value) (nK : Nat) (ns : List Int) (news : List (Addr × Obj))
  (hds : ∀ c ∈ ds, c < 8) (hlen : ds.length = 7) (hP : PairsAt w news aP) (hK : (aK, ({ cls := .type "list", data := .seq vsK.toArray nK } : Obj)) ∈ news) (hns : IntsAre vsK ns) (hne : 0 < ns.length) (hns64 : ns.length ≤ 64) :
  Ctc w s₀ mg mb 10 82 [.str (txt ds) td, .ref aP, .ref aK] news fun v tl => ∃ es n t, Steps ds es n ∧ (∀ k x y, es[k]? = some x → es[k + 1]? = some y → ¬ wrong x y) ∧ v = .str (txt es) t ∧ tl = [] := by
  intro dp un gd cn cs a ccd cl outer A₀ base h₀ L m s Q E B F X N T hk hdp hu ret
  revert X; k_fill; intro X
  refine wpAny_call ?_
  k_dflt (refine' code_defC ?k1 ?k2 ?k3 ?k4 ?k5 ?kA ?kF ?kK ?k6 ?k7 ?k8 ?k9 ?kB ?kD ?_ ?c2 ?c3 ?c4; (case kA => exact rfl); (case kF => exact rfl); (case kK => assumption); (case k1 => k_asm); (case k2 => k_asm); (case k3 => k_asm); (case k4 => k_asm); (case k5 => k_asm); (case k6 => k_is); (case k7 => k_is); (case k8 => ktr_room); (case k9 => exact BindsTo.of_eq rfl); (case kB => exact rfl); (case kD => decide +kernel); (case c2 => exact rfl); (case c3 => exact rfl); (case c4 => exact rfl); k_whole; intro g' L' h' tk' cells' FG' F' N' Y' B' X' T' l1)
  (try k_lt l1); k_cells Y'; (try simp only [List.cons_append, List.nil_append] at N'); (try dsimp only); (try k_lift B'); (try k_fold)
  rename_i oP oR dP' dR'
  have dP : oP.data = .cell (some (.ref aP)) := dP'
  have dR : oR.data = .cell (some (.str (txt ds) td)) := dR'
  clear dP' dR'
  obtain ⟨mm, F1⟩ := frArgs1 (Str.ofString "picks") F' rfl
  clear F'
  try dsimp only
  k_steps
  unfold Hold
  refine For_turns F1 ?_ (by intro _; rfl) (by passes_own)
  try dsimp only
  k_steps
  unfold Hold
  rename_i hR tkR t1 t2 t3 hIR FR NR hup
  obtain ⟨hPl, oPd, kvP, hPm, hPd, hPv⟩ := hP
  refine iter_range (n := 40) (J5 ds aK (L' + 1 + 1, oP) (L' + 1) news) rfl FR NR hIR (by decide) (by rfl) rfl rfl ⟨rfl, ds, td, oR, .zero ds, dR, rfl⟩ ?_ ?_
  · rintro i u m₁ news₁ h₁ tk₁ own I hi ⟨e1, es, t, oc, hst, hoc, rfl⟩ hoff hown ⟨oI, hin⟩ F₁ N₁
    have F₂ := frKnow (a := Str.ofString "picks") F₁ e1
    clear F₁ FR NR
    have N₂ : News _ _ _ ((L' + 1 + 1, oP) :: (L' + 1, oc) :: (own ++ news)) := news_sub N₁ (by
      intro p hp
      rcases List.mem_cons.mp hp with rfl | hp
      · exact List.mem_append_right _ (.head _)
      · rcases List.mem_cons.mp hp with rfl | hp
        · exact List.mem_append_right _ (.tail _ (.head _))
        · rcases List.mem_append.mp hp with hp | hp
          · exact List.mem_append_left _ hp
          · exact List.mem_append_right _ (.tail _ (.tail _ hp)))
    clear N₁
    try dsimp only
    k_steps
    unfold Hold
    k_dflt (refine LCt.Assign_ListComp_T (F₀ := F₂) (by rfl) (by with_unfolding_all rfl) (by with_unfolding_all rfl) (by decide) (by rfl) (by decide) (by rfl) (by rfl) (by rfl) ?_)
    try dsimp only
    k_steps
    unfold Hold
    rename_i hC tkC tc1 tc2 tc3 hIC FC NC hupC
    refine LCt.CompSrcT.range (n := 6) rfl FC NC hIC (by decide) (by rfl) (by decide +kernel) fun g9 => ?_
    refine restT_inv (n := 6) (fun i ys => StrsAre ys (wr es i)) trivial ?_ ?_ 6 0 [] rfl .nil
    · rintro j ys v I2 oI2 C2 oC2 D2 m₂ h2 tk2 E2 hj hys ⟨tv, rfl⟩ hC2 hk2 F3 N3 off3 ne3
      clear FC NC hIC hupC
      obtain ⟨hes7, hes8⟩ := hst.keeps hds
      have hel : (txt es).length ≤ 1048576 := by rw [txt_length]; omega
      obtain ⟨x, hx⟩ : ∃ x, es[j]? = some x := ⟨es[j], by simp [List.getElem?_eq_getElem (show j < es.length by omega)]⟩
      obtain ⟨y, hy⟩ : ∃ y, es[j + 1]? = some y := ⟨es[j + 1], by simp [List.getElem?_eq_getElem (show j + 1 < es.length by omega)]⟩
      have esl : Txt.slice (txt es) (some (0 + (j : Int))) (some (0 + (j : Int) + 2)) = txt [x, y] := by rw [Int.zero_add]; exact slice_txt hx hy
      have hx8 := hes8 x (List.mem_of_getElem? hx)
      have hy8 := hes8 y (List.mem_of_getElem? hy)
      have hval := hPv x hx8 y hy8
      try dsimp only
      k_steps
      rename_i hA1 tA1 kA1 FA1 NA1 hlenA1
      rw [esl]
      clear hlenA1
      by_cases hwr : wrong x y
      · rw [if_pos hwr] at hval
        obtain ⟨tv2, hval⟩ := hval
        refine kda_in (knd := sk w) NA1 (.tail _ (.tail _ (.tail _ (.tail _ (.tail _ (List.mem_append_right _ hPm)))))) hPd hPl (k := txt [x, y]) (strKind_is _ _ _ _) true (by rw [hval]; rfl) ?_
        try dsimp only
        k_steps
        rename_i hA2 tA2 kA2 FA2 NA2 hlenA2
        refine CBack.intro FA2 NA2 ?_
        rw [esl]
        exact strs_wr_yes hys hx hy hwr
      · rw [if_neg hwr] at hval
        refine kda_in (knd := sk w) NA1 (.tail _ (.tail _ (.tail _ (.tail _ (.tail _ (List.mem_append_right _ hPm)))))) hPd hPl (k := txt [x, y]) (strKind_is _ _ _ _) false (by rw [hval]; rfl) ?_
        try dsimp only
        k_steps
        exact CBack.intro FA1 NA1 (strs_wr_no hys hx hy hwr)
    · intro ys hys D9 h9 tk9 F9 N9 off9
      obtain ⟨hes7, hes8⟩ := hst.keeps hds
      try dsimp only
      k_steps
      unfold Hold
      rename_i l9 h10 F10 N10 l10
      refine eq_nil (vs := ys) ⟨_, (N10 _ (.tail _ (.head _))).1, rfl, _, rfl⟩ ⟨_, (N10 _ (.head _)).1, rfl, _, rfl⟩ hys (wr_ok hes8 6) ?_ ?_
      · show un + 3 + 64 < cLine; omega
      cases hwr : wr es 6 with
      | nil =>
        simp only [List.isEmpty_nil]
        try dsimp only
        k_steps
        refine LoopStepV.ret ?_
        try dsimp only
        k_steps
        rename_i kF kN _ _
        exact ret _ [] _ _ ⟨es, i, t, hst, wr_nil hwr (hes7.trans hlen), rfl, rfl⟩ (fun _ _ _ h => nomatch h) kF (news_sub kN fun p hp => .tail _ (.tail _ (.tail _ (.tail _ (List.mem_append_right _ hp)))))
      | cons z r =>
        simp only [List.isEmpty_cons]
        have hpK : (aK, ({ cls := .type "list", data := .seq vsK.toArray nK } : Obj)) ∈ (l9, ({ cls := .type "list", data := .seq #[] } : Obj)) :: (D9, LCg.lst ys) :: (L' + 1 + 1, oP) :: (L' + 1, oc) :: (own ++ news) := .tail _ (.tail _ (.tail _ (.tail _ (List.mem_append_right _ hK))))
        have hlK : h10.IsList aK vsK.toArray := ⟨_, (N10 _ hpK).1, rfl, _, rfl⟩
        have hlW : h10.IsList D9 ys.toArray := ⟨_, (N10 _ (.tail _ (.head _))).1, rfl, _, rfl⟩
        have hvl := hns.length
        have hyl : ys.length = (wr es 6).length := strsAre_length hys
        have hyp : 0 < (wr es 6).length := by rw [hwr]; simp
        try dsimp only
        k_steps
        unfold Hold
        refine len_list hlK (by rw [List.size_toArray]; omega) ?_
        try dsimp only
        k_steps
        unfold Hold
        have hn0 : ((vsK.toArray.size : Nat) : Int) ≠ 0 := by rw [List.size_toArray]; omega
        refine mod_int' hn0 ?_
        try dsimp only
        k_steps
        unfold Hold
        have hm := fmod_in (0 + (i : Int)) (b := ((vsK.toArray.size : Nat) : Int)) (by rw [List.size_toArray]; omega)
        refine item_list_ints hlK hns hm.1 (by have := hm.2; rw [List.size_toArray] at this ⊢; omega) (by have := hm.2; rw [List.size_toArray] at this ⊢; omega) ?_
        intro tK
        try dsimp only
        k_steps
        unfold Hold
        refine len_list hlW (by rw [List.size_toArray]; have := wr_length es 6; omega) ?_
        try dsimp only
        k_steps
        unfold Hold
        have hw0 : ((ys.toArray.size : Nat) : Int) ≠ 0 := by rw [List.size_toArray]; omega
        refine mod_int' hw0 ?_
        try dsimp only
        k_steps
        unfold Hold
        generalize ns.getD ((0 + (i : Int)).fmod ((vsK.toArray.size : Nat) : Int)).toNat 0 = pk
        have hm2 := fmod_in pk (b := ((ys.toArray.size : Nat) : Int)) (by rw [List.size_toArray]; omega)
        have hwl := wr_length es 6
        refine item_strsA hlW hys hm2.1 (by have := hm2.2; rw [List.size_toArray] at this ⊢; omega) (by have := hm2.2; rw [List.size_toArray] at this ⊢; omega) ?_
        intro tP
        have hzm : (wr es 6).getD (pk.fmod ((ys.toArray.size : Nat) : Int)).toNat Str.empty ∈ wr es 6 := by
          have hlt : (pk.fmod ((ys.toArray.size : Nat) : Int)).toNat < (wr es 6).length := by have := hm2.2; rw [List.size_toArray] at this ⊢; omega
          rw [List.getD_eq_getElem?_getD, List.getElem?_eq_getElem hlt]
          exact List.getElem_mem hlt
        obtain ⟨kk, x, y, hkk, hx, hy, hwxy, hz⟩ := wr_mem hzm
        rw [hz]
        have hx8 := hes8 x (List.mem_of_getElem? hx)
        have hy8 := hes8 y (List.mem_of_getElem? hy)
        have hval := hPv x hx8 y hy8
        rw [if_pos hwxy] at hval
        obtain ⟨tv2, hval⟩ := hval
        try dsimp only
        k_steps
        unfold Hold
        rename_i h11 F11 N11
        refine kda_item (knd := sk w) N11 (.tail _ (.tail _ (.tail _ (.tail _ (List.mem_append_right _ hPm))))) hPd (k := txt [x, y]) (strKind_is _ _ _ _) hval ?_
        try dsimp only
        k_steps
        unfold Hold
        refine replace_c w s₀ mg mb (txt es) (txt [x, y]) (txt [x &&& y, x ||| y]) _ _ _ _ (by rw [txt_length]; omega) rfl (by rw [txt_length]; exact Nat.le_of_ble_eq_true rfl) _ _ _ _ _ _ _ _ _ _ _ _ _ _ _ _ _ (by assumption) F11 (by assumption) N11 (by assumption) rfl ?_ ?_ ?_
        · show dp + 1 + 3 < recursionLimit; omega
        · show un + 3 + 10 * 3 < cLine; omega
        rintro v tl h12 tk12 ⟨t12, rfl, rfl⟩ hl12 F12 N12
        rw [replaced_txt hx8 hy8 hes8]
        clear F11 N11
        try dsimp only
        k_steps
        unfold Hold
        refine store_cell (rest := (L' + 1 + 1, oP) :: (own ++ news)) F12 N12 rfl (.tail _ (.tail _ (.tail _ (.head _)))) hoc ?_ ?_
        · intro p hp
          rcases List.mem_cons.mp hp with rfl | hp
          · exact ⟨.tail _ (.tail _ (.head _)), Nat.succ_ne_self (L' + 1)⟩
          · refine ⟨.tail _ (.tail _ (.tail _ (.tail _ hp))), ?_⟩
            rcases List.mem_append.mp hp with hp | hp
            · rw [hown p hp]; exact fun q => hoff (L' + 1, oc) (.tail _ (.head _)) q.symm
            · have := l1 p hp; exact Nat.ne_of_lt (Nat.lt_succ_of_lt this)
        intro h13 o13 F13 N13 ho13
        try dsimp only
        k_steps
        refine LoopStepU.intro (news₂ := (L' + 1 + 1, oP) :: (L' + 1, o13) :: news) F13 (news_sub N13 ?_) ?_ ⟨rfl, _, t12, o13, .succ hst hx hy hwxy, ho13, rfl⟩
        · intro p hp
          rcases List.mem_append.mp hp with hp | hp
          · exact .tail _ (.tail _ (List.mem_append_left _ hp))
          · rcases List.mem_cons.mp hp with rfl | hp
            · exact .tail _ (.head _)
            · rcases List.mem_cons.mp hp with rfl | hp
              · exact .head _
              · exact .tail _ (.tail _ (List.mem_append_right _ hp))
        · intro p hp q
          rw [List.mem_singleton] at q
          rcases List.mem_cons.mp hp with rfl | hp
          · exact hoff (L' + 1 + 1, oP) (.head _) q
          · rcases List.mem_cons.mp hp with rfl | hp
            · exact hoff (L' + 1, oc) (.tail _ (.head _)) q
            · exact hoff p (.tail _ (.tail _ hp)) q
  · rintro h2 tk2 m2 news2 ⟨e1, es, t, oc, hst, hoc, rfl⟩ F2 N2
    exact absurd (hst.few hds hlen) (by decide)
end Mine
end

section
open PySem PySem.W PySem.Spec PySem.Calls PyProof.Rows
namespace Mine
theorem quiet_C6 : True := by w_top off; trivial
/-- the charge of one of the three parts; the weight of one of the five things -/
def chg (total : Int) (k : Nat) : Int := (total.fdiv (7 ^ k) + 2 * (k : Int)).fmod 7 - 3
def wgt (total : Int) (k : Nat) : Int := (total.fdiv (343 * 3 ^ k) + 2 - (k : Int)).fmod 3
def thA (c : Nat) : List Int := [rb c, gb c, bb c]
def mx (a b : Int) : Int := if b > a then b else a
def mn (a b : Int) : Int := if b < a then b else a
def thB (c : Nat) : List Int := [mx (rb c) (gb c), mx (gb c) (bb c), mx (rb c) (bb c), mn (rb c + gb c + bb c) 1, mn (rb c + gb c + bb c) 2]
def prA (c : Nat) (total : Int) : Nat → Int
  | 0 => total
  | k + 1 => prA c total k + (thA c).getD k 0 * chg total k
def prB (c : Nat) (total : Int) : Nat → Int
  | 0 => prA c total 3
  | k + 1 => prB c total k + (thB c).getD k 0 * wgt total k
def price (total : Int) (c : Nat) : Int := prB c total 5
theorem div4 : ∀ c : Nat, c < 8 → (c : Int).fdiv 4 = rb c ∧ ((c : Int).fdiv 2).fmod 2 = gb c ∧ (c : Int).fmod 2 = bb c := by decide

theorem thA_len (c : Nat) : (thA c).length = 3 := rfl
theorem thB_len (c : Nat) : (thB c).length = 5 := rfl
theorem thA_bnd : ∀ c < 8, ∀ k < 3, 0 ≤ (thA c).getD k 0 ∧ (thA c).getD k 0 ≤ 2 := by decide
theorem thB_bnd : ∀ c < 8, ∀ k < 5, 0 ≤ (thB c).getD k 0 ∧ (thB c).getD k 0 ≤ 2 := by decide
theorem pow7_bnd : ∀ k < 3, 0 < (7 : Int) ^ k ∧ (7 : Int) ^ k ≤ 49 := by decide
theorem pow3_bnd : ∀ k < 5, 0 < (3 : Int) ^ k ∧ (3 : Int) ^ k ≤ 81 := by decide
/-- the first loop's word -/
inductive J6 (c : Nat) (total : Int) (tt : Tok) (l9 : Addr) (led : List (Addr × Obj)) (i : Nat) (m₁ : Str → Option Value) (nw : List (Addr × Obj)) : Prop
  | mk : nw = led → m₁ (Str.ofString "things") = some (.ref l9) → m₁ (Str.ofString "total") = some (.int total tt) → ∀ (p1 p2 p3 p4 p5 : Tok), m₁ (Str.ofString "price") = some (.int (prA c total i) p1) →
    m₁ (Str.ofString "red") = some (.int (rb c) p2) → m₁ (Str.ofString "green") = some (.int (gb c) p3) → m₁ (Str.ofString "blue") = some (.int (bb c) p4) → m₁ (Str.ofString "many") = some (.int (rb c + gb c + bb c) p5) → J6 c total tt l9 led i m₁ nw
/-- the second loop's word -/
inductive J6b (c : Nat) (total : Int) (tt : Tok) (l9 : Addr) (led : List (Addr × Obj)) (i : Nat) (m₁ : Str → Option Value) (nw : List (Addr × Obj)) : Prop
  | mk : nw = led → m₁ (Str.ofString "things") = some (.ref l9) → m₁ (Str.ofString "total") = some (.int total tt) → ∀ p1 : Tok, m₁ (Str.ofString "price") = some (.int (prB c total i) p1) → J6b c total tt l9 led i m₁ nw
local macro_rules | `(tactic| walk_at $s:str) => if ["exec For Name Call cons nil", "pyIter ref", "subscriptTail Name Name ref int", "binaryOp Pow int int"].contains s.getString then `(tactic| refine Hold.out ?_) else Lean.Macro.throwUnsupported
local macro_rules | `(tactic| walk_at "binaryOp FloorDiv int int") => `(tactic| (refine floordiv_int (by omega) ?_ (Or.inl (PyProof.noPylong_small (by omega)))))
set_option maxRecDepth 100000 in
set_option maxHeartbeats 8000000 in
theorem price_c (w : World) (s₀ : Shared) (mg mb : Str → Option Value) (c : Nat) (tc tt : Tok) (total : Int) (news : List (Addr × Obj)) (hc : c < 8) :
  Ctc w s₀ mg mb 5 70 [.int (c : Int) tc, .int total tt] news fun v tl => ∃ t, v = .int (price total c) t ∧ tl = [] := by
  intro dp un gd cn cs a ccd cl outer A₀ base h₀ L m s Q E B F X N T hk hdp hu ret
  revert X; k_fill; intro X
  refine wpAny_call ?_
  k_dflt cell_enter
  rename_i g' L' h' FG' F' N' B' X' T'
  obtain ⟨mm, F1⟩ := frArgs2 (Str.ofString "code") (Str.ofString "total") F' rfl rfl (by decide)
  clear F'
  obtain ⟨d1, d2, d3⟩ := div4 c hc
  k_steps
  unfold Hold
  rename_i l9 h9 l1 h10 F10 N10
  rw [d1, d2, d3] at N10 F10
  obtain ⟨vsA, nA, hvA, N11⟩ : ∃ vsA nA, IntsAre vsA (thA c) ∧ News g' L' h10 ((l9, W.listOf vsA.toArray nA) :: news) := ⟨_, _, .cons _ _ (.cons _ _ (.cons _ _ .nil)), N10⟩
  clear N10
  refine For_turns F10 ?_ (by intro _; rfl) (by passes_own)
  k_steps
  unfold Hold
  rename_i hR tkR t1 t2 t3 hIR FR NR hup
  refine iter_range (n := 3) (J6 c total tt l9 ((l9, W.listOf vsA.toArray nA) :: news))
    rfl FR NR hIR (by decide) (by rfl) rfl rfl ⟨rfl, rfl, rfl, _, _, _, _, _, rfl, rfl, rfl, rfl, rfl⟩ ?_ ?_
  · rintro i u m₁ news₁ h₁ tk₁ own I hi ⟨rfl, e1, e2, p1, p2, p3, p4, p5, e3, e4, e5, e6, e7⟩ hoff hown ⟨oI, hin⟩ F₁ N₁
    rw [Int.zero_add] at F₁
    have F₂ := frKnow (a := Str.ofString "things") (frKnow (a := Str.ofString "total") (frKnow (a := Str.ofString "price") F₁ e3) e2) e1
    have N₂ := led1 N₁
    clear F₁ FR NR N₁
    have hlA : h₁.IsList l9 vsA.toArray := ⟨_, (N₂ _ (.head _)).1, rfl, _, rfl⟩
    have hx := thA_bnd c hc i hi
    have hp := pow7_bnd i hi
    k_steps
    unfold Hold
    refine item_list_ints hlA hvA (by omega) (by rw [thA_len]; omega) (by omega) ?_
    intro tx
    rw [Int.toNat_natCast]
    have hpr : prA c total (i + 1) = prA c total i + (thA c).getD i 0 * ((total.fdiv (7 ^ i) + 2 * (i : Int)).fmod 7 - 3) := rfl
    generalize (thA c).getD i 0 = x at *
    k_steps
    unfold Hold
    refine pow_int_small (by omega) (by omega) (by decide) ?_
    rw [Int.toNat_natCast]
    generalize (7 : Int) ^ i = pw at *
    obtain ⟨hp0, hp1⟩ := hp
    k_steps
    rename_i F₃ N₃
    exact LoopStepU.intro F₃ (led1' N₃) (fun p hp q => hoff p hp (List.mem_singleton.mp q)) ⟨rfl, rfl, rfl, _, p2, p3, p4, p5, congrArg (fun z => some (Value.int z _)) hpr.symm, e4, e5, e6, e7⟩
  · clear hvA
    rintro h2 tk2 m2 news2 ⟨rfl, e1, e2, p1, p2, p3, p4, p5, e3, e4, e5, e6, e7⟩ F2 N2
    have F3 := frKnow (a := Str.ofString "total") (frKnow (a := Str.ofString "price") (frKnow (a := Str.ofString "red") (frKnow (a := Str.ofString "green") (frKnow (a := Str.ofString "blue") (frKnow (a := Str.ofString "many") F2 e7) e6) e5) e4) e3) e2
    clear F2
    k_steps
    unfold Hold
    rename_i l11 h11 Fz Nz l2 h12 F12 N12
    obtain ⟨vsB, nB, hvB, N13⟩ : ∃ vsB nB, IntsAre vsB (thB c) ∧ News g' L' h12 ((l11, W.listOf vsB.toArray nB) :: news) := ⟨_, _, .cons _ _ (.cons _ _ (.cons _ _ (.cons _ _ (.cons _ _ .nil)))), news_sub N12 (fun p hp => by
      rcases List.mem_cons.mp hp with rfl | hp
      · exact .head _
      · exact .tail _ (.tail _ hp))⟩
    clear N12
    refine For_turns F12 ?_ (by intro _; rfl) (by passes_own)
    k_steps
    unfold Hold
    rename_i hR2 tkR2 t12 t22 t32 hIR2 FR2 NR2 hup2
    refine iter_range (n := 5) (J6b c total tt l11 ((l11, W.listOf vsB.toArray nB) :: news))
      rfl FR2 NR2 hIR2 (by decide) (by rfl) rfl rfl ⟨rfl, rfl, rfl, _, rfl⟩ ?_ ?_
    · rintro i u m₁ news₁ h₁ tk₁ own I hi ⟨rfl, e1, e2, p1, e3⟩ hoff hown ⟨oI, hin⟩ F₁ N₁
      rw [Int.zero_add] at F₁
      have F₂ := frKnow (a := Str.ofString "things") (frKnow (a := Str.ofString "total") (frKnow (a := Str.ofString "price") F₁ e3) e2) e1
      have N₂ := led1 N₁
      clear F₁ FR2 NR2 N₁
      have hlB : h₁.IsList l11 vsB.toArray := ⟨_, (N₂ _ (.head _)).1, rfl, _, rfl⟩
      have hx := thB_bnd c hc i hi
      have hp := pow3_bnd i hi
      k_steps
      unfold Hold
      refine item_list_ints hlB hvB (by omega) (by rw [thB_len]; omega) (by omega) ?_
      intro tx
      rw [Int.toNat_natCast]
      have hpr : prB c total (i + 1) = prB c total i + (thB c).getD i 0 * (total.fdiv (343 * 3 ^ i) + 2 - (i : Int)).fmod 3 := rfl
      generalize (thB c).getD i 0 = x at *
      k_steps
      unfold Hold
      refine pow_int_small (by omega) (by omega) (by decide) ?_
      rw [Int.toNat_natCast]
      generalize (3 : Int) ^ i = pw at *
      obtain ⟨hp0, hp1⟩ := hp
      k_steps
      rename_i F₃ N₃
      exact LoopStepU.intro F₃ (led1' N₃) (fun p hp q => hoff p hp (List.mem_singleton.mp q)) ⟨rfl, rfl, rfl, _, congrArg (fun z => some (Value.int z _)) hpr.symm⟩
    · rintro h5 tk5 m5 news5 ⟨rfl, e1, e2, p1, e3⟩ F5 N5
      have F6 := frKnow (a := Str.ofString "price") F5 e3
      clear F5
      k_steps
      rename_i kF kN _ _
      exact ret _ [] _ _ ⟨p1, rfl, rfl⟩ (fun _ _ _ h => nomatch h) kF (news_sub kN fun p hp => .tail _ hp)
end Mine
end

section
open PySem PySem.W PySem.Spec PySem.Calls PyProof.Rows
namespace Mine
theorem quiet_C7 : True := by w_top off; trivial
def SIX : UInt64 := 4618441417868443648
def ONE : UInt64 := 4607182418800017408
def HALF : UInt64 := 4602678819172646912
def truncI (x : UInt64) : Int := Flt.toInt Float64.truncOf x
def fF (x : UInt64) : UInt64 := Float64.sub (Float64.mul x 4618441417868443648) (Float64.ofInt (Flt.toInt Float64.truncOf (Float64.mul x 4618441417868443648)))
def pF : UInt64 := Float64.mul 4607182418800017408 (Float64.sub 4607182418800017408 4607182418800017408)
def qF (x : UInt64) : UInt64 := Float64.mul 4607182418800017408 (Float64.sub 4607182418800017408 (Float64.mul 4607182418800017408 (fF x)))
def tF (x : UInt64) : UInt64 := Float64.mul 4607182418800017408 (Float64.sub 4607182418800017408 (Float64.mul 4607182418800017408 (Float64.sub 4607182418800017408 (fF x))))
def hueI (x : UInt64) : Int := (Flt.toInt Float64.truncOf (Float64.mul x 4618441417868443648)).fmod 6
def hsvR (x : UInt64) : UInt64 := if hueI x = 0 then 4607182418800017408 else if hueI x = 1 then qF x else if hueI x = 2 then pF else if hueI x = 3 then pF else if hueI x = 4 then tF x else 4607182418800017408
def hsvG (x : UInt64) : UInt64 := if hueI x = 0 then tF x else if hueI x = 1 then 4607182418800017408 else if hueI x = 2 then 4607182418800017408 else if hueI x = 3 then qF x else if hueI x = 4 then pF else pF
def hsvB (x : UInt64) : UInt64 := if hueI x = 0 then pF else if hueI x = 1 then pF else if hueI x = 2 then tF x else if hueI x = 3 then 4607182418800017408 else if hueI x = 4 then 4607182418800017408 else qF x
theorem hsv_0 {x : UInt64} (h : hueI x = 0) : hsvR x = 4607182418800017408 ∧ hsvG x = tF x ∧ hsvB x = pF := by simp [hsvR, hsvG, hsvB, h]
theorem hsv_1 {x : UInt64} (h : hueI x = 1) : hsvR x = qF x ∧ hsvG x = 4607182418800017408 ∧ hsvB x = pF := by simp [hsvR, hsvG, hsvB, h]
theorem hsv_2 {x : UInt64} (h : hueI x = 2) : hsvR x = pF ∧ hsvG x = 4607182418800017408 ∧ hsvB x = tF x := by simp [hsvR, hsvG, hsvB, h]
theorem hsv_3 {x : UInt64} (h : hueI x = 3) : hsvR x = pF ∧ hsvG x = qF x ∧ hsvB x = 4607182418800017408 := by simp [hsvR, hsvG, hsvB, h]
theorem hsv_4 {x : UInt64} (h : hueI x = 4) : hsvR x = tF x ∧ hsvG x = pF ∧ hsvB x = 4607182418800017408 := by simp [hsvR, hsvG, hsvB, h]
theorem hsv_5 {x : UInt64} (h : hueI x = 5) : hsvR x = 4607182418800017408 ∧ hsvG x = pF ∧ hsvB x = qF x := by simp [hsvR, hsvG, hsvB, h]
theorem tup3 {R : Addr} {a b c a' b' c' : UInt64} {t1 t2 t3 : Tok} {n : Nat} (h : a' = a ∧ b' = b ∧ c' = c) : [(R, tupObj #[.float a t1, .float b t2, .float c t3] n)] = [(R, tupObj #[.float a' t1, .float b' t2, .float c' t3] n)] := by
  obtain ⟨rfl, rfl, rfl⟩ := h; rfl

theorem hold_cmp {M : Model} {A : Around} {E : Value → Shared → Prop} {s : Shared} {x y : UInt64} {o : Option Ordering} {Q : Bool → Shared → Prop} (h : Hold (wpAny M A (truthy (Value.bool (Float64.cmp x y == o))) Q E s)) : wpAny M A (truthy (Value.bool (Float64.cmp x y == o))) Q E s := h
local macro_rules | `(tactic| walk_at "truthy bool") => `(tactic| refine hold_cmp ?_)
set_option maxRecDepth 100000 in
set_option maxHeartbeats 8000000 in
theorem hsv0_c (w : World) (s₀ : Shared) (mg mb : Str → Option Value) (x z : UInt64) (tx ty tz : Tok) (news : List (Addr × Obj)) :
  Ctc w s₀ mg mb 3 35 [.float x tx, .float 0 ty, .float z tz] news fun v tl => ∃ D t1 t2 t3 n, v = .ref D ∧ tl = [(D, tupObj #[.float z t1, .float z t2, .float z t3] n)] := by
  intro dp un gd cn cs a ccd cl outer A₀ base h₀ L m s Q E B F X N T hk hdp hu ret
  revert X; k_fill; intro X
  refine wpAny_call ?_
  k_dflt cell_enter
  rename_i g' L' h' FG' F' N' B' X' T'
  obtain ⟨mm, F1⟩ := frArgs3 (Str.ofString "h") (Str.ofString "s") (Str.ofString "v") F' rfl rfl rfl (by decide) (by decide) (by decide)
  clear F'
  try dsimp only
  k_steps
  unfold Hold
  rw [show (Float64.cmp 0 0 == some Ordering.eq) = true from by decide +kernel]
  try dsimp only
  k_steps
  rename_i R hR FR NR l1 kF kN Tc kX
  refine ret _ [(R, _)] _ _ ⟨R, tz, tz, tz, _, rfl, rfl⟩ ?_ kF kN
  intro p hp q hq
  rw [List.mem_singleton.mp hq]; exact l1 p hp

set_option maxRecDepth 100000 in
set_option maxHeartbeats 8000000 in
theorem hsv1_c (w : World) (s₀ : Shared) (mg mb : Str → Option Value) (x : UInt64) (tx ty tz : Tok) (news : List (Addr × Obj)) (hn : Float64.isNaN (Float64.mul x 4618441417868443648) = false) (hi : Float64.isInf (Float64.mul x 4618441417868443648) = false)
  (hs : (Flt.toInt Float64.truncOf (Float64.mul x 4618441417868443648)).natAbs < 2 ^ 1024 - 2 ^ 970) :
  Ctc w s₀ mg mb 3 35 [.float x tx, .float 4607182418800017408 ty, .float 4607182418800017408 tz] news fun v tl => ∃ D t1 t2 t3 n, v = .ref D ∧ tl = [(D, tupObj #[.float (hsvR x) t1, .float (hsvG x) t2, .float (hsvB x) t3] n)] := by
  intro dp un gd cn cs a ccd cl outer A₀ base h₀ L m s Q E B F X N T hk hdp hu ret
  revert X; k_fill; intro X
  refine wpAny_call ?_
  k_dflt cell_enter
  rename_i g' L' h' FG' F' N' B' X' T'
  obtain ⟨mm, F1⟩ := frArgs3 (Str.ofString "h") (Str.ofString "s") (Str.ofString "v") F' rfl rfl rfl (by decide) (by decide) (by decide)
  clear F'
  try dsimp only
  k_steps
  unfold Hold
  rw [show (Float64.cmp 4607182418800017408 0 == some Ordering.eq) = false from by decide +kernel]
  try dsimp only
  k_steps
  iterate 6 (
    rotate_left)
  · exfalso
    have h6 := fmod_in (Flt.toInt Float64.truncOf (Float64.mul x 4618441417868443648)) (b := 6) (by decide)
    generalize (Flt.toInt Float64.truncOf (Float64.mul x 4618441417868443648)).fmod 6 = i at *
    omega
  all_goals (
    rename_i R hR FR NR l1 kF kN Tc kX
    refine ret _ [(R, _)] _ _ ⟨R, _, _, _, _, rfl, tup3 (by first | exact hsv_0 (by assumption) | exact hsv_1 (by assumption) | exact hsv_2 (by assumption) | exact hsv_3 (by assumption) | exact hsv_4 (by assumption) | exact hsv_5 (by assumption))⟩ ?_ kF kN
    intro p hp q hq
    rw [List.mem_singleton.mp hq]; exact l1 p hp)

set_option maxRecDepth 100000 in
set_option maxHeartbeats 8000000 in
theorem code_c (w : World) (s₀ : Shared) (mg mb : Str → Option Value) (x y z : UInt64) (D : Addr) (tx ty tz : Tok) (n : Nat) (news : List (Addr × Obj))
  (hD : (D, tupObj #[.float x tx, .float y ty, .float z tz] n) ∈ news) (hx : Float64.isNaN (Float64.add x 4602678819172646912) = false) (hx' : Float64.isInf (Float64.add x 4602678819172646912) = false)
  (hy : Float64.isNaN (Float64.add y 4602678819172646912) = false) (hy' : Float64.isInf (Float64.add y 4602678819172646912) = false) (hz : Float64.isNaN (Float64.add z 4602678819172646912) = false) (hz' : Float64.isInf (Float64.add z 4602678819172646912) = false) :
  Ctc w s₀ mg mb 3 63 [.ref D] news fun v tl => ∃ t, v = .int (truncI (Float64.add x HALF) * 4 + truncI (Float64.add y HALF) * 2 + truncI (Float64.add z HALF)) t ∧ tl = [] := by
  intro dp un gd cn cs a ccd cl outer A₀ base h₀ L m s Q E B F X N T hk hdp hu ret
  revert X; k_fill; intro X
  refine wpAny_call ?_
  k_dflt cell_enter
  rename_i g' L' h' FG' F' N' B' X' T'
  obtain ⟨mm, F1⟩ := frArgs1 (Str.ofString "paint") F' rfl
  clear F'
  try dsimp only
  k_steps
  rename_i kF kN _ _
  exact ret _ [] _ _ ⟨_, rfl, rfl⟩ (fun _ _ _ h => nomatch h) kF kN
end Mine
end

section
open PySem PySem.W PySem.Spec PySem.Calls PyProof.Rows
namespace Mine
def hue6 (k n : Nat) : UInt64 := Float64.add (Float64.div (Float64.ofInt (k : Int)) 4618441417868443648) (Float64.ofInt (n : Int))
def okR (x : UInt64) : Bool := Float64.isNaN (Float64.mul x 4618441417868443648) == false && Float64.isInf (Float64.mul x 4618441417868443648) == false && decide ((Flt.toInt Float64.truncOf (Float64.mul x 4618441417868443648)).natAbs < 1000)
def okH (x : UInt64) : Bool := Float64.isNaN (Float64.add x 4602678819172646912) == false && Float64.isInf (Float64.add x 4602678819172646912) == false
def codeF (a b c : UInt64) : Int := truncI (Float64.add a HALF) * 4 + truncI (Float64.add b HALF) * 2 + truncI (Float64.add c HALF)
theorem hues_ok : ∀ k < 6, ∀ n < 3, okR (hue6 k n) = true ∧ okH (hsvR (hue6 k n)) = true ∧ okH (hsvG (hue6 k n)) = true ∧ okH (hsvB (hue6 k n)) = true ∧ codeF (hsvR (hue6 k n)) (hsvG (hue6 k n)) (hsvB (hue6 k n)) = [4, 6, 2, 3, 1, 5].getD k 0 := by decide +kernel
theorem ends_ok : okH 0 = true ∧ okH 4607182418800017408 = true ∧ codeF 0 0 0 = 0 ∧ codeF 4607182418800017408 4607182418800017408 4607182418800017408 = 7 := by decide +kernel
end Mine
end

section
open PySem PySem.W PySem.Spec PySem.Calls PyProof.Rows
namespace Mine
local macro_rules | `(tactic| walk_at "none such") => `(tactic| fail)
theorem quiet_C8 : True := by w_top off; trivial
def fmx (a b : UInt64) : UInt64 := if (Float64.cmp a b == some .lt) = true then b else a
def fmn (a b : UInt64) : UInt64 := if (Float64.cmp b a == some .lt) = true then b else a
open PySem.Flt in
theorem three_num (x y z : UInt64) (t u v : Tok) : ∀ a ∈ #[Value.float x t, Value.float y u, Value.float z v], NumV a := by
  have hx : NumV (.float x t) := .float x t
  have hy : NumV (.float y u) := .float y u
  have hz : NumV (.float z v) := .float z v
  simp [hx, hy, hz]
section
variable {prog : Program} {w : World} {A : Around} {E : Value → Shared → Prop} {s : Shared} {Q : Value → Shared → Prop} {h₀ : Heap} {L : Addr} {m : Str → Option Value} {news : List (Addr × Obj)} {x y z : UInt64} {t u v : Tok}
open PySem.Flt in
theorem max_three_ff (hh : A.handled = none) (F : Fr h₀ L s.heap m) (N : News h₀ L s.heap news)
    (h : ∀ h' tk v, Fr h₀ L h' m → News h₀ L h' news → Q (.float (fmx (fmx x y) z) v) { s with heap := h', toks := tk }) :
    wpAny (model prog w) A (call (.builtin "max") [.float x t, .float y u, .float z v]) Q E s := by
  have hT : (s.heap.push { cls := .type "tuple", data := .seq #[.float x t, .float y u, .float z v] }).IsTuple s.heap.objs.size #[.float x t, .float y u, .float z v] := ⟨_, Heap.get?_push_size _ rfl, rfl, 0, rfl⟩
  refine call_max_three (wpAny_pyIter_tuple hT ?_)
  have hsz : (s.heap.push { cls := .type "tuple", data := .seq #[.float x t, .float y u, .float z v] }).objs.size = s.heap.objs.size + 1 := Heap.size_push ..
  refine ⟨_, [_, s.heap.objs.size], [_], _, _, _, _, rfl, Walks.tuple (A := A.in1) hh _ s.heap.objs.size (by rw [hsz]; exact Nat.ne_of_lt (Nat.lt_succ_self _)) #[.float x t, .float y u, .float z v],
    ⟨⟨_, Heap.get?_push_size _ rfl, rfl, rfl⟩, hT.push _⟩, fun c hc => ?_, by simp, cmpOf_gt #[.float x t, .float y u, .float z v] (three_num x y z t u v), fun r h' tk hP hk => ?_⟩
  · show c < ((s.heap.push _).push _).objs.size
    rw [Heap.size_push, hsz]
    rcases List.mem_cons.mp hc with rfl | hc
    · rw [hsz]; exact Nat.lt_succ_self _
    · rcases List.mem_cons.mp hc with rfl | hc
      · exact Nat.lt_succ_of_lt (Nat.lt_succ_self _)
      · cases hc
  · have hold : ∀ c o, s.heap.get? c = some o → h'.get? c = some o := fun c o e => by
      refine hk c o (fun hm => ?_) (Heap.get?_push_of_some _ (Heap.get?_push_of_some _ e))
      rcases List.mem_cons.mp hm with e1 | hm
      · have := Heap.lt_size e; rw [e1, hsz] at this; exact Nat.lt_irrefl _ (Nat.lt_of_succ_lt this)
      · cases hm
    have hx : ∀ v, Q (.float (fmx (fmx x y) z) v) { s with heap := h', toks := tk } := fun v => h h' tk v (F.keeps hold) (N.grown hold)
    have e1 : ltV (.float x t) (.float y u) = (Float64.cmp x y == some .lt) := rfl
    have e2 : ltV (.float x t) (.float z v) = (Float64.cmp x z == some .lt) := rfl
    have e3 : ltV (.float y u) (.float z v) = (Float64.cmp y z == some .lt) := rfl
    unfold fmx at hx
    cases h1 : Float64.cmp x y == some .lt <;> cases h2 : Float64.cmp x z == some .lt <;> cases h3 : Float64.cmp y z == some .lt <;>
      simp [argBest, e1, e2, e3, h1, h2, h3] at hP hx <;> rw [← hP] <;> exact hx _
open PySem.Flt in
theorem min_three_ff (hh : A.handled = none) (F : Fr h₀ L s.heap m) (N : News h₀ L s.heap news)
    (h : ∀ h' tk v, Fr h₀ L h' m → News h₀ L h' news → Q (.float (fmn (fmn x y) z) v) { s with heap := h', toks := tk }) :
    wpAny (model prog w) A (call (.builtin "min") [.float x t, .float y u, .float z v]) Q E s := by
  have hT : (s.heap.push { cls := .type "tuple", data := .seq #[.float x t, .float y u, .float z v] }).IsTuple s.heap.objs.size #[.float x t, .float y u, .float z v] := ⟨_, Heap.get?_push_size _ rfl, rfl, 0, rfl⟩
  refine call_min_three (wpAny_pyIter_tuple hT ?_)
  have hsz : (s.heap.push { cls := .type "tuple", data := .seq #[.float x t, .float y u, .float z v] }).objs.size = s.heap.objs.size + 1 := Heap.size_push ..
  refine ⟨_, [_, s.heap.objs.size], [_], _, _, _, _, rfl, Walks.tuple (A := A.in1) hh _ s.heap.objs.size (by rw [hsz]; exact Nat.ne_of_lt (Nat.lt_succ_self _)) #[.float x t, .float y u, .float z v],
    ⟨⟨_, Heap.get?_push_size _ rfl, rfl, rfl⟩, hT.push _⟩, fun c hc => ?_, by simp, cmpOf_lt #[.float x t, .float y u, .float z v] (three_num x y z t u v), fun r h' tk hP hk => ?_⟩
  · show c < ((s.heap.push _).push _).objs.size
    rw [Heap.size_push, hsz]
    rcases List.mem_cons.mp hc with rfl | hc
    · rw [hsz]; exact Nat.lt_succ_self _
    · rcases List.mem_cons.mp hc with rfl | hc
      · exact Nat.lt_succ_of_lt (Nat.lt_succ_self _)
      · cases hc
  · have hold : ∀ c o, s.heap.get? c = some o → h'.get? c = some o := fun c o e => by
      refine hk c o (fun hm => ?_) (Heap.get?_push_of_some _ (Heap.get?_push_of_some _ e))
      rcases List.mem_cons.mp hm with e1 | hm
      · have := Heap.lt_size e; rw [e1, hsz] at this; exact Nat.lt_irrefl _ (Nat.lt_of_succ_lt this)
      · cases hm
    have hx : ∀ v, Q (.float (fmn (fmn x y) z) v) { s with heap := h', toks := tk } := fun v => h h' tk v (F.keeps hold) (N.grown hold)
    have e1 : ltV (.float y u) (.float x t) = (Float64.cmp y x == some .lt) := rfl
    have e2 : ltV (.float z v) (.float x t) = (Float64.cmp z x == some .lt) := rfl
    have e3 : ltV (.float z v) (.float y u) = (Float64.cmp z y == some .lt) := rfl
    unfold fmn at hx
    cases h1 : Float64.cmp y x == some .lt <;> cases h2 : Float64.cmp z x == some .lt <;> cases h3 : Float64.cmp z y == some .lt <;>
      simp [argBest, e1, e2, e3, h1, h2, h3] at hP hx <;> rw [← hP] <;> exact hx _
end

def fM (x y z : UInt64) : UInt64 := fmx (fmx x y) z
def fm (x y z : UInt64) : UInt64 := fmn (fmn x y) z
def hRaw (x y z M mn : UInt64) : UInt64 :=
  if (Float64.cmp x M == some Ordering.eq) = true then Float64.sub (Float64.div (Float64.sub M z) (Float64.sub M mn)) (Float64.div (Float64.sub M y) (Float64.sub M mn))
  else if (Float64.cmp y M == some Ordering.eq) = true then Float64.sub (Float64.add 4611686018427387904 (Float64.div (Float64.sub M x) (Float64.sub M mn))) (Float64.div (Float64.sub M z) (Float64.sub M mn))
  else Float64.sub (Float64.add 4616189618054758400 (Float64.div (Float64.sub M y) (Float64.sub M mn))) (Float64.div (Float64.sub M x) (Float64.sub M mn))
def outH (x y z M mn : UInt64) : UInt64 := if (Float64.cmp mn M == some Ordering.eq) = true then 0 else (Float64.divmod (Float64.div (hRaw x y z M mn) 4618441417868443648) 4607182418800017408).2
def outS (M mn : UInt64) : UInt64 := if (Float64.cmp mn M == some Ordering.eq) = true then 0 else Float64.div (Float64.sub M mn) M

theorem out_e {x y z M mn : UInt64} (h : (Float64.cmp mn M == some Ordering.eq) = true) : outH x y z M mn = 0 ∧ outS M mn = 0 ∧ M = M := ⟨if_pos h, if_pos h, rfl⟩
theorem out_r {x y z M mn : UInt64} (h : (Float64.cmp mn M == some Ordering.eq) = false) (hx : (Float64.cmp x M == some Ordering.eq) = true) :
    outH x y z M mn = (Float64.divmod (Float64.div (Float64.sub (Float64.div (Float64.sub M z) (Float64.sub M mn)) (Float64.div (Float64.sub M y) (Float64.sub M mn))) 4618441417868443648) 4607182418800017408).2 ∧ outS M mn = Float64.div (Float64.sub M mn) M ∧ M = M := by
  have h' : ¬ (Float64.cmp mn M == some Ordering.eq) = true := by rw [h]; exact Bool.false_ne_true
  refine ⟨?_, if_neg h', rfl⟩
  rw [outH, if_neg h', hRaw, if_pos hx]
theorem out_g {x y z M mn : UInt64} (h : (Float64.cmp mn M == some Ordering.eq) = false) (hx : (Float64.cmp x M == some Ordering.eq) = false) (hy : (Float64.cmp y M == some Ordering.eq) = true) :
    outH x y z M mn = (Float64.divmod (Float64.div (Float64.sub (Float64.add 4611686018427387904 (Float64.div (Float64.sub M x) (Float64.sub M mn))) (Float64.div (Float64.sub M z) (Float64.sub M mn))) 4618441417868443648) 4607182418800017408).2 ∧ outS M mn = Float64.div (Float64.sub M mn) M ∧ M = M := by
  have h' : ¬ (Float64.cmp mn M == some Ordering.eq) = true := by rw [h]; exact Bool.false_ne_true
  refine ⟨?_, if_neg h', rfl⟩
  rw [outH, if_neg h', hRaw, if_neg (by rw [hx]; exact Bool.false_ne_true), if_pos hy]
theorem out_b {x y z M mn : UInt64} (h : (Float64.cmp mn M == some Ordering.eq) = false) (hx : (Float64.cmp x M == some Ordering.eq) = false) (hy : (Float64.cmp y M == some Ordering.eq) = false) :
    outH x y z M mn = (Float64.divmod (Float64.div (Float64.sub (Float64.add 4616189618054758400 (Float64.div (Float64.sub M y) (Float64.sub M mn))) (Float64.div (Float64.sub M x) (Float64.sub M mn))) 4618441417868443648) 4607182418800017408).2 ∧ outS M mn = Float64.div (Float64.sub M mn) M ∧ M = M := by
  have h' : ¬ (Float64.cmp mn M == some Ordering.eq) = true := by rw [h]; exact Bool.false_ne_true
  refine ⟨?_, if_neg h', rfl⟩
  rw [outH, if_neg h', hRaw, if_neg (by rw [hx]; exact Bool.false_ne_true), if_neg (by rw [hy]; exact Bool.false_ne_true)]
theorem no_zero {a b c : Bool} (hz : a = true ∨ (b = false ∧ c = false)) (h : a = false) : b = true → False := by
  rcases hz with h' | h'
  · rw [h] at h'; cases h'
  · rw [h'.1]; intro q; cases q
theorem no_zero' {a b c : Bool} (hz : a = true ∨ (b = false ∧ c = false)) (h : a = false) : c = true → False := by
  rcases hz with h' | h'
  · rw [h] at h'; cases h'
  · rw [h'.2]; intro q; cases q

local macro_rules | `(tactic| walk_at $s:str) => if ["call builtin:max", "call builtin:min"].contains s.getString then `(tactic| refine Hold.out ?_) else Lean.Macro.throwUnsupported
set_option maxRecDepth 100000 in
set_option maxHeartbeats 8000000 in
theorem rgb_c (w : World) (s₀ : Shared) (mg mb : Str → Option Value) (x y z : UInt64) (tx ty tz : Tok) (news : List (Addr × Obj))
  (hz : (Float64.cmp (fm x y z) (fM x y z) == some Ordering.eq) = true ∨ (Float64.isZero (fM x y z) = false ∧ Float64.isZero (Float64.sub (fM x y z) (fm x y z)) = false)) :
  Ctc w s₀ mg mb 3 28 [.float x tx, .float y ty, .float z tz] news fun v tl => ∃ D t1 t2 t3 n, v = .ref D ∧ tl = [(D, tupObj #[.float (outH x y z (fM x y z) (fm x y z)) t1, .float (outS (fM x y z) (fm x y z)) t2, .float (fM x y z) t3] n)] := by
  intro dp un gd cn cs a ccd cl outer A₀ base h₀ L m s Q E B F X N T hk hdp hu ret
  revert X; k_fill; intro X
  refine wpAny_call ?_
  k_dflt cell_enter
  rename_i g' L' h' FG' F' N' B' X' T'
  obtain ⟨mm, F1⟩ := frArgs3 (Str.ofString "r") (Str.ofString "g") (Str.ofString "b") F' rfl rfl rfl (by decide) (by decide) (by decide)
  clear F'
  try dsimp only
  k_steps
  unfold Hold
  refine max_three_ff rfl F1 N' ?_
  intro h1 tk1 t1 F1 N1
  dsimp only at ret
  rw [show fmx (fmx x y) z = fM x y z from rfl]
  generalize fM x y z = M at hz ret ⊢
  clear N'
  try dsimp only
  k_steps
  unfold Hold
  rename_i h2 F2 N2
  refine min_three_ff rfl F2 N2 ?_
  intro h3 tk3 t3 F3 N3
  rw [show fmn (fmn x y) z = fm x y z from rfl]
  generalize fm x y z = mn at hz ret ⊢
  clear F2 N2
  try dsimp only
  k_steps
  all_goals first
    | exact (no_zero hz (by assumption) (by assumption)).elim
    | exact (no_zero' hz (by assumption) (by assumption)).elim
    | (rename_i R hR FR NR l1 kF kN Tc kX
       refine ret _ [(R, _)] _ _ ⟨R, _, _, _, _, rfl, tup3 (by first | exact out_e (by assumption) | exact out_r (by assumption) (by assumption) | exact out_g (by assumption) (by assumption) (by assumption) | exact out_b (by assumption) (by assumption) (by assumption))⟩ ?_ kF kN
       intro p hp q hq
       rw [List.mem_singleton.mp hq]; exact l1 p hp)
end Mine
end

section
open PySem PySem.W PySem.Spec PySem.Calls PyProof.Rows
namespace Mine
def e8 (r : Nat) : UInt64 := Float64.ofFrac (decide ((r : Int) < 0) != decide ((8 : Int) < 0)) (r : Int).natAbs (Int.natAbs 8)
def hV (r g b : Nat) : UInt64 := fM (e8 r) (e8 g) (e8 b)
def hS (r g b : Nat) : UInt64 := outS (fM (e8 r) (e8 g) (e8 b)) (fm (e8 r) (e8 g) (e8 b))
def hH (r g b : Nat) : UInt64 := outH (e8 r) (e8 g) (e8 b) (fM (e8 r) (e8 g) (e8 b)) (fm (e8 r) (e8 g) (e8 b))
def topX (r g b : Nat) : UInt64 := Float64.add (Float64.mul (hV r g b) (Float64.ofInt 8)) 4602678819172646912
def sprX (r g b : Nat) : UInt64 := Float64.add (Float64.mul (Float64.mul (hS r g b) (hV r g b)) (Float64.ofInt 8)) 4602678819172646912
def topN (r g b : Nat) : Nat := max (max r g) b
def sprN (r g b : Nat) : Nat := topN r g b - min (min r g) b
def stpX (r g b : Nat) : UInt64 := Float64.add (Float64.mul (Float64.mul (hH r g b) (Float64.ofInt 6)) (Float64.ofInt (sprN r g b : Int))) 4602678819172646912
def stpN (r g b : Nat) : Nat := if sprN r g b = 0 then 0 else if r = topN r g b then (if b ≤ g then g - b else 6 * sprN r g b - (b - g)) else if g = topN r g b then 2 * sprN r g b + b - r else 4 * sprN r g b + r - g
def sixN (r g b : Nat) : Nat := stpN r g b / max (sprN r g b) 1
def morN (r g b : Nat) : Nat := stpN r g b % max (sprN r g b) 1
def okX (x : UInt64) : Bool := Float64.isNaN x == false && Float64.isInf x == false
def zOk (r g b : Nat) : Bool := (Float64.cmp (fm (e8 r) (e8 g) (e8 b)) (fM (e8 r) (e8 g) (e8 b)) == some Ordering.eq) || (Float64.isZero (fM (e8 r) (e8 g) (e8 b)) == false && Float64.isZero (Float64.sub (fM (e8 r) (e8 g) (e8 b)) (fm (e8 r) (e8 g) (e8 b))) == false)
def ringC (i : Nat) : Nat := [4, 6, 2, 3, 1, 5].getD i 0
def dueC (r g b : Nat) : List Nat :=
  List.replicate (7 - topN r g b) 0 ++
    (if sixN r g b % 2 = 1 then List.replicate (morN r g b) (ringC ((sixN r g b + 1) % 6)) ++ List.replicate (sprN r g b - morN r g b) (ringC (sixN r g b % 6))
     else List.replicate (sprN r g b - morN r g b) (ringC (sixN r g b % 6)) ++ List.replicate (morN r g b) (ringC ((sixN r g b + 1) % 6))) ++
    List.replicate (topN r g b - sprN r g b) 7
/-- reckons x once -/
def forceU (x : UInt64) (k : UInt64 → Bool) : Bool := Nat.casesOn (motive := fun _ => Bool) x.toNat (k (UInt64.ofNat 0)) (fun n => k (UInt64.ofNat (n + 1)))
theorem forceU_eq (x : UInt64) (k : UInt64 → Bool) : forceU x k = k x := by
  have h : ∀ n, Nat.casesOn (motive := fun _ => Bool) n (k (UInt64.ofNat 0)) (fun n => k (UInt64.ofNat (n + 1))) = k (UInt64.ofNat n) := by
    intro n; cases n <;> rfl
  rw [forceU, h, UInt64.ofNat_toNat]
def okB (x y z M m H S : UInt64) (top spr stp : Int) : Bool := ((Float64.cmp m M == some Ordering.eq) || (Float64.isZero M == false && Float64.isZero (Float64.sub M m) == false)) &&
  forceU (Float64.add (Float64.mul M (Float64.ofInt 8)) 4602678819172646912) (fun a => okX a && decide (Flt.toInt Float64.truncOf a = top)) &&
  forceU (Float64.add (Float64.mul (Float64.mul S M) (Float64.ofInt 8)) 4602678819172646912) (fun a => okX a && decide (Flt.toInt Float64.truncOf a = spr)) &&
  forceU (Float64.add (Float64.mul (Float64.mul H (Float64.ofInt 6)) (Float64.ofInt spr)) 4602678819172646912) (fun a => okX a && decide (Flt.toInt Float64.truncOf a = stp))
def okA (r g b : Nat) : Bool := forceU (e8 r) fun x => forceU (e8 g) fun y => forceU (e8 b) fun z => forceU (fM x y z) fun M => forceU (fm x y z) fun m => forceU (outH x y z M m) fun H => forceU (outS M m) fun S => okB x y z M m H S (topN r g b) (sprN r g b) (stpN r g b)
theorem okA_says {r g b : Nat} (h : okA r g b = true) : zOk r g b = true ∧ okX (topX r g b) = true ∧ okX (sprX r g b) = true ∧ okX (stpX r g b) = true ∧ Flt.toInt Float64.truncOf (topX r g b) = (topN r g b : Int) ∧ Flt.toInt Float64.truncOf (sprX r g b) = (sprN r g b : Int) ∧ Flt.toInt Float64.truncOf (stpX r g b) = (stpN r g b : Int) := by
  simp only [okA, forceU_eq, okB, Bool.and_eq_true, decide_eq_true_eq] at h
  obtain ⟨⟨⟨h1, h2, h3⟩, h4, h5⟩, h6, h7⟩ := h
  exact ⟨by simpa only [zOk, Bool.or_eq_true, Bool.and_eq_true] using h1, h2, h4, h6, h3, h5, h7⟩
theorem okA0 : ∀ g < 8, ∀ b < 8, okA 0 g b = true := by decide +kernel
theorem okA1 : ∀ g < 8, ∀ b < 8, okA 1 g b = true := by decide +kernel
theorem okA2 : ∀ g < 8, ∀ b < 8, okA 2 g b = true := by decide +kernel
theorem okA3 : ∀ g < 8, ∀ b < 8, okA 3 g b = true := by decide +kernel
theorem okA4 : ∀ g < 8, ∀ b < 8, okA 4 g b = true := by decide +kernel
theorem okA5 : ∀ g < 8, ∀ b < 8, okA 5 g b = true := by decide +kernel
theorem okA6 : ∀ g < 8, ∀ b < 8, okA 6 g b = true := by decide +kernel
theorem okA7 : ∀ g < 8, ∀ b < 8, okA 7 g b = true := by decide +kernel
theorem okAll {r g b : Nat} (hr : r ≤ 7) (hg : g ≤ 7) (hb : b ≤ 7) : okA r g b = true := by
  have hg' : g < 8 := by omega
  have hb' : b < 8 := by omega
  match r, hr with
  | 0, _ => exact okA0 g hg' b hb'
  | 1, _ => exact okA1 g hg' b hb'
  | 2, _ => exact okA2 g hg' b hb'
  | 3, _ => exact okA3 g hg' b hb'
  | 4, _ => exact okA4 g hg' b hb'
  | 5, _ => exact okA5 g hg' b hb'
  | 6, _ => exact okA6 g hg' b hb'
  | 7, _ => exact okA7 g hg' b hb'
def dueK (top spr stp : Nat) : List Nat :=
  List.replicate (7 - top) 0 ++
    (if stp / max spr 1 % 2 = 1 then List.replicate (stp % max spr 1) (ringC ((stp / max spr 1 + 1) % 6)) ++ List.replicate (spr - stp % max spr 1) (ringC (stp / max spr 1 % 6))
     else List.replicate (spr - stp % max spr 1) (ringC (stp / max spr 1 % 6)) ++ List.replicate (stp % max spr 1) (ringC ((stp / max spr 1 + 1) % 6))) ++
    List.replicate (top - spr) 7
theorem okX_says {x : UInt64} (h : okX x = true) : Float64.isNaN x = false ∧ Float64.isInf x = false := by
  simpa [okX] using h
theorem dueAll : ∀ r < 8, ∀ g < 8, ∀ b < 8, stpN r g b ≤ 1000 ∧ dueC r g b = srt r g b := by decide +kernel
theorem fore_facts {r g b : Nat} (hr : r ≤ 7) (hg : g ≤ 7) (hb : b ≤ 7) : ∃ (H S V : UInt64) (top spr stp : Nat), H = outH (e8 r) (e8 g) (e8 b) (fM (e8 r) (e8 g) (e8 b)) (fm (e8 r) (e8 g) (e8 b)) ∧ S = outS (fM (e8 r) (e8 g) (e8 b)) (fm (e8 r) (e8 g) (e8 b)) ∧ V = fM (e8 r) (e8 g) (e8 b) ∧
    ((Float64.cmp (fm (e8 r) (e8 g) (e8 b)) (fM (e8 r) (e8 g) (e8 b)) == some Ordering.eq) = true ∨ (Float64.isZero (fM (e8 r) (e8 g) (e8 b)) = false ∧ Float64.isZero (Float64.sub (fM (e8 r) (e8 g) (e8 b)) (fm (e8 r) (e8 g) (e8 b))) = false)) ∧
    (Float64.isNaN (Float64.add (Float64.mul V (Float64.ofInt 8)) 4602678819172646912) = false ∧ Float64.isInf (Float64.add (Float64.mul V (Float64.ofInt 8)) 4602678819172646912) = false ∧ Flt.toInt Float64.truncOf (Float64.add (Float64.mul V (Float64.ofInt 8)) 4602678819172646912) = (top : Int)) ∧
    (Float64.isNaN (Float64.add (Float64.mul (Float64.mul S V) (Float64.ofInt 8)) 4602678819172646912) = false ∧ Float64.isInf (Float64.add (Float64.mul (Float64.mul S V) (Float64.ofInt 8)) 4602678819172646912) = false ∧ Flt.toInt Float64.truncOf (Float64.add (Float64.mul (Float64.mul S V) (Float64.ofInt 8)) 4602678819172646912) = (spr : Int)) ∧
    (Float64.isNaN (Float64.add (Float64.mul (Float64.mul H (Float64.ofInt 6)) (Float64.ofInt (spr : Int))) 4602678819172646912) = false ∧ Float64.isInf (Float64.add (Float64.mul (Float64.mul H (Float64.ofInt 6)) (Float64.ofInt (spr : Int))) 4602678819172646912) = false ∧ Flt.toInt Float64.truncOf (Float64.add (Float64.mul (Float64.mul H (Float64.ofInt 6)) (Float64.ofInt (spr : Int))) 4602678819172646912) = (stp : Int)) ∧
    top ≤ 7 ∧ spr ≤ top ∧ stp ≤ 1000 ∧ dueK top spr stp = srt r g b := by
  obtain ⟨hz, ok1, ok2, ok3, hT, hS', hU⟩ := okA_says (okAll hr hg hb)
  obtain ⟨hst, hdue⟩ := dueAll r (by omega) g (by omega) b (by omega)
  refine ⟨_, _, _, topN r g b, sprN r g b, stpN r g b, rfl, rfl, rfl, ?_, ⟨(okX_says ok1).1, (okX_says ok1).2, hT⟩, ⟨(okX_says ok2).1, (okX_says ok2).2, hS'⟩, ⟨(okX_says ok3).1, (okX_says ok3).2, hU⟩, ?_, ?_, hst, hdue⟩
  · simpa only [zOk, Bool.or_eq_true, Bool.and_eq_true, beq_iff_eq] using hz
  · unfold topN; omega
  · unfold sprN; omega
end Mine
end

section
open PySem PySem.W PySem.Spec PySem.Calls PyProof.Rows
namespace Mine
theorem quiet_C9 : True := by w_top off; trivial
theorem ring_item : ∀ j < 6, Txt.item (Str.ofString "rygcbm") ((j : Nat) : Int) = txt [ringC j] := by decide +kernel
theorem fold_rep (x : Array Nat) : ∀ (n : Nat) (acc : Array Nat), ((List.replicate n x).foldl (· ++ ·) acc).toList = acc.toList ++ (List.replicate n x.toList).flatten
  | 0, acc => by simp
  | n + 1, acc => by simp [List.replicate_succ, fold_rep x n, List.append_assoc]
theorem flat_rep (c : Nat) : ∀ n : Nat, (List.replicate n [c]).flatten = List.replicate n c
  | 0 => rfl
  | n + 1 => by simp [List.replicate_succ, flat_rep c n]
theorem mul_one (c : Nat) (n : Int) : Txt.mul (txt [c]) n = txt (List.replicate n.toNat c) := by
  unfold Txt.mul
  split
  · have : n.toNat = 0 := by omega
    rw [this]; rfl
  · split
    · rename_i h
      have : n = 1 := by
        have h2 : ((txt [c]).length == 0) = false := rfl
        rw [h2, Bool.or_false] at h
        exact eq_of_beq h
      subst this; rfl
    · apply Str.ext'
      apply Array.toList_inj.mp
      show ((List.replicate n.toNat (txt [c]).cps).foldl (· ++ ·) #[]).toList = _
      rw [fold_rep]
      simp [txt, flat_rep]
theorem mulok_one (c : Nat) {n : Int} (h0 : 0 ≤ n) (h1 : n ≤ 100) : MulOk (txt [c]) n := by
  have hl : (txt [c]).length = 1 := rfl
  refine ⟨?_, ?_, ?_⟩
  · rw [decide_eq_false (by omega), decide_eq_false (by omega)]; rfl
  · intro hx _
    rw [hl]
    have : 1 ≤ (2 ^ 63 - 1) / n ∨ n < 1 := by
      by_cases hn : n < 1
      · exact .inr hn
      · left
        have := Int.le_ediv_of_mul_le (a := 1) (b := 2 ^ 63 - 1) (c := n) (by omega) (by omega)
        exact this
    rcases this with h | h
    · omega
    · exact absurd h hx
  · intro _ _
    rw [hl]
    unfold Builtin.Str.tooLong
    rw [sizeLine_eq]
    exact decide_eq_false (by omega)
theorem txt_app (a b : List Nat) : txt a ++ txt b = txt (a ++ b) := by
  apply Str.ext'
  apply Array.toList_inj.mp
  simp [txt, Str.cps_append]
section
variable {prog : Program} {w : World} {A : Around} {E : Value → Shared → Prop} {s : Shared} {Q : Value → Shared → Prop} {t u : Tok} {n : Int}
theorem mulT (c : Nat) (h0 : 0 ≤ n) (h1 : n ≤ 100) (h : ∀ t' k, Q (.str (txt (List.replicate n.toNat c)) t') { s with toks := k }) : wpAny (model prog w) A (binaryOp .Mult (.str (txt [c]) t) (.int n u)) Q E s :=
  SB.mul (mulok_one c h0 h1) fun t' k => by rw [mul_one]; exact h t' k
theorem mulI {j : Nat} (h0 : 0 ≤ n) (h1 : n ≤ 100) (h : ∀ t' k, Q (.str (txt (List.replicate n.toNat (ringC (j % 6)))) t') { s with toks := k }) : wpAny (model prog w) A (binaryOp .Mult (.str (Txt.item (Str.ofString "rygcbm") ((j % 6 : Nat) : Int)) t) (.int n u)) Q E s := by
  rw [ring_item (j % 6) (Nat.mod_lt _ (by decide))]; exact mulT _ h0 h1 h
theorem mulK (h0 : 0 ≤ n) (h1 : n ≤ 100) (h : ∀ t' k, Q (.str (txt (List.replicate n.toNat 0)) t') { s with toks := k }) : wpAny (model prog w) A (binaryOp .Mult (.str (Str.ofString "k") t) (.int n u)) Q E s := by
  rw [show Str.ofString "k" = txt [0] from by decide +kernel]; exact mulT _ h0 h1 h
theorem mulW (h0 : 0 ≤ n) (h1 : n ≤ 100) (h : ∀ t' k, Q (.str (txt (List.replicate n.toNat 7)) t') { s with toks := k }) : wpAny (model prog w) A (binaryOp .Mult (.str (Str.ofString "w") t) (.int n u)) Q E s := by
  rw [show Str.ofString "w" = txt [7] from by decide +kernel]; exact mulT _ h0 h1 h
theorem mulI' {j k : Nat} (e : n = (k : Int)) (hk : k ≤ 100) (h : ∀ t' k', Q (.str (txt (List.replicate k (ringC (j % 6)))) t') { s with toks := k' }) : wpAny (model prog w) A (binaryOp .Mult (.str (Txt.item (Str.ofString "rygcbm") ((j % 6 : Nat) : Int)) t) (.int n u)) Q E s := by
  subst e; exact mulI (by omega) (by omega) (by rw [Int.toNat_natCast]; exact h)
theorem mulK' {k : Nat} (e : n = (k : Int)) (hk : k ≤ 100) (h : ∀ t' k', Q (.str (txt (List.replicate k 0)) t') { s with toks := k' }) : wpAny (model prog w) A (binaryOp .Mult (.str (Str.ofString "k") t) (.int n u)) Q E s := by
  subst e; exact mulK (by omega) (by omega) (by rw [Int.toNat_natCast]; exact h)
theorem mulW' {k : Nat} (e : n = (k : Int)) (hk : k ≤ 100) (h : ∀ t' k', Q (.str (txt (List.replicate k 7)) t') { s with toks := k' }) : wpAny (model prog w) A (binaryOp .Mult (.str (Str.ofString "w") t) (.int n u)) Q E s := by
  subst e; exact mulW (by omega) (by omega) (by rw [Int.toNat_natCast]; exact h)
theorem lb1 {k c : Nat} (h : k ≤ 100) : (List.replicate k c).length ≤ 100 := by rw [List.length_replicate]; exact h
theorem lb2 {a b : List Nat} {x y : Nat} (ha : a.length ≤ x) (hb : b.length ≤ y) : (a ++ b).length ≤ x + y := by rw [List.length_append]; exact Nat.add_le_add ha hb
theorem lb3 {a b : List Nat} {x y : Nat} (ha : a.length ≤ x) (hb : b.length ≤ y) (h : x + y ≤ 1000) : a.length + b.length ≤ 1000 := Nat.le_trans (Nat.add_le_add ha hb) h
theorem addT {a b : List Nat} (hl : a.length + b.length ≤ 1000) (h : ∀ t' k, Q (.str (txt (a ++ b)) t') { s with toks := k }) : wpAny (model prog w) A (binaryOp .Add (.str (txt a) t) (.str (txt b) u)) Q E s := by
  refine add_str (fun t' k => ?_) (by rw [txt_length, txt_length, sizeLine_eq]; omega)
  rw [txt_app]; exact h t' k
end
theorem storeX_K {M : Model} {A : Around} {E : Value → Shared → Prop} {s : Shared} {h₀ : Heap} {L a : Addr} {m : Str → Option Value} {cn : Str} {cs : Scope} {ccd : Value} {cl : List (Str × Addr)} {x : Str} {v : Value} {Q : Unit → Shared → Prop} {news : List (Addr × Obj)} (F : Fr h₀ L s.heap m) (N : News h₀ L s.heap news)
    (h : ∀ h' k, Fr h₀ L h' (fun y => if y = x then some v else m y) → News h₀ L h' news → Q () { s with heap := h', toks := k })
    (hk : cs.kind = .function := by rfl) (hx : (envX cn cs L a ccd cl).kindOf x = some .local := by rfl) : wpAny M A (storeName (envX cn cs L a ccd cl) x v) Q E s := storeX_L F N (fun h' => h h' _) hk hx
local macro_rules | `(tactic| walk_at $s:str) => if ["call ref", "binaryOp FloorDiv int int", "binaryOp Mod int int"].contains s.getString then `(tactic| refine Hold.out ?_) else Lean.Macro.throwUnsupported
local macro_rules | `(tactic| walk_at "binaryOp Mult str int") => `(tactic| ((first | refine mulI' (by first | assumption | rfl) (by assumption) ?_ | refine mulK' (by assumption) (by assumption) ?_ | refine mulW' (by assumption) (by assumption) ?_); intro _ _))
local macro_rules | `(tactic| walk_at "binaryOp Add str str") => `(tactic| (refine addT (lb3 (by first | exact lb1 (by assumption) | exact lb2 (lb1 (by assumption)) (lb1 (by assumption)) | exact lb2 (lb2 (lb1 (by assumption)) (lb1 (by assumption))) (lb1 (by assumption))) (lb1 (by assumption)) (by decide)) ?_; intro _ _))
local macro_rules | `(tactic| walk_at "storeName") => `(tactic| refine hold_nm ["top", "spread", "steps", "sixth", "more"] (by decide) ?_)
set_option maxRecDepth 100000 in
set_option maxHeartbeats 2000000 in
theorem foretold_c (w : World) (s₀ : Shared) (mg mb : Str → Option Value) (r g b : Nat) (p : Int) (t1 t2 t3 t4 tr : Tok) (d D : Addr) (n : Nat) (news : List (Addr × Obj))
  (hr : r ≤ 7) (hg : g ≤ 7) (hb : b ≤ 7) (hD : (D, tupObj #[.int (r : Int) t1, .int (g : Int) t2, .int (b : Int) t3, .int p t4, .ref d] n) ∈ news) :
  Ctc w s₀ mg mb 5 89 [.ref D, .str (Str.ofString "rygcbm") tr] news fun v tl => ∃ t, v = .str (txt (srt r g b)) t ∧ tl = [] := by
  intro dp un gd cn cs a ccd cl outer A₀ base h₀ L m s Q E B F X N T hk hdp hu ret
  revert X; k_fill; intro X
  refine wpAny_call ?_
  k_dflt cell_enter
  rename_i g' L' h' FG' F' N' B' X' T'
  obtain ⟨mm, F1⟩ := frArgs2 (Str.ofString "light") (Str.ofString "ring") F' rfl rfl (by decide)
  clear F'
  try dsimp only
  k_steps
  unfold Hold
  obtain ⟨H, S, V, top, spr, stp, eH, eS, eV, hz, ⟨n1, i1, e1⟩, ⟨n2, i2, e2⟩, ⟨n3, i3, e3⟩, ht7, hs7, hst, hdue⟩ := fore_facts hr hg hb
  refine rgb_c w s₀ mg mb (e8 r) (e8 g) (e8 b) _ _ _ _ hz _ _ _ _ _ _ _ _ _ _ _ _ _ _ _ _ _ (by assumption) F1 (by assumption) N' (by assumption) rfl ?_ ?_ ?_
  · show dp + 1 + 3 < recursionLimit; omega
  · show un + 3 + 10 * 3 < cLine; omega
  rintro v tl h2 tk2 ⟨D2, u1, u2, u3, n4, rfl, rfl⟩ hl F2 N2
  rw [← eH, ← eS, ← eV] at N2
  have N3 : News g' L' h2 ((D2, tupObj #[.float H u1, .float S u2, .float V u3] n4) :: news) := N2
  clear F1 N' N2 hz eH eS eV
  have hret : ∀ (t : Tok) (h' : Heap) (tk' : Nat), Fr h₀ L h' m → News h₀ L h' news → Q (.str (txt (dueK top spr stp)) t) { s with heap := h', toks := tk' } := fun t h' tk' F' N' => ret _ [] _ _ ⟨t, by rw [hdue], rfl⟩ (fun _ _ _ h => nomatch h) F' N'
  clear ret hdue
  unfold dueK at hret
  try dsimp only
  k_steps
  unfold Hold
  rw [e1]
  rename Fr g' L' _ _ => F4
  rename News g' L' _ _ => N4
  refine storeX_K F4 N4 ?_
  intro h5 _ F5 N5
  dsimp only
  clear F4 N4
  try dsimp only
  k_steps
  unfold Hold
  rw [e2]
  rename Fr g' L' _ _ => F4
  rename News g' L' _ _ => N4
  refine storeX_K F4 N4 ?_
  intro h6 _ F6 N6
  dsimp only
  clear F4 N4
  have hsprf : Int.natAbs (spr : Int) < 2 ^ 1024 - 2 ^ 970 := by
    rw [Int.natAbs_natCast]
    exact Nat.lt_of_lt_of_le (show spr < 8 by omega) (by decide +kernel)
  try dsimp only
  k_steps
  unfold Hold
  rw [e3]
  rename Fr g' L' _ _ => F4
  rename News g' L' _ _ => N4
  refine storeX_K F4 N4 ?_
  intro h7 _ F7 N7
  dsimp only
  clear F4 N4 n1 i1 e1 n2 i2 e2 n3 i3 e3 hsprf
  try dsimp only
  k_steps
  unfold Hold
  have hmx : (if 1 > (spr : Int) then (1 : Int) else (spr : Int)) = ((max spr 1 : Nat) : Int) := by split <;> omega
  rw [hmx]
  have hmp : 0 < max spr 1 := by omega
  generalize hMX : max spr 1 = mx at *
  have hm0 : (mx : Int) ≠ 0 := by omega
  refine floordiv_int hm0 ?_ (Or.inl (PyProof.noPylong_small (by omega)))
  rw [← Int.ofNat_fdiv]
  try dsimp only
  k_steps
  unfold Hold
  rename Fr g' L' _ _ => F4
  rename News g' L' _ _ => N4
  refine storeX_K F4 N4 ?_
  intro h8 _ F8 N8
  dsimp only
  clear F4 N4
  try dsimp only
  k_steps
  unfold Hold
  rw [hmx]
  refine mod_int' hm0 ?_
  rw [← Int.ofNat_fmod]
  try dsimp only
  k_steps
  unfold Hold
  rename Fr g' L' _ _ => F4
  rename News g' L' _ _ => N4
  refine storeX_K F4 N4 ?_
  intro h9 _ F9 N9
  dsimp only
  clear F4 N4 hmx
  have hmo : stp % mx < mx := Nat.mod_lt _ hmp
  have hsi : stp / mx ≤ 1000 := Nat.le_trans (Nat.div_le_self _ _) hst
  have hmo2 : stp % mx ≤ spr := by omega
  generalize stp / mx = six at *
  generalize stp % mx = mo at *
  have q1 : (7 : Int) - (top : Int) = ((7 - top : Nat) : Int) := by omega
  have q2 : (spr : Int) - (mo : Int) = ((spr - mo : Nat) : Int) := by omega
  have q4 : (top : Int) - (spr : Int) = ((top - spr : Nat) : Int) := by omega
  have w1 : 7 - top ≤ 100 := by omega
  have w2 : spr - mo ≤ 100 := by omega
  have w3 : mo ≤ 100 := by omega
  have w4 : top - spr ≤ 100 := by omega
  clear ht7 hs7 hst hmo hsi hmo2 hm0 hmp hMX hr hg hb hD
  generalize 7 - top = k1 at *
  generalize spr - mo = k2 at *
  generalize top - spr = k4 at *
  try dsimp only
  k_steps
  unfold Hold
  refine mod_int' (by decide) ?_
  rw [show (6 : Int) = ((6 : Nat) : Int) from rfl, ← Int.ofNat_fmod]
  try dsimp only
  k_steps
  unfold Hold
  refine mod_int' (by decide) ?_
  rw [show ((six : Int) + 1).fmod ((6 : Nat) : Int) = (((six + 1) % 6 : Nat) : Int) from by rw [Int.ofNat_fmod]; rfl]
  try dsimp only
  k_steps
  unfold Hold
  refine mod_int' (by decide) ?_
  rw [show (six : Int).fmod 2 = ((six % 2 : Nat) : Int) from by rw [Int.ofNat_fmod]; rfl]
  try dsimp only
  k_steps
  · rename_i kF kN _ _
    have hodd : six % 2 = 1 := by omega
    rw [if_pos hodd] at hret
    simp only [← List.append_assoc] at hret
    exact hret _ _ _ kF (news_sub kN fun p hp => .tail _ (.tail _ hp))
  · rename_i kF kN _ _
    have hodd : ¬ six % 2 = 1 := by omega
    rw [if_neg hodd] at hret
    simp only [← List.append_assoc] at hret
    exact hret _ _ _ kF (news_sub kN fun p hp => .tail _ hp)
end Mine
end

section
open PySem PySem.W PySem.Spec PySem.Calls PyProof.Rows
namespace Mine
section
variable {prog : Program} {w : World} {A : Around} {E : Value → Shared → Prop} {s : Shared} {env : Env} {h₀ : Heap} {L : Addr} {m : Str → Option Value} {news : List (Addr × Obj)} {body : List Stmt} {Q : Flow → Shared → Prop}
theorem iter_list {x : Str} {px : Pos} {l : Addr} {items : Array Value}
    (J : Nat → (Str → Option Value) → List (Addr × Obj) → Prop)
    (hh : A.handled = none) (F : Fr h₀ env.locals s.heap m) (N : News h₀ env.locals s.heap news)
    (hl : s.heap.IsList l items) (hne : env.locals ≠ l)
    (hx : env.kindOf x = some .local) (hp : (env.scope.kind == .class || (env.scope.kind == .module && env.locals != env.globals)) = false)
    (h0 : J 0 m news)
    (step : ∀ i v m₁ news₁ h₁ tk₁ own I, items[i]? = some v → J i m₁ news₁ → (∀ p ∈ news₁, p.1 ≠ I) → (∀ p ∈ own, p.1 = I ∨ p.1 = l) → (∃ oI, (I, oI) ∈ own) →
      Fr h₀ env.locals h₁ (fun z => if z = x then some v else m₁ z) → News h₀ env.locals h₁ (own ++ news₁) →
      wpAny (model prog w) A (execs body env) (LoopStepV h₀ env.locals [I] own (J (i + 1)) { s with heap := h₁, toks := tk₁ } (fun v s' => Q (.ret v) s') fun s' => Q .next s') E { s with heap := h₁, toks := tk₁ })
    (done : ∀ h' tk m' news', J items.size m' news' → Fr h₀ env.locals h' m' → News h₀ env.locals h' news' → Q .next { s with heap := h', toks := tk }) :
    wpAny (model prog w) A (pyIter (.ref l)) (fun it s₂ => TurnsAt prog w A h₀ env (.Name x px) body Q E it s₂) E s := by
  refine wpAny_pyIter_list hl ?_
  have up : ∀ (o : Obj) b o', s.heap.get? b = some o' → (s.heap.push o).get? b = some o' := fun o b o' e => Heap.get?_push_of_some _ e
  have hlt : l < s.heap.objs.size := by obtain ⟨o, e, _⟩ := hl; exact Heap.lt_size e
  refine turns_of (s₂ := { s with heap := s.heap.push _ }) J (Walks.list hh s.heap.objs.size l (Nat.ne_of_lt hlt) items) (fun i h st => by obtain ⟨o, e, _⟩ := st.1; exact ⟨o, e⟩) (next_is_new F) ?_ (F.keeps (up _)) (N.grown (up _)) (fun p hp => Nat.ne_of_lt (Heap.lt_size (N p hp).1)) ⟨⟨_, Heap.get?_push_size _ rfl, rfl, rfl⟩, hl.at fun o e => up _ _ _ e⟩ hx hp h0 ?_ done
  · intro q
    rcases (by simpa using q : env.locals = s.heap.objs.size ∨ env.locals = l) with e | e
    · exact absurd F.ns.lt (e ▸ Nat.lt_irrefl _)
    · exact hne e
  · rintro i v m₁ news₁ h₁ tk₁ own hi hP hJ hoff hown hin F₁ N₁
    exact step i v m₁ news₁ h₁ tk₁ own _ hP hJ hoff (fun p hp => by simpa using hown p hp) hin F₁ N₁
theorem mem4 {α : Type} {own rest : List α} {a b c d : α} : ∀ p, p ∈ a :: b :: c :: d :: (own ++ rest) ↔ p ∈ own ++ a :: b :: c :: d :: rest := by
  intro p
  simp only [List.mem_append, List.mem_cons]
  constructor
  · rintro (h | h | h | h | h | h)
    · exact .inr (.inl h)
    · exact .inr (.inr (.inl h))
    · exact .inr (.inr (.inr (.inl h)))
    · exact .inr (.inr (.inr (.inr (.inl h))))
    · exact .inl h
    · exact .inr (.inr (.inr (.inr (.inr h))))
  · rintro (h | h | h | h | h | h)
    · exact .inr (.inr (.inr (.inr (.inl h))))
    · exact .inl h
    · exact .inr (.inl h)
    · exact .inr (.inr (.inl h))
    · exact .inr (.inr (.inr (.inl h)))
    · exact .inr (.inr (.inr (.inr (.inr h))))
theorem led4 {h : Heap} {own : List (Addr × Obj)} {a b c d : Addr × Obj} (N : News h₀ L h (own ++ a :: b :: c :: d :: news)) : News h₀ L h (a :: b :: c :: d :: (own ++ news)) := news_sub N fun q hq => (mem4 q).mp hq
theorem led4' {h : Heap} {own : List (Addr × Obj)} {a b c d : Addr × Obj} (N : News h₀ L h (a :: b :: c :: d :: (own ++ news))) : News h₀ L h (own ++ a :: b :: c :: d :: news) := news_sub N fun q hq => (mem4 q).mpr hq
theorem intsAre_snoc {vs : List Value} {ys : List Int} (h : IntsAre vs ys) (y : Int) (t : Tok) : IntsAre (vs ++ [.int y t]) (ys ++ [y]) := by
  induction h with
  | nil => exact .cons y t .nil
  | cons z u _ ih => exact .cons z u ih
end
end Mine
end

section
open PySem PySem.W PySem.Spec PySem.Calls PyProof.Rows
namespace Mine
local macro_rules | `(tactic| walk_at "none such") => `(tactic| fail)
theorem quiet_C10 : True := by w_top off; trivial
/-- the six sums -/
def sixS (p0 p1 p2 p3 p4 p5 p6 p7 r g b : Int) : List Int :=
  [7 * p0 + (p4 - p0) * r + (p6 - p4) * g + (p7 - p6) * b, 7 * p0 + (p4 - p0) * r + (p5 - p4) * b + (p7 - p5) * g,
   7 * p0 + (p2 - p0) * g + (p6 - p2) * r + (p7 - p6) * b, 7 * p0 + (p2 - p0) * g + (p3 - p2) * b + (p7 - p3) * r,
   7 * p0 + (p1 - p0) * b + (p5 - p1) * r + (p7 - p5) * g, 7 * p0 + (p1 - p0) * b + (p3 - p1) * g + (p7 - p3) * r]
theorem kda_int {prog : Program} {w : World} {A : Around} {E : Value → Shared → Prop} {s : Shared} {h₀ : Heap} {L : Addr} {news : List (Addr × Obj)} {d : Addr} {o : Obj} {kvs : List (Int × Value)} {value slice : PySem.Expr} {k n : Int} {t u : Tok} {Q : Value → Shared → Prop} (N : News h₀ L s.heap news) (hp : (d, o) ∈ news) (hd : o.IsDictOf (intKind prog w) kvs) (hl : valueAt kvs k = some (.int n t)) (h : ∀ tk, Q (.int n t) { s with toks := tk })
    (hs : subscripted slice false (.ref d) (.int k u) = operate [.ref d, .int k u] (getItem (.ref d) (.int k u)) := by with_unfolding_all rfl) (hg : ∀ r, letTemporaryGo value (.ref d) r = pure () := by intro _; with_unfolding_all rfl) :
    wpAny (model prog w) A (subscriptTail value slice (.ref d) (.int k u)) Q E s := kda_item (knd := intKind prog w) N hp hd (intKind_is _ _ _ _) hl (h _) hs hg
local macro_rules | `(tactic| walk_at $s:str) => if ["subscriptTail Name Name ref int", "subscriptTail Name BinOp ref int"].contains s.getString then `(tactic| refine Hold.out ?_) else Lean.Macro.throwUnsupported
/-- the three parts' numbers, in the loop's order -/
def aN (i : Nat) : Nat := [4, 2, 1].getD i 0
abbrev eightO (p0 p1 p2 p3 p4 p5 p6 p7 : Int) (q0 q1 q2 q3 q4 q5 q6 q7 : Tok) (nP : Nat) : Obj := { cls := .type "list", data := .seq #[.int p0 q0, .int p1 q1, .int p2 q2, .int p3 q3, .int p4 q4, .int p5 q5, .int p6 q6, .int p7 q7] nP }
/-- the outer loop's word -/
inductive J10 (six : List Int) (lS d5 PL : Addr) (tail : List (Addr × Obj)) (i : Nat) (m₁ : Str → Option Value) (nw : List (Addr × Obj)) : Prop
  | mk : m₁ (Str.ofString "sums") = some (.ref lS) → m₁ (Str.ofString "parts") = some (.ref d5) → m₁ (Str.ofString "prices") = some (.ref PL) →
    ∀ (vs : List Value) (nS : Nat), IntsAre vs (six.take (2 * i)) → nw = (lS, W.listOf vs.toArray nS) :: tail → J10 six lS d5 PL tail i m₁ nw
/-- the inner loop's word -/
inductive J10i (six : List Int) (lS d5 PL : Addr) (tail : List (Addr × Obj)) (i : Nat) (tk9 : Tok) (j : Nat) (m₁ : Str → Option Value) (nw : List (Addr × Obj)) : Prop
  | mk : m₁ (Str.ofString "a") = some (.int ((aN i : Nat) : Int) tk9) → m₁ (Str.ofString "sums") = some (.ref lS) → m₁ (Str.ofString "parts") = some (.ref d5) → m₁ (Str.ofString "prices") = some (.ref PL) →
    ∀ (vs : List Value) (nS : Nat), IntsAre vs (six.take (2 * i + if i < j then j - 1 else j)) → nw = (lS, W.listOf vs.toArray nS) :: tail → J10i six lS d5 PL tail i tk9 j m₁ nw
theorem six_facts (p0 p1 p2 p3 p4 p5 p6 p7 r g b : Int) (u1 u2 u3 : Tok) (hr0 : 0 ≤ r) (hr1 : r ≤ 7) (hg0 : 0 ≤ g) (hg1 : g ≤ 7) (hb0 : 0 ≤ b) (hb1 : b ≤ 7) {i j : Nat} (hi : i < 3) (hj : j < 3) (hne : i ≠ j) : ∃ (xa xb xc : Int) (ua ub uc : Tok), aN i + aN j < 8 ∧ ¬ ((aN i : Nat) : Int) = ((aN j : Nat) : Int) ∧
    valueAt [((4 : Int), Value.int r u1), ((2 : Int), .int g u2), ((1 : Int), .int b u3)] ((aN i : Nat) : Int) = some (.int xa ua) ∧ valueAt [((4 : Int), Value.int r u1), ((2 : Int), .int g u2), ((1 : Int), .int b u3)] ((aN j : Nat) : Int) = some (.int xb ub) ∧
    valueAt [((4 : Int), Value.int r u1), ((2 : Int), .int g u2), ((1 : Int), .int b u3)] (7 - ((aN i : Nat) : Int) - ((aN j : Nat) : Int)) = some (.int xc uc) ∧ (0 ≤ xa ∧ xa ≤ 7) ∧ (0 ≤ xb ∧ xb ≤ 7) ∧ (0 ≤ xc ∧ xc ≤ 7) ∧
    (sixS p0 p1 p2 p3 p4 p5 p6 p7 r g b)[2 * i + if i < j then j - 1 else j]? = some (7 * p0 + ([p0, p1, p2, p3, p4, p5, p6, p7].getD (aN i) 0 - p0) * xa + ([p0, p1, p2, p3, p4, p5, p6, p7].getD (aN i + aN j) 0 - [p0, p1, p2, p3, p4, p5, p6, p7].getD (aN i) 0) * xb + (p7 - [p0, p1, p2, p3, p4, p5, p6, p7].getD (aN i + aN j) 0) * xc) := by
  have a3 : i = 0 ∨ i = 1 ∨ i = 2 := by omega
  have b3 : j = 0 ∨ j = 1 ∨ j = 2 := by omega
  rcases a3 with rfl | rfl | rfl <;> rcases b3 with rfl | rfl | rfl
  · exact absurd rfl hne
  · exact ⟨r, g, b, u1, u2, u3, by decide, by decide, rfl, rfl, rfl, ⟨hr0, hr1⟩, ⟨hg0, hg1⟩, ⟨hb0, hb1⟩, rfl⟩
  · exact ⟨r, b, g, u1, u3, u2, by decide, by decide, rfl, rfl, rfl, ⟨hr0, hr1⟩, ⟨hb0, hb1⟩, ⟨hg0, hg1⟩, rfl⟩
  · exact ⟨g, r, b, u2, u1, u3, by decide, by decide, rfl, rfl, rfl, ⟨hg0, hg1⟩, ⟨hr0, hr1⟩, ⟨hb0, hb1⟩, rfl⟩
  · exact absurd rfl hne
  · exact ⟨g, b, r, u2, u3, u1, by decide, by decide, rfl, rfl, rfl, ⟨hg0, hg1⟩, ⟨hb0, hb1⟩, ⟨hr0, hr1⟩, rfl⟩
  · exact ⟨b, r, g, u3, u1, u2, by decide, by decide, rfl, rfl, rfl, ⟨hb0, hb1⟩, ⟨hr0, hr1⟩, ⟨hg0, hg1⟩, rfl⟩
  · exact ⟨b, g, r, u3, u2, u1, by decide, by decide, rfl, rfl, rfl, ⟨hb0, hb1⟩, ⟨hg0, hg1⟩, ⟨hr0, hr1⟩, rfl⟩
  · exact absurd rfl hne
theorem abs_at {i : Nat} {v : Value} {t0 t1 t2 : Tok} (h : (#[Value.int 4 t0, .int 2 t1, .int 1 t2] : Array Value)[i]? = some v) : i < 3 ∧ ∃ t, v = .int ((aN i : Nat) : Int) t := by
  have hi : i < 3 := (Array.getElem?_eq_some_iff.mp h).1
  refine ⟨hi, ?_⟩
  match i, hi with
  | 0, _ => exact ⟨t0, (Option.some.inj h).symm⟩
  | 1, _ => exact ⟨t1, (Option.some.inj h).symm⟩
  | 2, _ => exact ⟨t2, (Option.some.inj h).symm⟩
theorem six_snoc {vs : List Value} {six : List Int} {i j : Nat} {y : Int} {t : Tok} (hne : i ≠ j) (h : IntsAre vs (six.take (2 * i + if i < j then j - 1 else j))) (e : six[2 * i + if i < j then j - 1 else j]? = some y) : IntsAre (vs ++ [.int y t]) (six.take (2 * i + if i < j + 1 then j + 1 - 1 else j + 1)) := by
  have h1 : (2 * i + if i < j + 1 then j + 1 - 1 else j + 1) = (2 * i + if i < j then j - 1 else j) + 1 := by split <;> split <;> omega
  rw [h1, List.take_add_one, e]
  exact intsAre_snoc h y t
theorem six_keep {vs : List Value} {six : List Int} {i : Nat} (h : IntsAre vs (six.take (2 * i + if i < i then i - 1 else i))) : IntsAre vs (six.take (2 * i + if i < i + 1 then i + 1 - 1 else i + 1)) := by
  have h1 : (2 * i + if i < i + 1 then i + 1 - 1 else i + 1) = (2 * i + if i < i then i - 1 else i) := by split <;> split <;> omega
  rw [h1]; exact h
theorem six_last {vs : List Value} {six : List Int} {i : Nat} (hi : i < 3) (h : IntsAre vs (six.take (2 * i + if i < 3 then 3 - 1 else 3))) : IntsAre vs (six.take (2 * (i + 1))) := by
  rw [if_pos hi] at h; exact h
theorem app_led {prog : Program} {w : World} {A : Around} {E : Value → Shared → Prop} {s : Shared} {h₀ : Heap} {L : Addr} {m : Str → Option Value} {news rest : List (Addr × Obj)} {D : Addr} {vs : List Value} {n : Nat} {x : Value} {Q : Value → Shared → Prop} (F : Fr h₀ L s.heap m) (N : News h₀ L s.heap news) (hm : (D, W.listOf vs.toArray n) ∈ news) (hr : ∀ p ∈ rest, p ∈ news ∧ p.1 ≠ D) (hsz : vs.length ≤ 1000)
    (h : ∀ h', Fr h₀ L h' m → News h₀ L h' ((D, W.listOf (vs ++ [x]).toArray (n + 1)) :: rest) → Q .none { s with heap := h' }) : wpAny (model prog w) A (call (.builtin "list.append") [.ref D, x]) Q E s := by
  have z := N _ hm
  refine append_at (hsz := by rw [List.size_toArray, sizeLine_eq]; omega) z.1 fun h' hs ho' => ?_
  rw [List.push_toArray] at ho'
  exact h h' (F.change hs z.2.1 z.2.2) (news_turn N hm hr hs ho')
local macro_rules | `(tactic| walk_at "call builtin:list.append") => `(tactic| refine Hold.out ?_)
theorem allLt_mem {d : Nat} : ∀ {l : List (Addr × Obj)}, AllLt d l → ∀ p ∈ l, p.1 < d := kst_ltOf
theorem len_small {vs : List Value} {six : List Int} {k : Nat} (h : IntsAre vs (six.take k)) (e : six.length = 6) : vs.length ≤ 1000 := by
  have := h.length; rw [this, List.length_take]; omega
local macro_rules | `(tactic| walk_at "pyIter ref") => `(tactic| refine Hold.out ?_)
local macro_rules | `(tactic| walk_at "storeName") => `(tactic| refine hold_nm ["parts"] (by decide) ?_)
set_option maxRecDepth 100000 in
set_option maxHeartbeats 1000000 in
theorem dearest_c (w : World) (s₀ : Shared) (mg mb : Str → Option Value) (r g b p : Int) (t1 t2 t3 t4 : Tok) (d D PL : Addr) (n nP : Nat) (p0 p1 p2 p3 p4 p5 p6 p7 : Int) (q0 q1 q2 q3 q4 q5 q6 q7 : Tok) (news : List (Addr × Obj))
  (hr0 : 0 ≤ r) (hr1 : r ≤ 7) (hg0 : 0 ≤ g) (hg1 : g ≤ 7) (hb0 : 0 ≤ b) (hb1 : b ≤ 7)
  (hD : (D, tupObj #[.int r t1, .int g t2, .int b t3, .int p t4, .ref d] n) ∈ news)
  (hP : (PL, ({ cls := .type "list", data := .seq #[.int p0 q0, .int p1 q1, .int p2 q2, .int p3 q3, .int p4 q4, .int p5 q5, .int p6 q6, .int p7 q7] nP } : Obj)) ∈ news) :
  Ctc w s₀ mg mb 5 96 [.ref D, .ref PL] news fun v tl => ∃ M t, v = .int M t ∧ M ∈ sixS p0 p1 p2 p3 p4 p5 p6 p7 r g b ∧ (∀ x ∈ sixS p0 p1 p2 p3 p4 p5 p6 p7 r g b, x ≤ M) ∧ tl = [] := by
  intro dp un gd cn cs a ccd cl outer A₀ base h₀ L m s Q E B F X N T hk hdp hu ret
  revert X; k_fill; intro X
  refine wpAny_call ?_
  k_dflt cell_enter
  rename_i g' L' h' FG' F' N' B' X' T'
  obtain ⟨mm, F1⟩ := frArgs2 (Str.ofString "light") (Str.ofString "prices") F' rfl rfl (by decide)
  clear F'
  have N2 : News g' L' h' ((D, tupObj #[.int r t1, .int g t2, .int b t3, .int p t4, .ref d] n) :: (PL, ({ cls := .type "list", data := .seq #[.int p0 q0, .int p1 q1, .int p2 q2, .int p3 q3, .int p4 q4, .int p5 q5, .int p6 q6, .int p7 q7] nP } : Obj)) :: news) := news_sub N' (fun p hp => by
    rcases List.mem_cons.mp hp with rfl | hp
    · exact hD
    · rcases List.mem_cons.mp hp with rfl | hp
      · exact hP
      · exact hp)
  clear N'
  try dsimp only
  k_steps
  unfold Hold
  rename_i d5 h5 o5 F5a N5a l5 l5' lo5 h6 o6 F6 N6 hd6 hf6
  have hd7 : ∃ u1 u2 u3, o6.IsDictOf (intKind prg w) [((4 : Int), .int r u1), ((2 : Int), .int g u2), ((1 : Int), .int b u3)] := ⟨_, _, _, hd6⟩
  clear hd6 hf6 F5a N5a
  obtain ⟨u1, u2, u3, hd7⟩ := hd7
  refine storeX_L F6 N6 ?_
  intro h7 F7 N7
  clear F6 N6 F1 N2
  dsimp only
  have hsl : (sixS p0 p1 p2 p3 p4 p5 p6 p7 r g b).length = 6 := rfl
  generalize hsix : sixS p0 p1 p2 p3 p4 p5 p6 p7 r g b = six at ret hsl
  try dsimp only
  k_steps
  unfold Hold
  rename_i lS h8 lS1 h9 lA h10 F10 N10 lA1
  have hlA := N10 _ (.head _)
  refine iter_list (items := #[_, _, _]) (J10 six lS d5 PL ((d5, o6) :: (D, tupObj #[.int r t1, .int g t2, .int b t3, .int p t4, .ref d] n) :: (PL, ({ cls := .type "list", data := .seq #[.int p0 q0, .int p1 q1, .int p2 q2, .int p3 q3, .int p4 q4, .int p5 q5, .int p6 q6, .int p7 q7] nP } : Obj)) :: news)) rfl F10 (news_sub N10 (fun p hp => .tail _ hp)) ⟨_, hlA.1, rfl, _, rfl⟩ (Ne.symm hlA.2.1) rfl rfl ⟨rfl, rfl, rfl, [], 0, .nil, rfl⟩ ?_ ?_
  · rintro i v m₁ news₁ h₁ tk₁ own I hv ⟨e1, e2, e3, vs, nS, hvs, rfl⟩ hoff hown ⟨oI, hin⟩ F₁ N₁
    have F₂ := frKnow (a := Str.ofString "sums") (frKnow (a := Str.ofString "parts") (frKnow (a := Str.ofString "prices") F₁ e3) e2) e1
    have N₂ := led4 N₁
    clear F₁ F10 N10 N₁
    obtain ⟨hi3, tk9, rfl⟩ := abs_at hv
    clear hv
    have hrs : ∀ p, p ∈ news → p.1 ≠ I := fun p hp => hoff p (.tail _ (.tail _ (.tail _ (.tail _ hp))))
    have ho1 : lS ≠ I := hoff _ (.head _)
    have ho2 : d5 ≠ I := hoff _ (.tail _ (.head _))
    have ho3 : D ≠ I := hoff _ (.tail _ (.tail _ (.head _)))
    have ho4 : PL ≠ I := hoff _ (.tail _ (.tail _ (.tail _ (.head _))))
    clear hoff hlA
    have hrest : ∀ (own2 : List (Addr × Obj)) (I2 lB : Addr) (Z : List (Addr × Obj)), (∀ z ∈ own2, z.1 = I2 ∨ z.1 = lB) → lS ≠ I2 → lS < lB → (∀ z ∈ (d5, o6) :: (D, tupObj #[.int r t1, .int g t2, .int b t3, .int p t4, .ref d] n) :: (PL, ({ cls := .type "list", data := .seq #[.int p0 q0, .int p1 q1, .int p2 q2, .int p3 q3, .int p4 q4, .int p5 q5, .int p6 q6, .int p7 q7] nP } : Obj)) :: (own2 ++ (own ++ news)), z ∈ Z) → ∀ z ∈ (d5, o6) :: (D, tupObj #[.int r t1, .int g t2, .int b t3, .int p t4, .ref d] n) :: (PL, ({ cls := .type "list", data := .seq #[.int p0 q0, .int p1 q1, .int p2 q2, .int p3 q3, .int p4 q4, .int p5 q5, .int p6 q6, .int p7 q7] nP } : Obj)) :: (own2 ++ (own ++ news)), z ∈ Z ∧ z.1 ≠ lS := by
      intro own2 I2 lB Z h1 h2 h3 h4 z hp
      refine ⟨h4 z hp, ?_⟩
      obtain ⟨l1, l2, l3, l4⟩ := lS1
      rcases List.mem_cons.mp hp with rfl | hp
      · exact Nat.ne_of_lt l1
      rcases List.mem_cons.mp hp with rfl | hp
      · exact Nat.ne_of_lt l2
      rcases List.mem_cons.mp hp with rfl | hp
      · exact Nat.ne_of_lt l3
      rcases List.mem_append.mp hp with hp | hp
      · rcases h1 z hp with e | e
        · rw [e]; exact h2.symm
        · rw [e]; exact Nat.ne_of_gt h3
      rcases List.mem_append.mp hp with hp | hp
      · rcases hown z hp with e | e
        · rw [e]; exact ho1.symm
        · rw [e]; exact Nat.ne_of_gt lA1.1
      · exact Nat.ne_of_lt (allLt_mem l4 z hp)
    have hoffX : ∀ (I2 : Addr) (vs vs' : List Value) (nS nS' : Nat), (∀ z ∈ (lS, W.listOf vs.toArray nS) :: (d5, o6) :: (D, tupObj #[.int r t1, .int g t2, .int b t3, .int p t4, .ref d] n) :: (PL, ({ cls := .type "list", data := .seq #[.int p0 q0, .int p1 q1, .int p2 q2, .int p3 q3, .int p4 q4, .int p5 q5, .int p6 q6, .int p7 q7] nP } : Obj)) :: (own ++ news), z.1 ≠ I2) → ∀ z ∈ (lS, W.listOf vs'.toArray nS') :: (d5, o6) :: (D, tupObj #[.int r t1, .int g t2, .int b t3, .int p t4, .ref d] n) :: (PL, ({ cls := .type "list", data := .seq #[.int p0 q0, .int p1 q1, .int p2 q2, .int p3 q3, .int p4 q4, .int p5 q5, .int p6 q6, .int p7 q7] nP } : Obj)) :: (own ++ news), z.1 ≠ I2 := by
      intro I2 vs vs' nS nS' h z hp
      rcases List.mem_cons.mp hp with rfl | hp
      · exact h (lS, W.listOf vs.toArray nS) (.head _)
      · exact h z (.tail _ hp)
    try dsimp only
    k_steps
    unfold Hold
    rename Fr g' L' _ _ => F11
    rename News g' L' _ _ => N11
    rename_i lB _ lB1
    have hlB := N11 _ (.head _)
    refine iter_list (items := #[_, _, _]) (J10i six lS d5 PL ((d5, o6) :: (D, tupObj #[.int r t1, .int g t2, .int b t3, .int p t4, .ref d] n) :: (PL, ({ cls := .type "list", data := .seq #[.int p0 q0, .int p1 q1, .int p2 q2, .int p3 q3, .int p4 q4, .int p5 q5, .int p6 q6, .int p7 q7] nP } : Obj)) :: (own ++ news)) i tk9) rfl F11 (news_sub N11 (fun p hp => .tail _ hp)) ⟨_, hlB.1, rfl, _, rfl⟩ (Ne.symm hlB.2.1) rfl rfl ⟨rfl, rfl, rfl, rfl, vs, nS, hvs, rfl⟩ ?_ ?_
    · clear hvs vs nS N11 F11 e1 e2 e3
      rintro j v m₂ news₂ h₂ tk₂ own2 I2 hv ⟨e0, e1, e2, e3, vs, nS, hvs, rfl⟩ hoff2 hown2 ⟨oI2, hin2⟩ F₂ N₂
      obtain ⟨hj3, tk8, rfl⟩ := abs_at hv
      clear hv
      have F₃ := frKnow (a := Str.ofString "a") (frKnow (a := Str.ofString "sums") (frKnow (a := Str.ofString "parts") (frKnow (a := Str.ofString "prices") F₂ e3) e2) e1) e0
      have N₃ := led4 N₂
      clear F₂ N₂ hlB
      by_cases hij : i = j
      · subst hij
        try dsimp only
        k_steps
        · exact absurd rfl (by assumption)
        · refine LoopStepU.intro F₃ (led4' N₃) (fun p hp q => ?_) ⟨rfl, rfl, rfl, rfl, _, _, six_keep hvs, rfl⟩
          exact hoffX _ _ _ _ _ hoff2 p hp (List.mem_singleton.mp q)
      · obtain ⟨xa, xb, xc, ua, ub, uc, hab, hne, hva, hvb, hvc, hxa, hxb, hxc, hsx⟩ := six_facts p0 p1 p2 p3 p4 p5 p6 p7 r g b u1 u2 u3 hr0 hr1 hg0 hg1 hb0 hb1 hi3 hj3 hij
        rw [hsix] at hsx
        obtain ⟨hxa0, hxa1⟩ := hxa
        obtain ⟨hxb0, hxb1⟩ := hxb
        obtain ⟨hxc0, hxc1⟩ := hxc
        have hPl : h₂.IsList PL _ := ⟨_, (N₃ _ (.tail _ (.tail _ (.tail _ (.head _))))).1, rfl, _, rfl⟩
        have hPi : IntsAre [Value.int p0 q0, .int p1 q1, .int p2 q2, .int p3 q3, .int p4 q4, .int p5 q5, .int p6 q6, .int p7 q7] [p0, p1, p2, p3, p4, p5, p6, p7] := .cons _ _ (.cons _ _ (.cons _ _ (.cons _ _ (.cons _ _ (.cons _ _ (.cons _ _ (.cons _ _ .nil)))))))
        try dsimp only
        k_steps
        · unfold Hold
          refine item_list_ints hPl hPi (by omega) (by show _ < ((8 : Nat) : Int); omega) (by omega) ?_
          intro _
          try dsimp only
          k_steps
          unfold Hold
          refine kda_int N₃ (.tail _ (.head _)) hd7 hva ?_
          intro _
          try dsimp only
          k_steps
          unfold Hold
          refine item_list_ints hPl hPi (by omega) (by show _ < ((8 : Nat) : Int); omega) (by omega) ?_
          intro _
          try dsimp only
          k_steps
          unfold Hold
          refine item_list_ints hPl hPi (by omega) (by show _ < ((8 : Nat) : Int); omega) (by omega) ?_
          intro _
          try dsimp only
          k_steps
          unfold Hold
          refine kda_int N₃ (.tail _ (.head _)) hd7 hvb ?_
          intro _
          try dsimp only
          k_steps
          unfold Hold
          refine item_list_ints hPl hPi (by omega) (by show _ < ((8 : Nat) : Int); omega) (by omega) ?_
          intro _
          try dsimp only
          k_steps
          unfold Hold
          refine kda_int N₃ (.tail _ (.head _)) hd7 hvc ?_
          intro _
          try dsimp only
          k_steps
          unfold Hold
          rename Fr g' _ _ _ => F5
          rename News g' _ _ _ => N5
          refine app_led F5 N5 (.head _) (rest := (d5, o6) :: (D, tupObj #[.int r t1, .int g t2, .int b t3, .int p t4, .ref d] n) :: (PL, ({ cls := .type "list", data := .seq #[.int p0 q0, .int p1 q1, .int p2 q2, .int p3 q3, .int p4 q4, .int p5 q5, .int p6 q6, .int p7 q7] nP } : Obj)) :: (own2 ++ (own ++ news))) (hrest own2 I2 lB _ hown2 (hoff2 _ (.head _)) lB1.1 fun p hp => .tail _ hp) (len_small hvs hsl) ?_
          intro h6 F6 N6
          try dsimp only
          k_steps
          refine LoopStepU.intro F6 (led4' N6) (fun p hp q => ?_) ⟨rfl, rfl, rfl, rfl, _, _, six_snoc hij hvs hsx, rfl⟩
          exact hoffX _ _ _ _ _ hoff2 p hp (List.mem_singleton.mp q)
        · exact absurd (by assumption) hne
    · rintro h3 tk3 m3 news3 ⟨e0, e1, e2, e3, vs, nS, hvs, rfl⟩ F3 N3
      try dsimp only
      k_steps
      refine LoopStepU.intro F3 (led4' N3) ?_ ⟨e1, e2, e3, vs, nS, six_last hi3 hvs, rfl⟩
      intro p hp q
      rw [List.mem_singleton] at q
      rcases List.mem_cons.mp hp with rfl | hp
      · exact ho1 q
      rcases List.mem_cons.mp hp with rfl | hp
      · exact ho2 q
      rcases List.mem_cons.mp hp with rfl | hp
      · exact ho3 q
      rcases List.mem_cons.mp hp with rfl | hp
      · exact ho4 q
      · exact hrs p hp q
  · rintro h2 tk2 m2 news2 ⟨e1, e2, e3, vs, nS, hvs, rfl⟩ F2 N2
    have F3 := frKnow (a := Str.ofString "sums") F2 e1
    have hls := N2 _ (.head _)
    clear F2 F10 N10
    try dsimp only
    k_steps
    subst hsix
    refine max_list_N (ns := sixS p0 p1 p2 p3 p4 p5 p6 p7 r g b) rfl F3 N2 ⟨_, hls.1, rfl, _, rfl⟩ hvs (by exact Nat.le_of_ble_eq_true rfl) ?_
    intro h8 M t tk8 F8 N8 hM hall
    clear F3 N2
    try dsimp only
    k_steps
    rename_i kF kN _ _
    exact ret _ [] _ _ ⟨M, t, rfl, hM, hall, rfl⟩ (fun _ _ _ h => nomatch h) kF (news_sub kN fun p hp => .tail _ (.tail _ (.tail _ (.tail _ hp))))
end Mine
end

section
open PySem PySem.W PySem.Spec PySem.Calls PyProof.Rows
namespace Mine
/-! the price's law: straightened lamps cost no more -/
theorem wgt_nonneg (t : Int) (k : Nat) : 0 ≤ wgt t k := Int.fmod_nonneg_of_pos _ (by decide)
theorem thA_mod : ∀ x < 8, ∀ y < 8, ∀ k < 3, (thA (x &&& y)).getD k 0 + (thA (x ||| y)).getD k 0 = (thA x).getD k 0 + (thA y).getD k 0 := by decide
theorem thB_sub : ∀ x < 8, ∀ y < 8, ∀ k < 5, (thB (x &&& y)).getD k 0 + (thB (x ||| y)).getD k 0 ≤ (thB x).getD k 0 + (thB y).getD k 0 := by decide
theorem prA_sub (t : Int) {x y : Nat} (hx : x < 8) (hy : y < 8) : ∀ k ≤ 3, prA (x &&& y) t k + prA (x ||| y) t k = prA x t k + prA y t k
  | 0, _ => rfl
  | k + 1, h => by
    have ih := prA_sub t hx hy k (by omega)
    have e := thA_mod x hx y hy k (by omega)
    have e2 : ((thA (x &&& y)).getD k 0 + (thA (x ||| y)).getD k 0) * chg t k = ((thA x).getD k 0 + (thA y).getD k 0) * chg t k := by rw [e]
    rw [Int.add_mul, Int.add_mul] at e2
    simp only [prA]; omega
theorem prB_sub (t : Int) {x y : Nat} (hx : x < 8) (hy : y < 8) : ∀ k ≤ 5, prB (x &&& y) t k + prB (x ||| y) t k ≤ prB x t k + prB y t k
  | 0, _ => Int.le_of_eq (prA_sub t hx hy 3 (by decide))
  | k + 1, h => by
    have ih := prB_sub t hx hy k (by omega)
    have e2 := Int.mul_le_mul_of_nonneg_right (thB_sub x hx y hy k (by omega)) (wgt_nonneg t k)
    rw [Int.add_mul, Int.add_mul] at e2
    simp only [prB]; omega
theorem price_sub (t : Int) : ∀ x < 8, ∀ y < 8, price t (x &&& y) + price t (x ||| y) ≤ price t x + price t y := fun x hx y hy => prB_sub t hx hy 5 (by decide)

/-! Lovasz: the sorted row costs the greatest of the six sums -/
def S3 (p0 pa pab p7 x y z : Int) : Int := 7 * p0 + (pa - p0) * x + (pab - pa) * y + (p7 - pab) * z
theorem swap12 {p0 pa pb pab p7 x y z : Int} (h : x ≤ y) (hs : p0 + pab ≤ pa + pb) : S3 p0 pa pab p7 x y z ≤ S3 p0 pb pab p7 y x z := by
  have e := Int.mul_nonneg (show 0 ≤ y - x by omega) (show 0 ≤ pa + pb - pab - p0 by omega)
  have e2 : S3 p0 pb pab p7 y x z - S3 p0 pa pab p7 x y z = (y - x) * (pa + pb - pab - p0) := by
    unfold S3
    simp only [Int.sub_mul, Int.mul_sub, Int.mul_add, Int.mul_comm y, Int.mul_comm x]
    omega
  omega
theorem swap23 {p0 pa pab pac p7 x y z : Int} (h : y ≤ z) (hs : pa + p7 ≤ pab + pac) : S3 p0 pa pab p7 x y z ≤ S3 p0 pa pac p7 x z y := by
  have e := Int.mul_nonneg (show 0 ≤ z - y by omega) (show 0 ≤ pab + pac - pa - p7 by omega)
  have e2 : S3 p0 pa pac p7 x z y - S3 p0 pa pab p7 x y z = (z - y) * (pab + pac - pa - p7) := by
    unfold S3
    simp only [Int.sub_mul, Int.mul_sub, Int.mul_add, Int.mul_comm y, Int.mul_comm z]
    omega
  omega
/-- of the six orders the falling one is the dearest -/
theorem best {p0 pa pb pc pab pac pbc p7 x y z : Int} (h1 : y ≤ x) (h2 : z ≤ y) (s1 : p0 + pab ≤ pa + pb) (s2 : p0 + pac ≤ pa + pc) (s3 : p0 + pbc ≤ pb + pc) (s4 : pa + p7 ≤ pab + pac) (s5 : pb + p7 ≤ pab + pbc) (s6 : pc + p7 ≤ pac + pbc) :
    S3 p0 pa pac p7 x z y ≤ S3 p0 pa pab p7 x y z ∧ S3 p0 pb pab p7 y x z ≤ S3 p0 pa pab p7 x y z ∧ S3 p0 pb pbc p7 y z x ≤ S3 p0 pa pab p7 x y z ∧ S3 p0 pc pac p7 z x y ≤ S3 p0 pa pab p7 x y z ∧ S3 p0 pc pbc p7 z y x ≤ S3 p0 pa pab p7 x y z := by
  have a1 : S3 p0 pa pac p7 x z y ≤ S3 p0 pa pab p7 x y z := swap23 h2 (by omega)
  have a2 : S3 p0 pb pab p7 y x z ≤ S3 p0 pa pab p7 x y z := swap12 h1 (by omega)
  have a3 : S3 p0 pb pbc p7 y z x ≤ S3 p0 pb pab p7 y x z := swap23 (by omega) (by omega)
  have a4 : S3 p0 pc pac p7 z x y ≤ S3 p0 pa pac p7 x z y := swap12 (by omega) (by omega)
  have a5 : S3 p0 pc pbc p7 z y x ≤ S3 p0 pc pac p7 z x y := swap23 h1 (by omega)
  exact ⟨a1, a2, Int.le_trans a3 a2, Int.le_trans a4 a1, Int.le_trans a5 (Int.le_trans a4 a1)⟩
theorem sumBy_append (f : Nat → Int) (l l' : List Nat) : sumBy f (l ++ l') = sumBy f l + sumBy f l' := by simp [sumBy]
theorem sumBy_rep (f : Nat → Int) (c : Nat) : ∀ n : Nat, sumBy f (List.replicate n c) = (n : Int) * f c
  | 0 => by simp [sumBy]
  | n + 1 => by
    have := sumBy_rep f c n
    rw [List.replicate_succ]
    simp only [sumBy, List.map_cons, List.sum_cons] at this ⊢
    rw [this, Int.natCast_add, Int.add_mul]; simp; omega
def blk (a ab x y z : Nat) : List Nat := List.replicate (7 - x) 0 ++ List.replicate (x - y) a ++ List.replicate (y - z) ab ++ List.replicate z 7
theorem sum_blk (f : Nat → Int) (a ab : Nat) {x y z : Nat} (h0 : x ≤ 7) (h1 : y ≤ x) (h2 : z ≤ y) : sumBy f (blk a ab x y z) = S3 (f 0) (f a) (f ab) (f 7) x y z := by
  unfold blk S3
  rw [sumBy_append, sumBy_append, sumBy_append, sumBy_rep, sumBy_rep, sumBy_rep, sumBy_rep]
  rw [Int.ofNat_sub h0, Int.ofNat_sub h1, Int.ofNat_sub h2]
  simp only [Int.sub_mul]
  have e1 := Int.mul_comm (x : Int) (f 0)
  have e2 := Int.mul_comm (x : Int) (f a)
  have e3 := Int.mul_comm (y : Int) (f a)
  have e4 := Int.mul_comm (y : Int) (f ab)
  have e5 := Int.mul_comm (z : Int) (f ab)
  have e6 := Int.mul_comm (z : Int) (f 7)
  omega
theorem srt_blk0 : ∀ r < 8, ∀ g < 8, ∀ b < 8, g ≤ r ∧ b ≤ g → srt r g b = blk 4 6 r g b := by decide +kernel
theorem srt_blk1 : ∀ r < 8, ∀ g < 8, ∀ b < 8, b ≤ r ∧ g ≤ b → srt r g b = blk 4 5 r b g := by decide +kernel
theorem srt_blk2 : ∀ r < 8, ∀ g < 8, ∀ b < 8, r ≤ g ∧ b ≤ r → srt r g b = blk 2 6 g r b := by decide +kernel
theorem srt_blk3 : ∀ r < 8, ∀ g < 8, ∀ b < 8, b ≤ g ∧ r ≤ b → srt r g b = blk 2 3 g b r := by decide +kernel
theorem srt_blk4 : ∀ r < 8, ∀ g < 8, ∀ b < 8, r ≤ b ∧ g ≤ r → srt r g b = blk 1 5 b r g := by decide +kernel
theorem srt_blk5 : ∀ r < 8, ∀ g < 8, ∀ b < 8, g ≤ b ∧ r ≤ g → srt r g b = blk 1 3 b g r := by decide +kernel
theorem sixS_eq (p0 p1 p2 p3 p4 p5 p6 p7 r g b : Int) : sixS p0 p1 p2 p3 p4 p5 p6 p7 r g b = [S3 p0 p4 p6 p7 r g b, S3 p0 p4 p5 p7 r b g, S3 p0 p2 p6 p7 g r b, S3 p0 p2 p3 p7 g b r, S3 p0 p1 p5 p7 b r g, S3 p0 p1 p3 p7 b g r] := rfl
theorem dearest_is (f : Nat → Int) (hf : ∀ x < 8, ∀ y < 8, f (x &&& y) + f (x ||| y) ≤ f x + f y) {r g b : Nat} (hr : r ≤ 7) (hg : g ≤ 7) (hb : b ≤ 7) {M : Int}
    (hM : M ∈ sixS (f 0) (f 1) (f 2) (f 3) (f 4) (f 5) (f 6) (f 7) r g b) (hall : ∀ x ∈ sixS (f 0) (f 1) (f 2) (f 3) (f 4) (f 5) (f 6) (f 7) r g b, x ≤ M) : sumBy f (srt r g b) = M := by
  rw [sixS_eq] at hM hall
  simp only [List.mem_cons, List.not_mem_nil, or_false] at hM
  simp only [List.forall_mem_cons] at hall
  obtain ⟨a1, a2, a3, a4, a5, a6, _⟩ := hall
  have s42 : f 0 + f 6 ≤ f 4 + f 2 := hf 4 (by decide) 2 (by decide)
  have s41 : f 0 + f 5 ≤ f 4 + f 1 := hf 4 (by decide) 1 (by decide)
  have s21 : f 0 + f 3 ≤ f 2 + f 1 := hf 2 (by decide) 1 (by decide)
  have s65 : f 4 + f 7 ≤ f 6 + f 5 := hf 6 (by decide) 5 (by decide)
  have s63 : f 2 + f 7 ≤ f 6 + f 3 := hf 6 (by decide) 3 (by decide)
  have s53 : f 1 + f 7 ≤ f 5 + f 3 := hf 5 (by decide) 3 (by decide)
  have b1 := srt_blk0 r (by omega) g (by omega) b (by omega)
  have b2 := srt_blk1 r (by omega) g (by omega) b (by omega)
  have b3 := srt_blk2 r (by omega) g (by omega) b (by omega)
  have b4 := srt_blk3 r (by omega) g (by omega) b (by omega)
  have b5 := srt_blk4 r (by omega) g (by omega) b (by omega)
  have b6 := srt_blk5 r (by omega) g (by omega) b (by omega)
  have fin : ∀ T : Int, (∀ x, (x = S3 (f 0) (f 4) (f 6) (f 7) r g b ∨ x = S3 (f 0) (f 4) (f 5) (f 7) r b g ∨ x = S3 (f 0) (f 2) (f 6) (f 7) g r b ∨ x = S3 (f 0) (f 2) (f 3) (f 7) g b r ∨ x = S3 (f 0) (f 1) (f 5) (f 7) b r g ∨ x = S3 (f 0) (f 1) (f 3) (f 7) b g r) → x ≤ T) → T ≤ M → T = M := fun T h1 h2 => Int.le_antisymm h2 (h1 M hM)
  have hord : (g ≤ r ∧ b ≤ g) ∨ (b ≤ r ∧ g ≤ b) ∨ (r ≤ g ∧ b ≤ r) ∨ (b ≤ g ∧ r ≤ b) ∨ (r ≤ b ∧ g ≤ r) ∨ (g ≤ b ∧ r ≤ g) := by omega
  rcases hord with ⟨c1, c2⟩ | ⟨c1, c2⟩ | ⟨c1, c2⟩ | ⟨c1, c2⟩ | ⟨c1, c2⟩ | ⟨c1, c2⟩
  · rw [b1 ⟨c1, c2⟩, sum_blk f 4 6 hr c1 c2]
    obtain ⟨k1, k2, k3, k4, k5⟩ := best (p0 := f 0) (pa := f 4) (pb := f 2) (pc := f 1) (pab := f 6) (pac := f 5) (pbc := f 3) (p7 := f 7) (x := r) (y := g) (z := b) (by omega) (by omega) (by omega) (by omega) (by omega) (by omega) (by omega) (by omega)
    refine fin _ ?_ a1
    rintro x (rfl | rfl | rfl | rfl | rfl | rfl)
    · exact Int.le_refl _
    all_goals assumption
  · rw [b2 ⟨c1, c2⟩, sum_blk f 4 5 hr c1 c2]
    obtain ⟨k1, k2, k3, k4, k5⟩ := best (p0 := f 0) (pa := f 4) (pb := f 1) (pc := f 2) (pab := f 5) (pac := f 6) (pbc := f 3) (p7 := f 7) (x := r) (y := b) (z := g) (by omega) (by omega) (by omega) (by omega) (by omega) (by omega) (by omega) (by omega)
    refine fin _ ?_ a2
    rintro x (rfl | rfl | rfl | rfl | rfl | rfl)
    all_goals first | assumption | exact Int.le_refl _
  · rw [b3 ⟨c1, c2⟩, sum_blk f 2 6 hg c1 c2]
    obtain ⟨k1, k2, k3, k4, k5⟩ := best (p0 := f 0) (pa := f 2) (pb := f 4) (pc := f 1) (pab := f 6) (pac := f 3) (pbc := f 5) (p7 := f 7) (x := g) (y := r) (z := b) (by omega) (by omega) (by omega) (by omega) (by omega) (by omega) (by omega) (by omega)
    refine fin _ ?_ a3
    rintro x (rfl | rfl | rfl | rfl | rfl | rfl)
    all_goals first | assumption | exact Int.le_refl _
  · rw [b4 ⟨c1, c2⟩, sum_blk f 2 3 hg c1 c2]
    obtain ⟨k1, k2, k3, k4, k5⟩ := best (p0 := f 0) (pa := f 2) (pb := f 1) (pc := f 4) (pab := f 3) (pac := f 6) (pbc := f 5) (p7 := f 7) (x := g) (y := b) (z := r) (by omega) (by omega) (by omega) (by omega) (by omega) (by omega) (by omega) (by omega)
    refine fin _ ?_ a4
    rintro x (rfl | rfl | rfl | rfl | rfl | rfl)
    all_goals first | assumption | exact Int.le_refl _
  · rw [b5 ⟨c1, c2⟩, sum_blk f 1 5 hb c1 c2]
    obtain ⟨k1, k2, k3, k4, k5⟩ := best (p0 := f 0) (pa := f 1) (pb := f 4) (pc := f 2) (pab := f 5) (pac := f 3) (pbc := f 6) (p7 := f 7) (x := b) (y := r) (z := g) (by omega) (by omega) (by omega) (by omega) (by omega) (by omega) (by omega) (by omega)
    refine fin _ ?_ a5
    rintro x (rfl | rfl | rfl | rfl | rfl | rfl)
    all_goals first | assumption | exact Int.le_refl _
  · rw [b6 ⟨c1, c2⟩, sum_blk f 1 3 hb c1 c2]
    obtain ⟨k1, k2, k3, k4, k5⟩ := best (p0 := f 0) (pa := f 1) (pb := f 2) (pc := f 4) (pab := f 3) (pac := f 5) (pbc := f 6) (p7 := f 7) (x := b) (y := g) (z := r) (by omega) (by omega) (by omega) (by omega) (by omega) (by omega) (by omega) (by omega)
    refine fin _ ?_ a6
    rintro x (rfl | rfl | rfl | rfl | rfl | rfl)
    all_goals first | assumption | exact Int.le_refl _

/-! the counts -/
theorem bump_keys (l : List (Str × Int)) (k : Str) : (bump l k).map (·.1) = if l.any (fun p => decide (p.1 = k)) then l.map (·.1) else l.map (·.1) ++ [k] := by
  unfold bump
  split
  · rw [List.map_map]
    refine List.map_congr_left fun p hp => ?_
    show (if p.1 = k then (p.1, p.2 + 1) else p).1 = p.1
    split <;> rfl
  · simp
theorem bump_nodup {l : List (Str × Int)} (h : (l.map (·.1)).Nodup) (k : Str) : ((bump l k).map (·.1)).Nodup := by
  rw [bump_keys]
  split
  · exact h
  · rename_i hk
    rw [List.nodup_append]
    refine ⟨h, by simp, ?_⟩
    intro a ha b hb e
    rw [List.mem_singleton] at hb
    obtain ⟨p, hp, rfl⟩ := List.mem_map.mp ha
    exact hk (List.any_eq_true.mpr ⟨p, hp, decide_eq_true (e.trans hb)⟩)
theorem map_sum {k : Str} : ∀ {l : List (Str × Int)}, (l.map (·.1)).Nodup → (l.any fun p => decide (p.1 = k)) = true → ((l.map fun p => if p.1 = k then (p.1, p.2 + 1) else p).map (·.2)).sum = (l.map (·.2)).sum + 1
  | [], _, h => by cases h
  | p :: r, hn, h => by
    simp only [List.map_cons, List.nodup_cons] at hn
    by_cases e : p.1 = k
    · have : (r.map fun p => if p.1 = k then (p.1, p.2 + 1) else p) = r := by
        conv => rhs; rw [← List.map_id r]
        refine List.map_congr_left fun q hq => ?_
        rw [if_neg]; rfl
        exact fun w => hn.1 (List.mem_map.mpr ⟨q, hq, w.trans e.symm⟩)
      simp only [List.map_cons, List.sum_cons, this, e, if_true]; omega
    · have h2 : (r.any fun p => decide (p.1 = k)) = true := by
        rw [List.any_cons, decide_eq_false e, Bool.false_or] at h; exact h
      have ih := map_sum hn.2 h2
      simp only [List.map_cons, List.sum_cons, if_neg e]
      rw [ih]; omega
theorem bump_sum {l : List (Str × Int)} (h : (l.map (·.1)).Nodup) (k : Str) : ((bump l k).map (·.2)).sum = (l.map (·.2)).sum + 1 := by
  unfold bump
  split
  · rename_i hk; exact map_sum h hk
  · simp
theorem cnts_sum (cs : List Nat) : ((cnts cs).map (·.2)).sum = cs.length := by
  have : ∀ (cs : List Nat) (l : List (Str × Int)), (l.map (·.1)).Nodup → ((cs.foldl (fun l c => bump l (ltr c)) l).map (·.2)).sum = (l.map (·.2)).sum + cs.length := by
    intro cs
    induction cs with
    | nil => intro l _; simp
    | cons c r ih =>
      intro l hn
      rw [List.foldl_cons, ih _ (bump_nodup hn _), bump_sum hn, List.length_cons]; omega
  simpa [cnts] using this cs [] (by simp)
/-- the letters of the row, each at its first stand, with how often it stands there -/
def itemsTo (es : List Nat) (i : Nat) : List (Str × Int) := (List.range i).filterMap fun k => match es[k]? with
  | some c => if c ∈ es.take k then none else some (ltr c, (es.count c : Int))
  | none => none
theorem items_srt : ∀ r < 8, ∀ g < 8, ∀ b < 8, cnts (srt r g b) = itemsTo (srt r g b) 7 := by decide +kernel
theorem bits_le {f : Nat → Int} {ds : List Nat} (h7 : ds.length = 7) (h : ∀ c ∈ ds, 0 ≤ f c ∧ f c ≤ 1) : ∃ r : Nat, r ≤ 7 ∧ sumBy f ds = r := by
  obtain ⟨a, b, c, d, e, k, g, rfl⟩ := seven h7
  simp only [List.forall_mem_cons] at h
  obtain ⟨p0, p1, p2, p3, p4, p5, p6, _⟩ := h
  have : sumBy f [a, b, c, d, e, k, g] = f a + (f b + (f c + (f d + (f e + (f k + (f g + 0)))))) := rfl
  exact ⟨(sumBy f [a, b, c, d, e, k, g]).toNat, by omega, by omega⟩
end Mine
end

section
open PySem PySem.W PySem.Spec PySem.Calls PyProof.Rows
namespace Mine
/-! the law's own frame, from its i-th statement on -/
def lawSt : Stmt := prg.main.body.getLastD (.Pass default)
def lawS : Scope := match lawSt with | .FunctionDef _ _ _ _ _ _ scope _ _ _ => scope | _ => default
def lawB : List Stmt := match lawSt with | .FunctionDef _ _ body _ _ _ _ _ _ _ => body | _ => []
def tailB (i : Nat) : List Stmt := lawB.drop i
def stB (i : Nat) : Stmt := lawB.getD i (.Pass default)
def lawCl (L : Addr) : List (Str × Addr) := [(Str.ofString "due", L + 1 + 1 + 1 + 1 + 1), (Str.ofString "drawn", L + 1 + 1 + 1 + 1), (Str.ofString "names", L + 1 + 1 + 1), (Str.ofString "total", L + 1 + 1), (Str.ofString "script", L + 1)]
/-- the call's end -/
abbrev LawFrom (w : World) (s₀ : Shared) (mg mb : Str → Option Value) (i : Nat) (Pre : Heap → Addr → (Str → Option Value) → List (Addr × Obj) → Prop) : Prop :=
  ∀ (dp un : Nat) (gd : Option (List Code)) (a : Addr) (ccd : Value) (outer : List Env) (A₀ : Around) (base h₀ : Heap) (L : Addr) (m : Str → Option Value) (news : List (Addr × Obj)) (s : Shared) (Q : Flow → Shared → Prop) (E : Value → Shared → Prop) (cs : Scope) (ss : List Stmt),
    cs = lawS → ss = tailB i →
    Below A₀ base outer h₀ → Fr h₀ L s.heap m → (hd.heap_39 w.params).In h₀ → News h₀ L s.heap news → Top hd.view_39 (looseW hd.view_39 []) (ExcName.means s₀.heap) mg mb h₀ →
    PassesOwn (model PySem.Challenge.rw_pw0006_01.row.prog w) (ktrTop dp un gd (Str.ofString "law") cs L a ccd (lawCl L) outer) (envX (Str.ofString "law") cs L a ccd (lawCl L)) E → dp + 12 < recursionLimit → un + 200 < cLine →
    Pre h₀ L m news → (∀ h' tk' m', Fr h₀ L h' m' → Q (.ret (.bool true)) { s with heap := h', toks := tk' }) →
    wpAny (model PySem.Challenge.rw_pw0006_01.row.prog w) (ktrTop dp un gd (Str.ofString "law") cs L a ccd (lawCl L) outer) (execs ss (envX (Str.ofString "law") cs L a ccd (lawCl L))) Q E s
theorem tail0 : tailB 0 = stB 0 :: stB 1 :: tailB 2 := by with_unfolding_all rfl
/-- the script and its ints -/
inductive Scr (h₀ : Heap) (ns : List Int) (v : Value) : Prop
  | mk (aS : Addr) (vsS : List Value) : v = .ref aS → h₀.IsList aS vsS.toArray → IntsAre vsS ns → Scr h₀ ns v
inductive Pre0 (ns : List Int) (h₀ : Heap) (L : Addr) (m : Str → Option Value) (news : List (Addr × Obj)) : Prop
  | mk : ns.length ≤ 63 → ∀ (o1 o2 o3 o4 o5 : Obj) (vs : Value) (v2 v3 v4 v5 : Option Value), news = [(L + 1 + 1 + 1 + 1 + 1, o5), (L + 1 + 1 + 1 + 1, o4), (L + 1 + 1 + 1, o3), (L + 1 + 1, o2), (L + 1, o1)] → Scr h₀ ns vs →
    o1.data = .cell (some vs) → o2.data = .cell v2 → o3.data = .cell v3 → o4.data = .cell v4 → o5.data = .cell v5 → Pre0 ns h₀ L m news
/-- the law's five cells -/
inductive CellsAt (ns : List Int) (h₀ : Heap) (L : Addr) (v4 v5 : Option Value) (news : List (Addr × Obj)) : Prop
  | mk : ns.length ≤ 63 → ∀ (o1 o2 o3 o4 o5 : Obj) (vs : Value) (t2 t3 : Tok), news = [(L + 1 + 1 + 1 + 1 + 1, o5), (L + 1 + 1 + 1 + 1, o4), (L + 1 + 1 + 1, o3), (L + 1 + 1, o2), (L + 1, o1)] → Scr h₀ ns vs →
    o1.data = .cell (some vs) → o2.data = .cell (some (.int ns.sum t2)) → o3.data = .cell (some (.str (Str.ofString "kbgcrmyw") t3)) → o4.data = .cell v4 → o5.data = .cell v5 → CellsAt ns h₀ L v4 v5 news
abbrev Pre := Heap → Addr → (Str → Option Value) → List (Addr × Obj) → Prop
def Pre2 (ns : List Int) : Pre := fun h₀ L m news => ∃ v4 v5, CellsAt ns h₀ L v4 v5 news
inductive Pre3 (ns : List Int) (h₀ : Heap) (L : Addr) (m : Str → Option Value) (news : List (Addr × Obj)) : Prop
  | mk (v4 v5 : Option Value) (cells : List (Addr × Obj)) (C : Addr) (ys : List Value) : CellsAt ns h₀ L v4 v5 cells → news = (C, LCg.lst ys) :: cells → IntsAre ys [4, 6, 2, 3, 1, 5] → m (Str.ofString "codes") = some (.ref C) → Pre3 ns h₀ L m news
inductive Pre4 (ns : List Int) (h₀ : Heap) (L : Addr) (m : Str → Option Value) (news : List (Addr × Obj)) : Prop
  | mk (v4 v5 : Option Value) (t : Tok) : CellsAt ns h₀ L v4 v5 news → m (Str.ofString "ring") = some (.str (Str.ofString "rygcbm") t) → Pre4 ns h₀ L m news
inductive Pre5 (ns : List Int) (h₀ : Heap) (L : Addr) (m : Str → Option Value) (news : List (Addr × Obj)) : Prop
  | mk (v4 v5 : Option Value) (cells : List (Addr × Obj)) (C : Addr) (ys : List Value) (t : Tok) : CellsAt ns h₀ L v4 v5 cells → news = (C, LCg.lst ys) :: cells → IntsAre ys [0, 7] → m (Str.ofString "ends") = some (.ref C) → m (Str.ofString "ring") = some (.str (Str.ofString "rygcbm") t) → Pre5 ns h₀ L m news
def Pre6 (ns : List Int) : Pre := Pre4 ns
/-- a list of the eight prices -/
def pricesObj (P : Nat → Int) (q : Nat → Tok) (n : Nat) : Obj := { cls := .type "list", data := .seq #[.int (P 0) (q 0), .int (P 1) (q 1), .int (P 2) (q 2), .int (P 3) (q 3), .int (P 4) (q 4), .int (P 5) (q 5), .int (P 6) (q 6), .int (P 7) (q 7)] n }
inductive Pre7 (ns : List Int) (h₀ : Heap) (L : Addr) (m : Str → Option Value) (news : List (Addr × Obj)) : Prop
  | mk (v4 v5 : Option Value) (cells : List (Addr × Obj)) (PL : Addr) (q : Nat → Tok) (n : Nat) (t : Tok) : CellsAt ns h₀ L v4 v5 cells → news = (PL, pricesObj (price ns.sum) q n) :: cells → m (Str.ofString "prices") = some (.ref PL) → m (Str.ofString "ring") = some (.str (Str.ofString "rygcbm") t) → Pre7 ns h₀ L m news
/-- the two tables, the prices and the cells -/
inductive TabsAt (w : World) (ns : List Int) (h₀ : Heap) (L : Addr) (m : Str → Option Value) (v4 v5 : Option Value) (news : List (Addr × Obj)) : Prop
  | mk (cells : List (Addr × Obj)) (PL : Addr) (q : Nat → Tok) (n : Nat) (t : Tok) (aE aP : Addr) (rest : List (Addr × Obj)) : CellsAt ns h₀ L v4 v5 cells → news = cells ++ (PL, pricesObj (price ns.sum) q n) :: rest → (∀ p ∈ rest, L + 1 + 1 + 1 + 1 + 1 < p.1) → m (Str.ofString "prices") = some (.ref PL) → m (Str.ofString "ring") = some (.str (Str.ofString "rygcbm") t) →
    m (Str.ofString "entries") = some (.ref aE) → m (Str.ofString "pairs") = some (.ref aP) → EntriesAt w rest aE (price ns.sum) → PairsAt w rest aP → TabsAt w ns h₀ L m v4 v5 news
def Pre10 (w : World) (ns : List Int) : Pre := fun h₀ L m news => ∃ v4 v5, TabsAt w ns h₀ L m v4 v5 news
inductive Pre12 (w : World) (ns : List Int) (h₀ : Heap) (L : Addr) (m : Str → Option Value) (news : List (Addr × Obj)) : Prop
  | mk (v4 v5 : Option Value) (ds : List Nat) (t : Tok) : TabsAt w ns h₀ L m v4 v5 news → ds.length = 7 → (∀ c ∈ ds, c < 8) → m (Str.ofString "row") = some (.str (txt ds) t) → Pre12 w ns h₀ L m news
theorem ints_step {ys : List Value} {l : List Int} {j : Nat} {x : Int} {t : Tok} (h : IntsAre ys (l.take j)) (e : l[j]? = some x) : IntsAre (ys ++ [.int x t]) (l.take (j + 1)) := by
  rw [List.take_add_one, e]; exact intsAre_snoc h x t
theorem intsAre_get {vs : List Value} {l : List Int} (h : IntsAre vs l) : ∀ {i : Nat} {v : Value}, vs[i]? = some v → ∃ x t, v = .int x t ∧ l[i]? = some x := by
  induction h with
  | nil => intro i v e; simp at e
  | cons x t _ ih =>
    intro i v e
    cases i with
    | zero => simp at e; exact ⟨x, t, e.symm, rfl⟩
    | succ i => simp at e; obtain ⟨y, u, h1, h2⟩ := ih e; exact ⟨y, u, h1, by simpa using h2⟩
theorem strsAre_values {vs : List Value} {ts : List Str} (h : StrsAre vs ts) : ∃ l, vs = strValues l ∧ l.map (·.1) = ts := by
  induction h with
  | nil => exact ⟨[], rfl, rfl⟩
  | cons x t _ ih => obtain ⟨l, h1, h2⟩ := ih; exact ⟨(x, t) :: l, by rw [h1]; rfl, by simp [h2]⟩
theorem name_item : ∀ c < 8, Txt.item (Str.ofString "kbgcrmyw") ((c : Nat) : Int) = txt [c] := by decide +kernel
theorem strs_step {ys : List Value} {l : List Str} {j : Nat} {x : Str} {t : Tok} (h : StrsAre ys (l.take j)) (e : l[j]? = some x) : StrsAre (ys ++ [.str x t]) (l.take (j + 1)) := by
  rw [List.take_add_one, e]; exact strsAre_snoc h x t
theorem item_nm {prog : Program} {w : World} {A : Around} {E : Value → Shared → Prop} {s : Shared} {value slice : PySem.Expr} {t u : Tok} {c : Nat} {Q : Value → Shared → Prop} (hc : c < 8) (h : ∀ t' k, Q (.str (txt [c]) t') { s with toks := k })
    (hs : subscripted slice false (.str (Str.ofString "kbgcrmyw") t) (.int ((c : Nat) : Int) u) = operate [.str (Str.ofString "kbgcrmyw") t, .int ((c : Nat) : Int) u] (getItem (.str (Str.ofString "kbgcrmyw") t) (.int ((c : Nat) : Int) u)) := by with_unfolding_all rfl)
    (ht : ∀ r, letTemporaryGo value (.str (Str.ofString "kbgcrmyw") t) r = pure () := by intro _; with_unfolding_all rfl) :
    wpAny (model prog w) A (subscriptTail value slice (.str (Str.ofString "kbgcrmyw") t) (.int ((c : Nat) : Int) u)) Q E s :=
  KXi.item (n := 8) (by decide +kernel) (by omega) (by omega) (by decide) (fun _ => by rw [name_item c hc]; exact h _ _) hs ht
theorem okR_says {x : UInt64} (h : okR x = true) : Float64.isNaN (Float64.mul x 4618441417868443648) = false ∧ Float64.isInf (Float64.mul x 4618441417868443648) = false ∧ (Flt.toInt Float64.truncOf (Float64.mul x 4618441417868443648)).natAbs < 2 ^ 1024 - 2 ^ 970 := by
  simp only [okR, Bool.and_eq_true, beq_iff_eq, decide_eq_true_eq] at h
  exact ⟨h.1.1, h.1.2, Nat.lt_of_lt_of_le h.2 (by decide +kernel)⟩
theorem okH_says {x : UInt64} (h : okH x = true) : Float64.isNaN (Float64.add x 4602678819172646912) = false ∧ Float64.isInf (Float64.add x 4602678819172646912) = false := by
  simpa [okH] using h
theorem and_nat {prog : Program} {w : World} {A : Around} {E : Value → Shared → Prop} {s : Shared} {t u : Tok} {x y : Nat} {Q : Value → Shared → Prop} (e : Builtin.bitAnd (x : Int) (y : Int) = ((x &&& y : Nat) : Int)) (h : ∀ t' k, Q (.int ((x &&& y : Nat) : Int) t') { s with toks := k }) :
    wpAny (model prog w) A (binaryOp .BitAnd (.int (x : Int) t) (.int (y : Int) u)) Q E s := and_int (by rw [e]; exact h _ _)
theorem or_nat {prog : Program} {w : World} {A : Around} {E : Value → Shared → Prop} {s : Shared} {t u : Tok} {x y : Nat} {Q : Value → Shared → Prop} (e : Builtin.bitOr (x : Int) (y : Int) = ((x ||| y : Nat) : Int)) (h : ∀ t' k, Q (.int ((x ||| y : Nat) : Int) t') { s with toks := k }) :
    wpAny (model prog w) A (binaryOp .BitOr (.int (x : Int) t) (.int (y : Int) u)) Q E s := or_int (by rw [e]; exact h _ _)
theorem bits_nat : ∀ x < 8, ∀ y < 8, Builtin.bitAnd (x : Nat) (y : Nat) = ((x &&& y : Nat) : Int) ∧ Builtin.bitOr (x : Nat) (y : Nat) = ((x ||| y : Nat) : Int) := by decide +kernel
theorem valueAt_none'' {K : Type} [DecidableEq K] {kvs : List (K × Value)} {k : K} (h : (kvs.any fun kv => decide (kv.1 = k)) = false) : valueAt kvs k = none := by
  unfold valueAt
  rw [List.find?_eq_none.mpr]
  · rfl
  · intro x hx hd
    have := List.any_eq_false.mp h x hx
    exact this hd
theorem valueAt_stored {K : Type} [DecidableEq K] {kvs : List (K × Value)} {k k' : K} {v : Value} : valueAt (stored kvs k v) k' = if k' = k then some v else valueAt kvs k' := by
  unfold stored
  split
  · rename_i h
    unfold valueAt
    by_cases hk : k' = k
    · subst hk
      rw [if_pos rfl]
      induction kvs with
      | nil => simp at h
      | cons p r ih =>
        by_cases hp : p.1 = k'
        · simp [List.find?_cons, hp]
        · have : (r.any fun kv => decide (kv.1 = k')) = true := by simpa [hp] using h
          simpa [List.find?_cons, hp] using ih this
    · rw [if_neg hk]
      clear h
      induction kvs with
      | nil => rfl
      | cons p r ih =>
        by_cases hp : p.1 = k
        · have hk2 : ¬ k = k' := fun q => hk q.symm
          have hk3 : ¬ p.1 = k' := fun q => hk (q.symm.trans hp)
          simpa [List.find?_cons, hp, hk2, hk3] using ih
        · by_cases hp2 : p.1 = k'
          · simp [List.find?_cons, hp, hp2, hk]
          · simpa [List.find?_cons, hp, hp2] using ih
  · rename_i h
    have h2 : (kvs.any fun kv => decide (kv.1 = k)) = false := Bool.eq_false_iff.mpr h
    by_cases hk : k' = k
    · subst hk
      rw [if_pos rfl]
      have := Mine.valueAt_none'' h2
      unfold valueAt at this ⊢
      rw [List.find?_append]
      cases hf : kvs.find? (fun kv => decide (kv.1 = k')) with
      | none => simp
      | some y => rw [hf] at this; cases this
    · rw [if_neg hk]
      unfold valueAt
      rw [List.find?_append]
      have hk2 : ¬ k = k' := fun q => hk q.symm
      cases hf : kvs.find? (fun kv => decide (kv.1 = k')) with
      | none => simp [hk2]
      | some y => simp
theorem stored_len {K : Type} [DecidableEq K] (kvs : List (K × Value)) (k : K) (v : Value) : (stored kvs k v).length ≤ kvs.length + 1 := by
  unfold stored; split <;> simp
theorem txt2_inj {a b c d : Nat} (ha : a < 8) (hb : b < 8) (hc : c < 8) (hd : d < 8) (h : txt [a, b] = txt [c, d]) : a = c ∧ b = d := by
  have h2 : nm a = nm c ∧ nm b = nm d := by simpa [txt] using h
  exact ⟨nm_inj a ha c hc h2.1, nm_inj b hb d hd h2.2⟩
/-- the table of the entries so far -/
def EntTo (w : World) (rest : List (Addr × Obj)) (kvE : List (Str × Value)) (price : Nat → Int) (i : Nat) : Prop :=
  kvE.length ≤ i ∧ ∀ c < i, ∃ a d od t1 t2 t3 t4 t5 n, valueAt kvE (ltr c) = some (.ref a) ∧
    (a, ({ cls := .type "tuple", data := .seq #[.int (rb c) t1, .int (gb c) t2, .int (bb c) t3, .int (price c) t4, .ref d] n } : Obj)) ∈ rest ∧ (d, od) ∈ rest ∧ od.IsDictOf (sk w) [(ltr c, .int 1 t5)] ∧ (d == sysModules) = false
/-- the table of the pairs so far -/
def PairTo (kvP : List (Str × Value)) (i j : Nat) : Prop :=
  kvP.length ≤ 8 * i + j ∧ ∀ x < 8, ∀ y < 8, if (x < i ∨ (x = i ∧ y < j)) ∧ wrong x y then ∃ t, valueAt kvP (txt [x, y]) = some (.str (txt [x &&& y, x ||| y]) t) else valueAt kvP (txt [x, y]) = none
theorem PairTo.no {kvP : List (Str × Value)} {i j : Nat} (h : PairTo kvP i j) (hw : ¬ wrong i j) : PairTo kvP i (j + 1) := by
  refine ⟨by have := h.1; omega, fun x hx y hy => ?_⟩
  have h2 := h.2 x hx y hy
  have e : ((x < i ∨ (x = i ∧ y < j + 1)) ∧ wrong x y) ↔ ((x < i ∨ (x = i ∧ y < j)) ∧ wrong x y) := by
    constructor
    · rintro ⟨h1 | ⟨rfl, h1⟩, h3⟩
      · exact ⟨.inl h1, h3⟩
      · rcases Nat.lt_succ_iff_lt_or_eq.mp h1 with h1 | rfl
        · exact ⟨.inr ⟨rfl, h1⟩, h3⟩
        · exact absurd h3 hw
    · rintro ⟨h1 | ⟨h0, h1⟩, h3⟩
      · exact ⟨.inl h1, h3⟩
      · exact ⟨.inr ⟨h0, by omega⟩, h3⟩
  simp only [e]; exact h2
theorem PairTo.yes {kvP : List (Str × Value)} {i j : Nat} (h : PairTo kvP i j) (hi : i < 8) (hj : j < 8) (hw : wrong i j) (t : Tok) : PairTo (stored kvP (txt [i, j]) (.str (txt [i &&& j, i ||| j]) t)) i (j + 1) := by
  refine ⟨by have := h.1; have := stored_len kvP (txt [i, j]) (.str (txt [i &&& j, i ||| j]) t); omega, fun x hx y hy => ?_⟩
  have h2 := h.2 x hx y hy
  rw [valueAt_stored]
  by_cases hk : txt [x, y] = txt [i, j]
  · obtain ⟨rfl, rfl⟩ := txt2_inj hx hy hi hj hk
    rw [if_pos ⟨.inr ⟨rfl, by omega⟩, hw⟩, if_pos rfl]
    exact ⟨t, rfl⟩
  · rw [if_neg hk]
    have hne : ¬ (x = i ∧ y = j) := fun q => hk (by rw [q.1, q.2])
    have e : ((x < i ∨ (x = i ∧ y < j + 1)) ∧ wrong x y) ↔ ((x < i ∨ (x = i ∧ y < j)) ∧ wrong x y) := by
      constructor
      · rintro ⟨h1 | ⟨h0, h1⟩, h3⟩
        · exact ⟨.inl h1, h3⟩
        · refine ⟨.inr ⟨h0, ?_⟩, h3⟩
          have : y ≠ j := fun q => hne ⟨h0, q⟩
          omega
      · rintro ⟨h1 | ⟨h0, h1⟩, h3⟩
        · exact ⟨.inl h1, h3⟩
        · exact ⟨.inr ⟨h0, by omega⟩, h3⟩
    simp only [e]; exact h2
theorem PairTo.next {kvP : List (Str × Value)} {i : Nat} (h : PairTo kvP i 8) : PairTo kvP (i + 1) 0 := by
  refine ⟨by have := h.1; omega, fun x hx y hy => ?_⟩
  have h2 := h.2 x hx y hy
  have e : ((x < i + 1 ∨ (x = i + 1 ∧ y < 0)) ∧ wrong x y) ↔ ((x < i ∨ (x = i ∧ y < 8)) ∧ wrong x y) := by
    constructor
    · rintro ⟨h1 | ⟨_, h1⟩, h3⟩
      · rcases Nat.lt_succ_iff_lt_or_eq.mp h1 with h1 | rfl
        · exact ⟨.inl h1, h3⟩
        · exact ⟨.inr ⟨rfl, hy⟩, h3⟩
      · omega
    · rintro ⟨h1 | ⟨h0, h1⟩, h3⟩
      · exact ⟨.inl (by omega), h3⟩
      · exact ⟨.inl (by omega), h3⟩
  simp only [e]; exact h2
theorem PairTo.zero : PairTo [] 0 0 := ⟨Nat.zero_le _, fun x hx y hy => by rw [if_neg]; rfl; omega⟩
theorem EntTo.zero (w : World) (rest : List (Addr × Obj)) (price : Nat → Int) : EntTo w rest [] price 0 := ⟨Nat.zero_le _, fun c hc => by omega⟩
theorem EntTo.step {w : World} {rest rest' : List (Addr × Obj)} {kvE : List (Str × Value)} {price : Nat → Int} {i : Nat} (h : EntTo w rest kvE price i) (hi : i < 8) (hs : ∀ p ∈ rest, p ∈ rest') {a d : Addr} {od : Obj} {t1 t2 t3 t4 t5 : Tok} {n : Nat}
    (h1 : (a, ({ cls := .type "tuple", data := .seq #[.int (rb i) t1, .int (gb i) t2, .int (bb i) t3, .int (price i) t4, .ref d] n } : Obj)) ∈ rest') (h2 : (d, od) ∈ rest') (h3 : od.IsDictOf (sk w) [(ltr i, .int 1 t5)]) (h4 : (d == sysModules) = false) :
    EntTo w rest' (stored kvE (ltr i) (.ref a)) price (i + 1) := by
  refine ⟨by have := h.1; have := stored_len kvE (ltr i) (.ref a); omega, fun c hc => ?_⟩
  rw [valueAt_stored]
  by_cases hk : c = i
  · subst hk
    rw [if_pos rfl]
    exact ⟨a, d, od, t1, t2, t3, t4, t5, n, rfl, h1, h2, h3, h4⟩
  · have hlt : c < i := by omega
    rw [if_neg (fun q => hk (ltr_inj (by omega) hi q))]
    obtain ⟨a', d', od', u1, u2, u3, u4, u5, n', k1, k2, k3, k4, k5⟩ := h.2 c hlt
    exact ⟨a', d', od', u1, u2, u3, u4, u5, n', k1, hs _ k2, hs _ k3, k4, k5⟩
theorem led_mid {h₀ h : Heap} {L : Addr} {own xs rest : List (Addr × Obj)} (N : News h₀ L h (own ++ (xs ++ rest))) : News h₀ L h (xs ++ (own ++ rest)) := news_sub N fun q hq => by
  rcases List.mem_append.mp hq with hq | hq
  · exact List.mem_append_right _ (List.mem_append_left _ hq)
  · rcases List.mem_append.mp hq with hq | hq
    · exact List.mem_append_left _ hq
    · exact List.mem_append_right _ (List.mem_append_right _ hq)
theorem led_mid' {h₀ h : Heap} {L : Addr} {own xs rest : List (Addr × Obj)} (N : News h₀ L h (xs ++ (own ++ rest))) : News h₀ L h (own ++ (xs ++ rest)) := led_mid N
theorem EntriesAt.mono {w : World} {rest rest' : List (Addr × Obj)} {aE : Addr} {price : Nat → Int} (h : EntriesAt w rest aE price) (hs : ∀ p ∈ rest, p ∈ rest') : EntriesAt w rest' aE price := by
  obtain ⟨oE, kvE, h1, h2, h3⟩ := h
  refine ⟨oE, kvE, hs _ h1, h2, fun c hc => ?_⟩
  obtain ⟨a', d', od', u1, u2, u3, u4, u5, n', k1, k2, k3, k4, k5⟩ := h3 c hc
  exact ⟨a', d', od', u1, u2, u3, u4, u5, n', k1, hs _ k2, hs _ k3, k4, k5⟩
theorem PairsAt.mono {w : World} {rest rest' : List (Addr × Obj)} {aP : Addr} (h : PairsAt w rest aP) (hs : ∀ p ∈ rest, p ∈ rest') : PairsAt w rest' aP := by
  obtain ⟨h0, oP, kvP, h1, h2, h3⟩ := h
  exact ⟨h0, oP, kvP, hs _ h1, h2, h3⟩
/-- what _law_added hands back of a row -/
inductive Sums (w : World) (price : Nat → Int) (ds : List Nat) (rest : List (Addr × Obj)) (R : Addr) : Prop
  | mk (D : Addr) (o : Obj) (kvs : List (Str × Value)) (v1 v2 v3 v4 : Tok) (nn : Nat) : (R, tupObj #[.int (sumBy rb ds) v1, .int (sumBy gb ds) v2, .int (sumBy bb ds) v3, .int (sumBy price ds) v4, .ref D] nn) ∈ rest → (D, o) ∈ rest → o.IsDictOf (sk w) kvs → Cn kvs (cnts ds) → (D == sysModules) = false → Sums w price ds rest R
theorem Sums.mono {w : World} {price : Nat → Int} {ds : List Nat} {rest rest' : List (Addr × Obj)} {R : Addr} (h : Sums w price ds rest R) (hs : ∀ p ∈ rest, p ∈ rest') : Sums w price ds rest' R := by
  obtain ⟨D, o, kvs, v1, v2, v3, v4, nn, h1, h2, h3, h4, h5⟩ := h
  exact ⟨D, o, kvs, v1, v2, v3, v4, nn, hs _ h1, hs _ h2, h3, h4, h5⟩
/-- the tables, with the rest of the ledger named -/
inductive Tab (w : World) (ns : List Int) (h₀ : Heap) (L : Addr) (m : Str → Option Value) (v4 v5 : Option Value) (rest news : List (Addr × Obj)) : Prop
  | mk (cells : List (Addr × Obj)) (PL : Addr) (q : Nat → Tok) (n : Nat) (t : Tok) (aE aP : Addr) : CellsAt ns h₀ L v4 v5 cells → news = cells ++ (PL, pricesObj (price ns.sum) q n) :: rest → (∀ p ∈ rest, L + 1 + 1 + 1 + 1 + 1 < p.1) → m (Str.ofString "prices") = some (.ref PL) → m (Str.ofString "ring") = some (.str (Str.ofString "rygcbm") t) →
    m (Str.ofString "entries") = some (.ref aE) → m (Str.ofString "pairs") = some (.ref aP) → EntriesAt w rest aE (price ns.sum) → PairsAt w rest aP → Tab w ns h₀ L m v4 v5 rest news
inductive Pre13 (w : World) (ns : List Int) (h₀ : Heap) (L : Addr) (m : Str → Option Value) (news : List (Addr × Obj)) : Prop
  | mk (v4 v5 : Option Value) (ds : List Nat) (t : Tok) (R : Addr) (rest : List (Addr × Obj)) : Tab w ns h₀ L m v4 v5 rest news → ds.length = 7 → (∀ c ∈ ds, c < 8) → m (Str.ofString "row") = some (.str (txt ds) t) →
    m (Str.ofString "before") = some (.ref R) → Sums w (price ns.sum) ds rest R → Pre13 w ns h₀ L m news
/-- the light of all lamps -/
inductive Light (ds : List Nat) (r g b : Nat) : Prop
  | mk : r ≤ 7 → g ≤ 7 → b ≤ 7 → sumBy rb ds = r → sumBy gb ds = g → sumBy bb ds = b → Light ds r g b
inductive Pre15 (w : World) (ns : List Int) (h₀ : Heap) (L : Addr) (m : Str → Option Value) (news : List (Addr × Obj)) : Prop
  | mk (v4 : Option Value) (ds : List Nat) (t t' : Tok) (R : Addr) (rest : List (Addr × Obj)) (r g b : Nat) : Tab w ns h₀ L m v4 (some (.str (txt (srt r g b)) t')) rest news → ds.length = 7 → (∀ c ∈ ds, c < 8) → m (Str.ofString "row") = some (.str (txt ds) t) →
    m (Str.ofString "before") = some (.ref R) → Sums w (price ns.sum) ds rest R → Light ds r g b → Pre15 w ns h₀ L m news
inductive Pre16 (w : World) (ns : List Int) (h₀ : Heap) (L : Addr) (m : Str → Option Value) (news : List (Addr × Obj)) : Prop
  | mk (v4 : Option Value) (ds : List Nat) (t t' : Tok) (R : Addr) (rest : List (Addr × Obj)) (r g b : Nat) : Tab w ns h₀ L m v4 (some (.str (txt (srt r g b)) t')) rest news → ds.length = 7 → (∀ c ∈ ds, c < 8) → m (Str.ofString "last") = some (.str (txt (srt r g b)) t) →
    m (Str.ofString "before") = some (.ref R) → Sums w (price ns.sum) ds rest R → Light ds r g b → (srt r g b).length = 7 → (∀ c ∈ srt r g b, c < 8) → Light (srt r g b) r g b → sumBy (price ns.sum) (srt r g b) ≤ sumBy (price ns.sum) ds → Pre16 w ns h₀ L m news
inductive Pre18 (w : World) (ns : List Int) (h₀ : Heap) (L : Addr) (m : Str → Option Value) (news : List (Addr × Obj)) : Prop
  | mk (v4 : Option Value) (ds : List Nat) (t' : Tok) (R R2 : Addr) (rest : List (Addr × Obj)) (r g b : Nat) : Tab w ns h₀ L m v4 (some (.str (txt (srt r g b)) t')) rest news →
    m (Str.ofString "before") = some (.ref R) → Sums w (price ns.sum) ds rest R → Light ds r g b → Light (srt r g b) r g b → sumBy (price ns.sum) (srt r g b) ≤ sumBy (price ns.sum) ds →
    m (Str.ofString "behind") = some (.ref R2) → Sums w (price ns.sum) (srt r g b) rest R2 → Pre18 w ns h₀ L m news
theorem ints_cons {vs : List Value} {x : Int} {l : List Int} (h : IntsAre vs (x :: l)) : ∃ t vs', vs = .int x t :: vs' ∧ IntsAre vs' l := by
  cases h with
  | cons _ t r => exact ⟨t, _, rfl, r⟩
theorem ints_nil {vs : List Value} (h : IntsAre vs []) : vs = [] := by
  cases h
  rfl
theorem ints8 {vs : List Value} {x0 x1 x2 x3 x4 x5 x6 x7 : Int} (h : IntsAre vs [x0, x1, x2, x3, x4, x5, x6, x7]) : ∃ q : Nat → Tok, vs = [.int x0 (q 0), .int x1 (q 1), .int x2 (q 2), .int x3 (q 3), .int x4 (q 4), .int x5 (q 5), .int x6 (q 6), .int x7 (q 7)] := by
  obtain ⟨t0, _, rfl, h0⟩ := ints_cons h
  obtain ⟨t1, _, rfl, h1⟩ := ints_cons h0
  obtain ⟨t2, _, rfl, h2⟩ := ints_cons h1
  obtain ⟨t3, _, rfl, h3⟩ := ints_cons h2
  obtain ⟨t4, _, rfl, h4⟩ := ints_cons h3
  obtain ⟨t5, _, rfl, h5⟩ := ints_cons h4
  obtain ⟨t6, _, rfl, h6⟩ := ints_cons h5
  obtain ⟨t7, _, rfl, h7⟩ := ints_cons h6
  obtain rfl := ints_nil h7
  exact ⟨fun i => [t0, t1, t2, t3, t4, t5, t6, t7].getD i 0, rfl⟩
theorem led_a {α : Type} {c1 c2 c3 c4 c5 c6 x y : α} {l : List α} : ∀ p, p ∈ c1 :: c2 :: c3 :: c4 :: c5 :: c6 :: x :: y :: l → p ∈ x :: y :: c1 :: c2 :: c3 :: c4 :: c5 :: c6 :: l := by
  intro p hp
  rcases List.mem_cons.mp hp with h | hp
  · rw [h]; exact List.Mem.tail _ (List.Mem.tail _ (List.Mem.head _))
  rcases List.mem_cons.mp hp with h | hp
  · rw [h]; exact List.Mem.tail _ (List.Mem.tail _ (List.Mem.tail _ (List.Mem.head _)))
  rcases List.mem_cons.mp hp with h | hp
  · rw [h]; exact List.Mem.tail _ (List.Mem.tail _ (List.Mem.tail _ (List.Mem.tail _ (List.Mem.head _))))
  rcases List.mem_cons.mp hp with h | hp
  · rw [h]; exact List.Mem.tail _ (List.Mem.tail _ (List.Mem.tail _ (List.Mem.tail _ (List.Mem.tail _ (List.Mem.head _)))))
  rcases List.mem_cons.mp hp with h | hp
  · rw [h]; exact List.Mem.tail _ (List.Mem.tail _ (List.Mem.tail _ (List.Mem.tail _ (List.Mem.tail _ (List.Mem.tail _ (List.Mem.head _))))))
  rcases List.mem_cons.mp hp with h | hp
  · rw [h]; exact List.Mem.tail _ (List.Mem.tail _ (List.Mem.tail _ (List.Mem.tail _ (List.Mem.tail _ (List.Mem.tail _ (List.Mem.tail _ (List.Mem.head _)))))))
  rcases List.mem_cons.mp hp with h | hp
  · rw [h]; exact List.Mem.head _
  rcases List.mem_cons.mp hp with h | hp
  · rw [h]; exact List.Mem.tail _ (List.Mem.head _)
  exact List.Mem.tail _ (List.Mem.tail _ (List.Mem.tail _ (List.Mem.tail _ (List.Mem.tail _ (List.Mem.tail _ (List.Mem.tail _ (List.Mem.tail _ (hp))))))))
theorem led_b {α : Type} {c1 c2 c3 c4 c5 e p0 q : α} {l : List α} : ∀ p, p ∈ c1 :: c2 :: c3 :: c4 :: c5 :: p0 :: e :: q :: l → p ∈ q :: e :: p0 :: c1 :: c2 :: c3 :: c4 :: c5 :: l := by
  intro p hp
  rcases List.mem_cons.mp hp with h | hp
  · rw [h]; exact List.Mem.tail _ (List.Mem.tail _ (List.Mem.tail _ (List.Mem.head _)))
  rcases List.mem_cons.mp hp with h | hp
  · rw [h]; exact List.Mem.tail _ (List.Mem.tail _ (List.Mem.tail _ (List.Mem.tail _ (List.Mem.head _))))
  rcases List.mem_cons.mp hp with h | hp
  · rw [h]; exact List.Mem.tail _ (List.Mem.tail _ (List.Mem.tail _ (List.Mem.tail _ (List.Mem.tail _ (List.Mem.head _)))))
  rcases List.mem_cons.mp hp with h | hp
  · rw [h]; exact List.Mem.tail _ (List.Mem.tail _ (List.Mem.tail _ (List.Mem.tail _ (List.Mem.tail _ (List.Mem.tail _ (List.Mem.head _))))))
  rcases List.mem_cons.mp hp with h | hp
  · rw [h]; exact List.Mem.tail _ (List.Mem.tail _ (List.Mem.tail _ (List.Mem.tail _ (List.Mem.tail _ (List.Mem.tail _ (List.Mem.tail _ (List.Mem.head _)))))))
  rcases List.mem_cons.mp hp with h | hp
  · rw [h]; exact List.Mem.tail _ (List.Mem.tail _ (List.Mem.head _))
  rcases List.mem_cons.mp hp with h | hp
  · rw [h]; exact List.Mem.tail _ (List.Mem.head _)
  rcases List.mem_cons.mp hp with h | hp
  · rw [h]; exact List.Mem.head _
  exact List.Mem.tail _ (List.Mem.tail _ (List.Mem.tail _ (List.Mem.tail _ (List.Mem.tail _ (List.Mem.tail _ (List.Mem.tail _ (List.Mem.tail _ (hp))))))))
theorem led_c {α : Type} {c1 c2 c3 c4 c5 d p0 z : α} {l : List α} : ∀ p, p ∈ c5 :: c4 :: c3 :: c2 :: c1 :: p0 :: l → p ∈ d :: c4 :: z :: c5 :: c3 :: c2 :: c1 :: p0 :: l := by
  intro p hp
  rcases List.mem_cons.mp hp with h | hp
  · rw [h]; exact List.Mem.tail _ (List.Mem.tail _ (List.Mem.tail _ (List.Mem.head _)))
  rcases List.mem_cons.mp hp with h | hp
  · rw [h]; exact List.Mem.tail _ (List.Mem.head _)
  rcases List.mem_cons.mp hp with h | hp
  · rw [h]; exact List.Mem.tail _ (List.Mem.tail _ (List.Mem.tail _ (List.Mem.tail _ (List.Mem.head _))))
  rcases List.mem_cons.mp hp with h | hp
  · rw [h]; exact List.Mem.tail _ (List.Mem.tail _ (List.Mem.tail _ (List.Mem.tail _ (List.Mem.tail _ (List.Mem.head _)))))
  rcases List.mem_cons.mp hp with h | hp
  · rw [h]; exact List.Mem.tail _ (List.Mem.tail _ (List.Mem.tail _ (List.Mem.tail _ (List.Mem.tail _ (List.Mem.tail _ (List.Mem.head _))))))
  rcases List.mem_cons.mp hp with h | hp
  · rw [h]; exact List.Mem.tail _ (List.Mem.tail _ (List.Mem.tail _ (List.Mem.tail _ (List.Mem.tail _ (List.Mem.tail _ (List.Mem.tail _ (List.Mem.head _)))))))
  exact List.Mem.tail _ (List.Mem.tail _ (List.Mem.tail _ (List.Mem.tail _ (List.Mem.tail _ (List.Mem.tail _ (List.Mem.tail _ (List.Mem.tail _ (hp))))))))
end Mine
end

section
open PySem PySem.W PySem.Spec PySem.Calls PyProof.Rows
namespace Mine
section
variable {prog : Program} {w : World} {A : Around} {E : Value → Shared → Prop} {s : Shared} {h₀ : Heap} {L : Addr} {m : Str → Option Value} {news : List (Addr × Obj)}
/-- the places of [:3] in a row of five -/
theorem applied3 {sl : Addr} {u : Tok} {Q : Int × Int × Nat → Shared → Prop} (hs : s.heap.IsSliceOf sl .none (.int 3 u) .none) (h : Q (0, 1, 3) s) :
    wpAny (model prog w) A (Builtin.Slice.sliceApplied (.ref sl) (pure (5 : Int))) Q E s := by
  obtain ⟨os, hos, hcs, hds⟩ := id hs
  unfold Builtin.Slice.sliceApplied Builtin.Slice.sliceFields
  refine wpAny_bind (wpAny_bind (wpAny_field hos hds (x := .none) rfl (wpAny_bind (wpAny_field hos hds (x := .int 3 u) rfl (wpAny_bind (wpAny_field hos hds (x := .none) rfl (wpAny_pure ?_)))))))
  refine wpAny_bind (slicePart_none ?_)
  show wpAny _ _ (if ((1 : Int) == 0) = true then _ else _) _ _ s
  rw [if_neg (by decide)]
  refine wpAny_bind (slicePart_none (wpAny_bind (slicePart_int (wpAny_bind (wpAny_pure ?_)))))
  exact wpAny_pure h
theorem getItem3 {t sl : Addr} {x0 x1 x2 x3 x4 : Value} {u : Tok} {Q : Value → Shared → Prop} (ht : IsTup s.heap t #[x0, x1, x2, x3, x4]) (hs : s.heap.IsSliceOf sl .none (.int 3 u) .none)
    (h : Q (.ref s.heap.objs.size) { s with heap := s.heap.push { cls := .type "tuple", data := .seq #[x0, x1, x2] } }) : wpAny (model prog w) A (getItem (.ref t) (.ref sl)) Q E s := by
  have hsz : sizeOk (.seq #[x0, x1, x2]) := by
    show 3 ≤ sizeLine
    rw [sizeLine_eq]; decide
  obtain ⟨os, hos, hcs, hds⟩ := id hs
  have hTs : s.TypeIs (.ref sl) "slice" := ⟨os, hos, hcs⟩
  unfold getItem
  try with_reducible refine wpAny_holding ?_
  first | refine wpAny_bind (wpAny_pure ?_) | skip
  refine wpAny_bind (wpAny_sequenceKey ht.typeIs (by decide) ?_)
  refine wpAny_bind (wpAny_callSpecial?_slot (name := Str.ofString "__getitem__") ht.typeIs slot_tuple_getitem
    (wpAny_call_entry slot_tuple_getitem ht.typeIs entry_tuple_getitem ?_ (args_tuple_getitem _ _)))
  show wpAny _ _ (Builtin.Tuple.tupleItemsOf (.ref t) >>= _) _ _ s
  refine wpAny_bind (tupleItemsOf_ ht ?_)
  refine wpAny_bind (wpAny_typeOf hTs ?_)
  rw [if_pos (by decide)]
  refine wpAny_bind (applied3 hs ?_)
  show wpAny _ _ (if ((0 : Int) == 0 && (1 : Int) == 1 && (3 : Nat) == (5 : Nat)) = true then _ else _) _ _ s
  rw [if_neg (by decide)]
  first
    | exact wpAny_bind (m := Builtin.Tuple.tupleExact _) (wpAny_newObj_type (wpAny_pure ⟨_, rfl, wpAny_pure h⟩) hsz)
    | exact wpAny_bind (m := Builtin.Tuple.tupleExact _) (wpAny_newObj_type (wpAny_bind (wpAny_pure (wpAny_pure ⟨_, rfl, wpAny_pure h⟩))) hsz)
    | exact wpAny_bind (wpAny_bind (m := Builtin.Tuple.tupleExact _) (wpAny_newObj_type (wpAny_pure (wpAny_pure ⟨_, rfl, wpAny_pure h⟩)) hsz))
    | exact wpAny_bind (wpAny_bind (m := Builtin.Tuple.tupleExact _) (wpAny_newObj_type (wpAny_pure ⟨_, rfl, wpAny_pure h⟩) hsz))
theorem slice3 {value slice : Expr} {t : Addr} {x0 x1 x2 x3 x4 : Value} {u : Tok} {Q : Value → Shared → Prop}
    (F : Fr h₀ L s.heap m) (N : News h₀ L s.heap news) (ht : IsTup s.heap t #[x0, x1, x2, x3, x4])
    (h : ∀ D h', Fr h₀ L h' m → News h₀ L h' ((D, { cls := .type "tuple", data := .seq #[x0, x1, x2] }) :: news) → (∀ p ∈ news, p.1 < D) → Q (.ref D) { s with heap := h' })
    (hs : subscripted slice false (.ref t) (.ref s.heap.objs.size) = operate [.ref s.heap.objs.size, .ref t] (getItem (.ref t) (.ref s.heap.objs.size)) := by with_unfolding_all rfl)
    (hg : ∀ r, letTemporaryGo value (.ref t) r = pure () := by intro _; with_unfolding_all rfl) :
    wpAny (model prog w) A (subscriptTail value slice (.ref t) (.ref s.heap.objs.size)) Q E { s with heap := s.heap.push { cls := .type "slice", data := .fields #[.none, .int 3 u, .none] } } := by
  have ht' : IsTup (s.heap.push { cls := .type "slice", data := .fields #[.none, .int 3 u, .none] }) t #[x0, x1, x2, x3, x4] := ht.keeps fun _ _ e => Heap.get?_push_of_some _ e
  refine subscriptTail_ops (s := { s with heap := s.heap.push { cls := .type "slice", data := .fields #[.none, .int 3 u, .none] } }) ht'.typeIs slot_tuple_getitem.lookup
    (getItem3 ht' (Heap.IsSliceOf.new ..) ?_) hs hg
  have N1 := News.push (F.push { cls := .type "slice", data := .fields #[.none, .int 3 u, .none] }) (N.grown fun _ _ e => Heap.get?_push_of_some _ e) { cls := .type "tuple", data := .seq #[x0, x1, x2] }
  rw [Heap.size_push] at N1
  show Q (.ref (s.heap.push _).objs.size) _
  rw [Heap.size_push]
  exact h _ _ ((F.push _).push _) N1 fun p hp => Nat.lt_succ_of_lt (Heap.lt_size (N p hp).1)
end
theorem ne_same {prog : Program} {w : World} {A : Around} {E : Value → Shared → Prop} {s : Shared} {a b : Value} {d : PyData} {as bs : List Addr} {Q : Value → Shared → Prop} (ra : Reads s.heap a d as) (rb : Reads s.heap b d bs) (hs : SeqAt.shaped d = true) (hu : A.units + 64 < cLine) (h : Q (.bool false) s) :
    wpAny (model prog w) A (compareOp .NotEq a b) Q E s := ne_dataH ra rb hs hs hu (by rw [PySem.SeqAt.eqv_refl d (SeqAt.canLay_of_shaped hs)]; exact h)
end Mine
end

section
open PySem PySem.W PySem.Spec PySem.Calls PyProof.Rows
namespace Mine
/-! texts of letters: an item, a cut, a letter's count, whether it is there -/
section
open PySem.Builtin PySem.Builtin.Str PySem.StrLaws
theorem at1 {x : Str} {p i : Nat} : At x ⟨#[p]⟩ x.length i ↔ x.cps.toList[i]? = some p := by
  have hl : x.cps.toList.length = x.length := by simp [Str.length]
  have h2 : (⟨#[p]⟩ : Str).length = 1 := rfl
  unfold At
  rw [subAt_eq, h2]
  constructor
  · rintro ⟨h1, h3⟩
    have e := eq_of_beq h3
    have a0 : ((x.cps.toList.drop i).take 1)[0]? = some p := by rw [e]; rfl
    rw [List.getElem?_take_of_lt (by omega), List.getElem?_drop] at a0
    simpa using a0
  · intro h1
    have hlt := (List.getElem?_eq_some_iff.mp h1).1
    refine ⟨by omega, beq_iff_eq.mpr ?_⟩
    rw [List.drop_eq_getElem_cons hlt]
    have e1 : x.cps.toList[i] = p := (List.getElem?_eq_some_iff.mp h1).2
    simp [e1]
theorem count_free {l : List Nat} {p : Nat} (h : ∀ i : Nat, ¬ l[i]? = some p) : l.count p = 0 := by
  refine List.count_eq_zero.mpr fun hm => ?_
  obtain ⟨i, hi, e⟩ := List.mem_iff_getElem.mp hm
  exact h i (by rw [List.getElem?_eq_getElem hi, e])
theorem count_chain (x : Str) (p : Nat) : ∀ (cuts : List Nat) (a f : Nat), ChainG x ⟨#[p]⟩ x.length a cuts f → (∀ k, f ≤ k → ¬ At x ⟨#[p]⟩ x.length k) → cuts.length = (x.cps.toList.drop a).count p
  | [], a, f, h, hn => by
    have e : f = a := h
    subst e
    rw [count_free fun i hi => ?_]
    · rfl
    · rw [List.getElem?_drop] at hi
      exact hn (f + i) (by omega) (at1.mpr hi)
  | c :: r, a, f, h, hn => by
    obtain ⟨h1, h2, h3, h4⟩ := h
    have ih := count_chain x p r (c + 1) f h4 hn
    have hp := at1.mp h2
    have hlt := (List.getElem?_eq_some_iff.mp hp).1
    have e1 : x.cps.toList[c] = p := (List.getElem?_eq_some_iff.mp hp).2
    have e5 : x.cps.toList.drop a = (x.cps.toList.drop a).take (c - a) ++ x.cps.toList.drop c := by
      have : x.cps.toList.drop c = (x.cps.toList.drop a).drop (c - a) := by rw [List.drop_drop]; congr 1; omega
      rw [this]
      exact (List.take_append_drop (c - a) _).symm
    have e6 : ((x.cps.toList.drop a).take (c - a)).count p = 0 := count_free fun i hi => by
      have hi2 : i < c - a := by
        have := (List.getElem?_eq_some_iff.mp hi).1
        rw [List.length_take] at this
        omega
      rw [List.getElem?_take_of_lt hi2, List.getElem?_drop] at hi
      exact h3 (a + i) (by omega) (by omega) (at1.mpr hi)
    rw [e5, List.count_append, e6, List.drop_eq_getElem_cons hlt, e1, List.count_cons_self, ← ih]
    simp
theorem count_nm {c : Nat} (hc : c < 8) : ∀ {cs : List Nat}, (∀ d ∈ cs, d < 8) → (cs.map nm).count (nm c) = cs.count c
  | [], _ => rfl
  | d :: r, h => by
    have ih := count_nm hc (cs := r) fun d hd => h d (.tail _ hd)
    have hd := h d (.head _)
    rw [List.map_cons, List.count_cons, List.count_cons, ih]
    by_cases e : d = c
    · subst e; simp
    · have : ¬ nm d = nm c := fun q => e (nm_inj d hd c hc q)
      simp [e, this]
theorem count_txt {cs : List Nat} {c : Nat} (hc : c < 8) (h : ∀ d ∈ cs, d < 8) : Txt.count (txt cs) (txt [c]) = (cs.count c : Int) := by
  obtain ⟨f, hG, hn⟩ := occ_tight (txt cs) ⟨#[nm c]⟩ (by show 1 ≤ 1; omega)
  have := count_chain (txt cs) (nm c) _ 0 f hG hn
  show ((occurrences (txt cs) ⟨#[nm c]⟩ 0 (txt cs).length ((txt cs).length + 1)).length : Int) = _
  rw [this, List.drop_zero]
  show (((cs.map nm).count (nm c) : Nat) : Int) = _
  rw [count_nm hc h]
theorem contains_txt {cs : List Nat} {c : Nat} (hc : c < 8) (h : ∀ d ∈ cs, d < 8) : Txt.contains (txt cs) (txt [c]) = decide (c ∈ cs) := by
  show (!(occurrences (txt cs) ⟨#[nm c]⟩ 0 (txt cs).length 1).isEmpty) = _
  rw [found_one]
  show decide (nm c ∈ cs.map nm) = _
  refine decide_eq_decide.mpr ⟨fun hm => ?_, fun hm => List.mem_map.mpr ⟨c, hm, rfl⟩⟩
  obtain ⟨d, hd, e⟩ := List.mem_map.mp hm
  rw [← nm_inj d (h d hd) c hc e]; exact hd
end
theorem slice_to_txt {es : List Nat} {k : Nat} (hk : k ≤ es.length) : Txt.slice (txt es) none (some ((k : Nat) : Int)) = txt (es.take k) := by
  have := eq_of_beq (slice_closes_to (x := txt es) (j := (k : Int)) ⟨by omega, by simp [txt]; omega⟩)
  rw [this]
  have e3 : ((k : Int) - 0).toNat = k := by omega
  rw [e3]
  simp [txt, List.map_take]
theorem item_txt {es : List Nat} {k c : Nat} (h : es[k]? = some c) : Txt.item (txt es) ((k : Nat) : Int) = txt [c] := by
  rw [item_meets (n := nm c) (by omega) (by rw [txt_get, Int.toNat_natCast, h]; rfl)]
  rfl
theorem item_tx {prog : Program} {w : World} {A : Around} {E : Value → Shared → Prop} {s : Shared} {value slice : PySem.Expr} {t u : Tok} {es : List Nat} {k c : Nat} {Q : Value → Shared → Prop} (hc : es[k]? = some c) (hl : es.length = 7) (h : ∀ t' k', Q (.str (txt [c]) t') { s with toks := k' })
    (hs : subscripted slice false (.str (txt es) t) (.int ((k : Nat) : Int) u) = operate [.str (txt es) t, .int ((k : Nat) : Int) u] (getItem (.str (txt es) t) (.int ((k : Nat) : Int) u)) := by with_unfolding_all rfl)
    (ht : ∀ r, letTemporaryGo value (.str (txt es) t) r = pure () := by intro _; with_unfolding_all rfl) :
    wpAny (model prog w) A (subscriptTail value slice (.str (txt es) t) (.int ((k : Nat) : Int) u)) Q E s :=
  KXi.item (n := 7) ((txt_length es).trans hl) (by omega) (by have := (List.getElem?_eq_some_iff.mp hc).1; omega) (by decide) (fun _ => by rw [item_txt hc]; exact h _ _) hs ht
/-! rows of pairs in the ledger -/
inductive TupsAt (led : List (Addr × Obj)) : List Addr → List (Str × Int) → Prop
  | nil : TupsAt led [] []
  | cons {a : Addr} {k : Str} {n : Int} {t u : Tok} {c : Nat} {as : List Addr} {l : List (Str × Int)} : (a, tupObj #[.str k t, .int n u] c) ∈ led → TupsAt led as l → TupsAt led (a :: as) ((k, n) :: l)
theorem TupsAt.mono {led led' : List (Addr × Obj)} {as : List Addr} {l : List (Str × Int)} (h : TupsAt led as l) (hs : ∀ p ∈ led, p ∈ led') : TupsAt led' as l := by
  induction h with
  | nil => exact .nil
  | cons hm _ ih => exact .cons (hs _ hm) ih
theorem TupsAt.snoc {led : List (Addr × Obj)} {as : List Addr} {l : List (Str × Int)} (h : TupsAt led as l) {a : Addr} {k : Str} {n : Int} {t u : Tok} {c : Nat} (hm : (a, tupObj #[.str k t, .int n u] c) ∈ led) : TupsAt led (as ++ [a]) (l ++ [(k, n)]) := by
  induction h with
  | nil => exact .cons hm .nil
  | cons hm' _ ih => exact .cons hm' ih
/-- a pair as data -/
def pd (p : Str × Int) : PyData := .tuple [.str p.1, .int p.2]
theorem TupsAt.reads {h₀ h : Heap} {L : Addr} {led : List (Addr × Obj)} {as : List Addr} {l : List (Str × Int)} (N : News h₀ L h led) (T : TupsAt led as l) : ReadsAll h (as.map Value.ref) (l.map pd) [] := by
  induction T with
  | nil => exact .nil
  | cons hm _ ih => exact ReadsAll.cons (as := []) (bs := []) (Reads.tuple (N _ hm).1 rfl rfl (ReadsAll.cons (as := []) (bs := []) (.str _ _) (ReadsAll.cons (as := []) (bs := []) (.int _ _) .nil))) ih
theorem pds_shaped {l : List (Str × Int)} (h : ∀ p ∈ l, PyData.strOk p.1 = true) : SeqAt.shaped (.list (l.map pd)) = true := by
  have h1 : PyData.canLayAll0 (l.map pd) = true := by
    induction l with
    | nil => rfl
    | cons a r ih =>
      simp only [List.map_cons, pd, PyData.canLayAll0, PyData.canLay0, h a (.head _), Bool.true_and, Bool.and_true]
      exact ih fun x hx => h x (.tail _ hx)
  have h2 : PyData.depthAll (l.map pd) ≤ 1 := by
    clear h h1
    induction l with
    | nil => exact Nat.zero_le _
    | cons a r ih => simp only [List.map_cons, PyData.depthAll, pd, PyData.depth]; omega
  simp only [SeqAt.shaped, PyData.canLay0, h1, PyData.depth, Bool.true_and]
  exact decide_eq_true (by omega)
theorem tups_of {h : Heap} : ∀ {as : List Addr} {l : List (Str × Int)}, as.length = l.length → (∀ (j : Nat) (a : Addr), as[j]? = some a → ∃ k n t u c, l[j]? = some (k, n) ∧ h.get? a = some (tupObj #[.str k t, .int n u] c)) →
    ∃ tups, TupsAt tups as l ∧ ∀ q ∈ tups, q.1 ∈ as ∧ h.get? q.1 = some q.2
  | [], [], _, _ => ⟨[], .nil, fun _ h => nomatch h⟩
  | a :: as, p :: l, hl, H => by
    obtain ⟨tups, T, hT⟩ := tups_of (as := as) (l := l) (by simpa using hl) fun j b hb => H (j + 1) b hb
    obtain ⟨k, n, t, u, c, e1, e2⟩ := H 0 a rfl
    obtain rfl : p = (k, n) := Option.some.inj e1
    refine ⟨(a, tupObj #[.str k t, .int n u] c) :: tups, .cons (.head _) (T.mono fun p hp => .tail _ hp), fun q hq => ?_⟩
    rcases List.mem_cons.mp hq with rfl | hq
    · exact ⟨.head _, e2⟩
    · exact ⟨.tail _ (hT q hq).1, (hT q hq).2⟩
section
variable {prog : Program} {w : World} {A : Around} {E : Value → Shared → Prop} {s : Shared} {h₀ : Heap} {L : Addr} {m : Str → Option Value} {news : List (Addr × Obj)} {Q : Value → Shared → Prop}
/-- list(d.items()) of a dict of letters and counts -/
theorem items_list {v d : Addr} {od : Obj} {kvs : List (Str × Value)} {l : List (Str × Int)} (hh : A.handled = none) (F : Fr h₀ L s.heap m) (N : News h₀ L s.heap news) (hvw : (v, ({ cls := .type "dict_items", data := .fields #[.ref d] } : Obj)) ∈ news) (hmd : (d, od) ∈ news) (hod : od.IsDictOf (strKind prog w) kvs) (hc : Cn kvs l) (hn : l.length ≤ 1000)
    (h : ∀ B h' tk c as tups, Fr h₀ L h' m → News h₀ L h' ((B, W.listOf (as.map Value.ref).toArray c) :: (tups ++ news)) → TupsAt tups as l → (∀ p ∈ news, p.1 < B) → (∀ q ∈ tups, B < q.1) → Q (.ref B) { s with heap := h', toks := tk }) :
    wpAny (model prog w) A (call (.type "list") [.ref v]) Q E s := by
  obtain ⟨ep, hat⟩ := KdkAt.of hod
  refine kdx_call (knd := strKind prog w) (kvs := kvs) (ep := ep) hh ⟨_, (N _ hvw).1, rfl, rfl⟩ (hat.dictAt (N _ hmd).1) (by rw [hc.length, sizeLine_eq]; omega) fun h' tk acc c as hk hS hl hG hacc => ?_
  obtain ⟨tups, hT, hTq⟩ := tups_of (h := h') (as := as) (l := l) (hl.trans hc.length) fun j a ha => by
    obtain ⟨key, k, x, e1, e2, e3⟩ := hG.pairs j a ha
    obtain ⟨t, rfl⟩ := Value.isStrOf_shape e2
    obtain ⟨n, u, rfl, e4⟩ := hc.get e1
    exact ⟨k, n, t, u, _, e4, e3⟩
  have ea : acc = (as.map Value.ref).toArray := by rw [← hacc, Array.toArray_toList]
  subst ea
  refine h s.heap.objs.size h' tk c as tups (F.keeps hk) (fun q hq => ?_) hT (fun q hq => Heap.lt_size (N q hq).1) fun q hq => hG.above _ (hTq q hq).1
  rcases List.mem_cons.mp hq with rfl | hq
  · exact ⟨hS, kdx_fresh F (Nat.le_refl _)⟩
  rcases List.mem_append.mp hq with hq | hq
  · exact ⟨(hTq q hq).2, kdx_fresh F (Nat.le_of_lt (hG.above _ (hTq q hq).1))⟩
  · exact ⟨hk _ _ (N q hq).1, (N q hq).2⟩
/-- a comprehension's turn's end: a ledger that may have grown -/
def CGrow (h₀ : Heap) (L : Addr) (m : Str → Option Value) (s : Shared) (I : Addr) (oI : Obj) (C : Addr) (oC : Obj) (D : Addr) (oD : Obj) (P : List (Addr × Obj) → Prop) (s' : Shared) : Prop :=
  ∃ h' tk' nw', s' = { s with heap := h', toks := tk' } ∧ Fr h₀ L h' m ∧ News h₀ L h' ((I, oI) :: (C, oC) :: (D, oD) :: nw') ∧ LCg.Off3 I C D nw' ∧ P nw'
theorem CGrow.intro {I C D : Addr} {oI oC oD : Obj} {P : List (Addr × Obj) → Prop} {h' : Heap} {tk' : Nat} {nw' : List (Addr × Obj)} (F : Fr h₀ L h' m) (N : News h₀ L h' ((I, oI) :: (C, oC) :: (D, oD) :: nw')) (off : LCg.Off3 I C D nw') (p : P nw') :
    CGrow h₀ L m s I oI C oC D oD P { s with heap := h', toks := tk' } := ⟨h', tk', nw', rfl, F, N, off, p⟩
open LCg LCt in
theorem restT_grow {env : Env} {ct elt : Expr} {x : Str} {scope : Scope} {cl : List (Str × Addr)} {S : List (Addr × Obj) → Prop} {P : Nat → Value → Prop} {Fin : List Value → List (Addr × Obj) → Prop} {n : Nat} (J : Nat → List Value → List (Addr × Obj) → Prop) (hS : ∀ nw, S nw)
    (turn : ∀ i ys nw v I oI C oC D m₂ h tk (E' : Value → Shared → Prop), i < n → J i ys nw → P i v → NsObj oC m₂ → m₂ x = some v → Fr h₀ L h m → News h₀ L h ((I, oI) :: (C, oC) :: (D, lst ys) :: nw) → Off3 I C D nw → ((@Ne Nat I C) ∧ (@Ne Nat I D) ∧ (@Ne Nat C D)) →
      wpAny (model prog w) A (isTrue ct (compEnvC scope cl C env) (eval ct (compEnvC scope cl C env))) (fun ok s' => if ok = true then
        wpAny (model prog w) A (eval elt (compEnvC scope cl C env)) (fun y s'' => CGrow h₀ L m s I oI C oC D (lst ys) (J (i + 1) (ys ++ [y])) s'') E' s'
        else CGrow h₀ L m s I oI C oC D (lst ys) (J (i + 1) ys) s') E' { s with heap := h, toks := tk })
    (fin : ∀ ys nw, J n ys nw → Fin ys nw) :
    ∀ k i ys nw, i + k = n → J i ys nw → CompRestT prog w A h₀ L m env ct elt x scope cl s S P Fin k i ys nw := by
  intro k
  induction k with
  | zero => intro i ys nw e hJ; have : i = n := by omega
            subst this; exact fin ys nw hJ
  | succ k ih =>
    intro i ys nw e hJ v I oI C oC D m₂ h tk E' hv hC hx F N off ne
    refine wpAny_mono (turn i ys nw v I oI C oC D m₂ h tk E' (by omega) hJ hv hC hx F N off ne) (fun ok s' h' => ?_) fun _ _ q => q
    cases ok with
    | true =>
      simp only [if_true] at h' ⊢
      refine wpAny_mono h' (fun y s'' h'' => ?_) fun _ _ q => q
      obtain ⟨g, tk', nw', rfl, F', N', off', hJ'⟩ := h''
      exact ⟨g, tk', nw', rfl, F', N', off', hS _, ih (i + 1) _ _ (by omega) hJ'⟩
    | false =>
      simp only [Bool.false_eq_true, if_false] at h' ⊢
      obtain ⟨g, tk', nw', rfl, F', N', off', hJ'⟩ := h'
      exact ⟨g, tk', nw', rfl, F', N', off', hS _, ih (i + 1) _ _ (by omega) hJ'⟩
end
theorem items_step_yes {es : List Nat} {j c : Nat} (h : es[j]? = some c) (hm : ¬ c ∈ es.take j) : itemsTo es (j + 1) = itemsTo es j ++ [(ltr c, (es.count c : Int))] := by
  rw [itemsTo, List.range_succ, List.filterMap_append]
  simp only [List.filterMap_cons, List.filterMap_nil, h]
  rw [if_neg hm]; rfl
theorem items_step_no {es : List Nat} {j c : Nat} (h : es[j]? = some c) (hm : c ∈ es.take j) : itemsTo es (j + 1) = itemsTo es j := by
  rw [itemsTo, List.range_succ, List.filterMap_append]
  simp only [List.filterMap_cons, List.filterMap_nil, h]
  rw [if_pos hm]; simp [itemsTo]
theorem items_ok {es : List Nat} (h8 : ∀ c ∈ es, c < 8) (i : Nat) : ∀ p ∈ itemsTo es i, PyData.strOk p.1 = true := by
  intro p hp
  obtain ⟨k, hk, e⟩ := List.mem_filterMap.mp hp
  cases hc : es[k]? with
  | none => rw [hc] at e; cases e
  | some c =>
    rw [hc] at e
    dsimp only at e
    split at e
    · cases e
    · obtain rfl := Option.some.inj e
      exact txt_ok (cs := [c]) fun d hd => by rw [List.mem_singleton.mp hd]; exact h8 c (List.mem_of_getElem? hc)
theorem led_rot {α : Type} {a b c c1 c2 c3 c4 c5 c6 x : α} {l : List α} : ∀ p, p ∈ a :: b :: c :: c1 :: c2 :: c3 :: c4 :: c5 :: c6 :: x :: l → p ∈ x :: a :: b :: c :: c1 :: c2 :: c3 :: c4 :: c5 :: c6 :: l := by
  intro p hp
  rcases List.mem_cons.mp hp with h | hp
  · rw [h]; exact List.Mem.tail _ (List.Mem.head _)
  rcases List.mem_cons.mp hp with h | hp
  · rw [h]; exact List.Mem.tail _ (List.Mem.tail _ (List.Mem.head _))
  rcases List.mem_cons.mp hp with h | hp
  · rw [h]; exact List.Mem.tail _ (List.Mem.tail _ (List.Mem.tail _ (List.Mem.head _)))
  rcases List.mem_cons.mp hp with h | hp
  · rw [h]; exact List.Mem.tail _ (List.Mem.tail _ (List.Mem.tail _ (List.Mem.tail _ (List.Mem.head _))))
  rcases List.mem_cons.mp hp with h | hp
  · rw [h]; exact List.Mem.tail _ (List.Mem.tail _ (List.Mem.tail _ (List.Mem.tail _ (List.Mem.tail _ (List.Mem.head _)))))
  rcases List.mem_cons.mp hp with h | hp
  · rw [h]; exact List.Mem.tail _ (List.Mem.tail _ (List.Mem.tail _ (List.Mem.tail _ (List.Mem.tail _ (List.Mem.tail _ (List.Mem.head _))))))
  rcases List.mem_cons.mp hp with h | hp
  · rw [h]; exact List.Mem.tail _ (List.Mem.tail _ (List.Mem.tail _ (List.Mem.tail _ (List.Mem.tail _ (List.Mem.tail _ (List.Mem.tail _ (List.Mem.head _)))))))
  rcases List.mem_cons.mp hp with h | hp
  · rw [h]; exact List.Mem.tail _ (List.Mem.tail _ (List.Mem.tail _ (List.Mem.tail _ (List.Mem.tail _ (List.Mem.tail _ (List.Mem.tail _ (List.Mem.tail _ (List.Mem.head _))))))))
  rcases List.mem_cons.mp hp with h | hp
  · rw [h]; exact List.Mem.tail _ (List.Mem.tail _ (List.Mem.tail _ (List.Mem.tail _ (List.Mem.tail _ (List.Mem.tail _ (List.Mem.tail _ (List.Mem.tail _ (List.Mem.tail _ (List.Mem.head _)))))))))
  rcases List.mem_cons.mp hp with h | hp
  · rw [h]; exact List.Mem.head _
  exact List.Mem.tail _ (List.Mem.tail _ (List.Mem.tail _ (List.Mem.tail _ (List.Mem.tail _ (List.Mem.tail _ (List.Mem.tail _ (List.Mem.tail _ (List.Mem.tail _ (List.Mem.tail _ (hp))))))))))
theorem led_put {α : Type} {c1 c2 c3 c4 c5 c6 x : α} {l : List α} : ∀ p, p ∈ c1 :: c2 :: c3 :: c4 :: c5 :: c6 :: x :: l → p = x ∨ p ∈ c1 :: c2 :: c3 :: c4 :: c5 :: c6 :: l := by
  intro p hp
  rcases List.mem_cons.mp hp with h | hp
  · rw [h]; exact Or.inr (List.Mem.head _)
  rcases List.mem_cons.mp hp with h | hp
  · rw [h]; exact Or.inr (List.Mem.tail _ (List.Mem.head _))
  rcases List.mem_cons.mp hp with h | hp
  · rw [h]; exact Or.inr (List.Mem.tail _ (List.Mem.tail _ (List.Mem.head _)))
  rcases List.mem_cons.mp hp with h | hp
  · rw [h]; exact Or.inr (List.Mem.tail _ (List.Mem.tail _ (List.Mem.tail _ (List.Mem.head _))))
  rcases List.mem_cons.mp hp with h | hp
  · rw [h]; exact Or.inr (List.Mem.tail _ (List.Mem.tail _ (List.Mem.tail _ (List.Mem.tail _ (List.Mem.head _)))))
  rcases List.mem_cons.mp hp with h | hp
  · rw [h]; exact Or.inr (List.Mem.tail _ (List.Mem.tail _ (List.Mem.tail _ (List.Mem.tail _ (List.Mem.tail _ (List.Mem.head _))))))
  rcases List.mem_cons.mp hp with h | hp
  · exact Or.inl h
  exact Or.inr (List.Mem.tail _ (List.Mem.tail _ (List.Mem.tail _ (List.Mem.tail _ (List.Mem.tail _ (List.Mem.tail _ (hp)))))))
theorem led_ins {α : Type} {c1 c2 c3 c4 c5 c6 x a b c d e : α} {tups rest : List α} : ∀ p, p ∈ c1 :: c2 :: c3 :: c4 :: c5 :: c6 :: x :: (tups ++ rest) → p ∈ x :: (tups ++ a :: b :: c :: d :: e :: c1 :: c2 :: c3 :: c4 :: c5 :: c6 :: rest) := by
  intro p hp
  rcases List.mem_cons.mp hp with h | hp
  · rw [h]; exact List.Mem.tail _ (List.mem_append_right _ (List.Mem.tail _ (List.Mem.tail _ (List.Mem.tail _ (List.Mem.tail _ (List.Mem.tail _ (List.Mem.head _)))))))
  rcases List.mem_cons.mp hp with h | hp
  · rw [h]; exact List.Mem.tail _ (List.mem_append_right _ (List.Mem.tail _ (List.Mem.tail _ (List.Mem.tail _ (List.Mem.tail _ (List.Mem.tail _ (List.Mem.tail _ (List.Mem.head _))))))))
  rcases List.mem_cons.mp hp with h | hp
  · rw [h]; exact List.Mem.tail _ (List.mem_append_right _ (List.Mem.tail _ (List.Mem.tail _ (List.Mem.tail _ (List.Mem.tail _ (List.Mem.tail _ (List.Mem.tail _ (List.Mem.tail _ (List.Mem.head _)))))))))
  rcases List.mem_cons.mp hp with h | hp
  · rw [h]; exact List.Mem.tail _ (List.mem_append_right _ (List.Mem.tail _ (List.Mem.tail _ (List.Mem.tail _ (List.Mem.tail _ (List.Mem.tail _ (List.Mem.tail _ (List.Mem.tail _ (List.Mem.tail _ (List.Mem.head _))))))))))
  rcases List.mem_cons.mp hp with h | hp
  · rw [h]; exact List.Mem.tail _ (List.mem_append_right _ (List.Mem.tail _ (List.Mem.tail _ (List.Mem.tail _ (List.Mem.tail _ (List.Mem.tail _ (List.Mem.tail _ (List.Mem.tail _ (List.Mem.tail _ (List.Mem.tail _ (List.Mem.head _)))))))))))
  rcases List.mem_cons.mp hp with h | hp
  · rw [h]; exact List.Mem.tail _ (List.mem_append_right _ (List.Mem.tail _ (List.Mem.tail _ (List.Mem.tail _ (List.Mem.tail _ (List.Mem.tail _ (List.Mem.tail _ (List.Mem.tail _ (List.Mem.tail _ (List.Mem.tail _ (List.Mem.tail _ (List.Mem.head _))))))))))))
  rcases List.mem_cons.mp hp with h | hp
  · rw [h]; exact List.Mem.head _
  rcases List.mem_append.mp hp with h | h
  · exact List.Mem.tail _ (List.mem_append_left _ h)
  · exact List.Mem.tail _ (List.mem_append_right _ (List.Mem.tail _ (List.Mem.tail _ (List.Mem.tail _ (List.Mem.tail _ (List.Mem.tail _ (List.Mem.tail _ (List.Mem.tail _ (List.Mem.tail _ (List.Mem.tail _ (List.Mem.tail _ (List.Mem.tail _ (h)))))))))))))
end Mine
end

section
open PySem PySem.W PySem.Spec PySem.Calls PyProof.Rows
namespace Mine
theorem quiet_S0 : True := by w_top off; trivial
local macro_rules | `(tactic| walk_at "execs") => `(tactic| refine Hold.out ?_)
theorem tail_0 : tailB 0 = stB 0 :: stB 1 :: tailB 2 := by with_unfolding_all rfl
set_option maxRecDepth 100000 in
set_option maxHeartbeats 2000000 in
theorem st0 (w : World) (s₀ : Shared) (mg mb : Str → Option Value) (ns : List Int) (next : LawFrom w s₀ mg mb 2 (Pre2 ns)) : LawFrom w s₀ mg mb 0 (Pre0 ns) := by
  intro dp un gd a ccd outer A₀ base h₀ L m news s Q E cs ss hcs hss B F X N T hE hdp hun hpre ret
  have hcs' := hcs
  revert X; k_fill; intro X
  rw [tail_0] at hss
  obtain ⟨s0, hs0⟩ : ∃ x, x = stB 0 := ⟨_, rfl⟩
  obtain ⟨s1, hs1⟩ : ∃ x, x = stB 1 := ⟨_, rfl⟩
  rw [← hs0, ← hs1] at hss
  conv at hcs => rhs; whnf
  conv at hs0 => rhs; whnf
  conv at hs1 => rhs; whnf
  subst hcs hss hs0 hs1
  obtain ⟨hns, o1, o2, o3, o4, o5, vs, v2, v3, v4, v5, rfl, ⟨aS, vsS, rfl, hL, hI⟩, d1, d2, d3, d4, d5⟩ := hpre
  delta lawCl
  k_steps
  unfold Hold
  rename Fr h₀ L _ _ => F'
  rename News h₀ L _ _ => N'
  rename_i dT _ _ _ dN
  exact next _ _ _ _ _ _ _ _ _ _ _ _ _ _ _ _ _ hcs' rfl B F' X N' T hE hdp hun ⟨v4, v5, hns, _, _, _, _, _, _, _, _, rfl, ⟨aS, vsS, rfl, hL, hI⟩, d1, by assumption, by assumption, d4, d5⟩ ret
end Mine
end

section
open PySem PySem.W PySem.Spec PySem.Calls PyProof.Rows
namespace Mine
local macro_rules | `(tactic| walk_at "none such") => `(tactic| fail)
theorem quiet_S2 : True := by w_top off; trivial
local macro_rules | `(tactic| walk_at $s:str) => if ["execs", "exec Assign cons ListComp", "CompSrc", "call ref", "binaryOp Mod int int"].contains s.getString then `(tactic| refine Hold.out ?_) else Lean.Macro.throwUnsupported
theorem tail_2 : tailB 2 = stB 2 :: tailB 3 := by with_unfolding_all rfl
set_option maxRecDepth 100000 in
set_option maxHeartbeats 2000000 in
theorem st2 (w : World) (s₀ : Shared) (mg mb : Str → Option Value) (ns : List Int) (next : LawFrom w s₀ mg mb 3 (Pre3 ns)) : LawFrom w s₀ mg mb 2 (Pre2 ns) := by
  intro dp un gd a ccd outer A₀ base h₀ L m news s Q E cs ss hcs hss B F X N T hE hdp hun hpre ret
  have hcs' := hcs
  revert X; k_fill; intro X
  rw [tail_2] at hss
  obtain ⟨s0, hs0⟩ : ∃ x, x = stB 2 := ⟨_, rfl⟩
  rw [← hs0] at hss
  conv at hcs => rhs; whnf
  conv at hs0 => rhs; whnf
  subst hcs hss hs0
  obtain ⟨v4, v5, hns, o1, o2, o3, o4, o5, vs, t2, t3, rfl, ⟨aS, vsS, rfl, hL, hI⟩, d1, d2, d3, d4, d5⟩ := hpre
  delta lawCl
  k_steps
  unfold Hold
  k_dflt (refine LCg.Assign_ListComp_U (F₀ := F) (by rfl) (by with_unfolding_all rfl) (by with_unfolding_all rfl) (by decide) (by rfl) (by decide) (by rfl) (by rfl) (by rfl) ?_)
  k_steps
  unfold Hold
  rename_i hC tkC tc1 tc2 tc3 hIC FC NC hupC
  refine LCg.CompSrc.range (n := 6) rfl FC NC hIC (by decide) (by rfl) (by decide +kernel) fun g9 => ?_
  refine restU_inv (n := 6) (fun i ys => IntsAre ys (([4, 6, 2, 3, 1, 5] : List Int).take i)) trivial ?_ ?_ 6 0 [] rfl .nil
  · rintro j ys v I2 oI2 C2 oC2 D2 m₂ h2 tk2 E2 hj hys ⟨tv, rfl⟩ hC2 hk2 F3 N3 off3 ne3
    rw [Int.zero_add] at hk2
    k_steps
    unfold Hold
    refine mod_int' (by decide) ?_
    have hf := fmod_in (ns.sum.fdiv 2) (b := 3) (by decide)
    obtain ⟨n, hn⟩ : ∃ n : Nat, (ns.sum.fdiv 2).fmod 3 = (n : Int) := ⟨_, (Int.toNat_of_nonneg hf.1).symm⟩
    rw [hn] at hf ⊢
    have hn3 : n < 3 := by omega
    have hsm : Int.natAbs (n : Int) < 2 ^ 1024 - 2 ^ 970 := by
      rw [Int.natAbs_natCast]
      exact Nat.lt_of_lt_of_le (show n < 3 from hn3) (by decide +kernel)
    obtain ⟨k1, k2, k3, k4, k5⟩ := hues_ok j hj n hn3
    obtain ⟨r1, r2, r3⟩ := okR_says k1
    clear k1
    k_steps
    unfold Hold
    rename Fr h₀ L _ _ => F4
    rename News h₀ L _ _ => N4
    refine hsv1_c w s₀ mg mb (hue6 j n) _ _ _ _ r1 r2 r3 _ _ _ _ _ _ _ _ _ _ _ _ _ _ _ _ _ B F4 X N4 T rfl (by omega) (by omega) ?_
    rintro v tl h4 tk4 ⟨D, u1, u2, u3, n3, rfl, rfl⟩ hl4 F5 N5
    k_steps
    unfold Hold
    refine code_c w s₀ mg mb _ _ _ D _ _ _ _ _ (.head _) (okH_says k2).1 (okH_says k2).2 (okH_says k3).1 (okH_says k3).2 (okH_says k4).1 (okH_says k4).2 _ _ _ _ _ _ _ _ _ _ _ _ _ _ _ _ _ B F5 X N5 T rfl (by omega) (by omega) ?_
    rintro v tl h6 tk6 ⟨u4, rfl, rfl⟩ hl6 F6 N6
    k_steps
    refine CBack.intro F6 (news_sub N6 fun p hp => .tail _ hp) (ints_step hys ?_)
    have k5 : truncI (Float64.add (hsvR (hue6 j n)) HALF) * 4 + truncI (Float64.add (hsvG (hue6 j n)) HALF) * 2 + truncI (Float64.add (hsvB (hue6 j n)) HALF) = [4, 6, 2, 3, 1, 5].getD j 0 := k5
    rw [k5]
    have hj6 : j = 0 ∨ j = 1 ∨ j = 2 ∨ j = 3 ∨ j = 4 ∨ j = 5 := by omega
    rcases hj6 with rfl | rfl | rfl | rfl | rfl | rfl <;> rfl
  · intro ys hys D9 h9 tk9 F9 N9 off9
    k_steps
    unfold Hold
    exact next _ _ _ _ _ _ _ _ _ _ _ _ _ _ _ _ _ hcs' rfl B F9 X N9 T hE hdp hun ⟨v4, v5, _, D9, ys, ⟨hns, _, _, _, _, _, _, _, _, rfl, ⟨aS, vsS, rfl, hL, hI⟩, d1, d2, d3, d4, d5⟩, rfl, hys, rfl⟩ ret
end Mine
end

section
open PySem PySem.W PySem.Spec PySem.Calls PyProof.Rows
namespace Mine
local macro_rules | `(tactic| walk_at "none such") => `(tactic| fail)
theorem quiet_S3 : True := by w_top off; trivial
local macro_rules | `(tactic| walk_at $s:str) => if ["execs", "eval ListComp", "CompSrc", "call builtin:str.join"].contains s.getString then `(tactic| refine Hold.out ?_) else Lean.Macro.throwUnsupported
local macro_rules | `(tactic| walk_at "subscriptTail Name Name str int") => `(tactic| (refine item_nm (by assumption) ?_; intro _ _))
theorem codes_at {j : Nat} {x : Int} (h : ([4, 6, 2, 3, 1, 5] : List Int)[j]? = some x) : ∃ c : Nat, c < 8 ∧ x = (c : Int) ∧ ([txt [4], txt [6], txt [2], txt [3], txt [1], txt [5]] : List Str)[j]? = some (txt [c]) := by
  have hj : j < 6 := (List.getElem?_eq_some_iff.mp h).1
  have hj6 : j = 0 ∨ j = 1 ∨ j = 2 ∨ j = 3 ∨ j = 4 ∨ j = 5 := by omega
  rcases hj6 with rfl | rfl | rfl | rfl | rfl | rfl <;> (simp at h; subst h)
  · exact ⟨4, by decide, rfl, rfl⟩
  · exact ⟨6, by decide, rfl, rfl⟩
  · exact ⟨2, by decide, rfl, rfl⟩
  · exact ⟨3, by decide, rfl, rfl⟩
  · exact ⟨1, by decide, rfl, rfl⟩
  · exact ⟨5, by decide, rfl, rfl⟩
theorem ring_join : JoinOk (Str.ofString "") [txt [4], txt [6], txt [2], txt [3], txt [1], txt [5]] = true ∧ Txt.join (Str.ofString "") [txt [4], txt [6], txt [2], txt [3], txt [1], txt [5]] = Str.ofString "rygcbm" := by decide +kernel
theorem tail_3 : tailB 3 = stB 3 :: tailB 4 := by with_unfolding_all rfl
set_option maxRecDepth 100000 in
set_option maxHeartbeats 2000000 in
theorem st3 (w : World) (s₀ : Shared) (mg mb : Str → Option Value) (ns : List Int) (next : LawFrom w s₀ mg mb 4 (Pre4 ns)) : LawFrom w s₀ mg mb 3 (Pre3 ns) := by
  intro dp un gd a ccd outer A₀ base h₀ L m news s Q E cs ss hcs hss B F X N T hE hdp hun hpre ret
  have hcs' := hcs
  revert X; k_fill; intro X
  rw [tail_3] at hss
  obtain ⟨s0, hs0⟩ : ∃ x, x = stB 3 := ⟨_, rfl⟩
  rw [← hs0] at hss
  conv at hcs => rhs; whnf
  conv at hs0 => rhs; whnf
  subst hcs hss hs0
  obtain ⟨v4, v5, cells, C, ys, ⟨hns, o1, o2, o3, o4, o5, vs, t2, t3, rfl, ⟨aS, vsS, rfl, hL, hI⟩, d1, d2, d3, d4, d5⟩, rfl, hys, hm⟩ := hpre
  delta lawCl
  have F1 := frKnow (a := Str.ofString "codes") F hm
  clear F
  k_steps
  unfold Hold
  rename Fr h₀ L _ _ => F2
  rename News h₀ L _ _ => N2
  k_dflt (refine LCg.ListComp_U (F₀ := F2) (by with_unfolding_all rfl) (by decide) (by rfl) (by decide) (by rfl) ?_)
  k_steps
  unfold Hold
  refine LCg.CompSrc.ledger rfl F2 N2 (.head _) (by have := hys.length; simp at this; rw [List.size_toArray, sizeLine_eq]; omega) fun g9 => ?_
  refine restU_inv (n := ys.toArray.size) (fun i zs => StrsAre zs (([txt [4], txt [6], txt [2], txt [3], txt [1], txt [5]] : List Str).take i)) (.inr ⟨_, .head _, rfl, _, rfl⟩) ?_ ?_ _ 0 [] (by omega) .nil
  · rintro j zs v I2 oI2 C2 oC2 D2 m₂ h2 tk2 E2 hj hzs hv hC2 hk2 F3 N3 off3 ne3
    obtain ⟨x, tv, rfl, hx⟩ := intsAre_get hys (by simpa using hv)
    obtain ⟨c, hc8, rfl, hc⟩ := codes_at hx
    k_steps
    exact CBack.intro F3 N3 (strs_step hzs hc)
  · intro zs hzs D9 h9 tk9 F9 N9 off9
    have hsz : ys.toArray.size = 6 := hys.length
    rw [hsz] at hzs
    obtain ⟨l, hl1, hl2⟩ := strsAre_values hzs
    k_steps
    unfold Hold
    have hl9 : h9.IsList D9 (strValues l).toArray := ⟨_, (N9 _ (.head _)).1, rfl, _, by rw [hl1]⟩
    refine SC.join hl9 hl2 ring_join.1 ?_
    intro t' k3
    rw [show (([txt [4], txt [6], txt [2], txt [3], txt [1], txt [5]] : List Str).take 6) = [txt [4], txt [6], txt [2], txt [3], txt [1], txt [5]] from rfl, ring_join.2]
    k_steps
    unfold Hold
    rename Fr h₀ L _ _ => F5
    rename News h₀ L _ _ => N5
    exact next _ _ _ _ _ _ _ _ _ _ _ _ _ _ _ _ _ hcs' rfl B F5 X (news_sub N5 fun p hp => .tail _ (.tail _ hp)) T hE hdp hun ⟨v4, v5, _, ⟨hns, _, _, _, _, _, _, _, _, rfl, ⟨aS, vsS, rfl, hL, hI⟩, d1, d2, d3, d4, d5⟩, rfl⟩ ret
end Mine
end

section
open PySem PySem.W PySem.Spec PySem.Calls PyProof.Rows
namespace Mine
theorem quiet_S4 : True := by w_top off; trivial
local macro_rules | `(tactic| walk_at $s:str) => if ["execs", "exec Assign cons ListComp", "CompSrc", "call ref", "binaryOp Mod int int"].contains s.getString then `(tactic| refine Hold.out ?_) else Lean.Macro.throwUnsupported
theorem tail_4 : tailB 4 = stB 4 :: tailB 5 := by with_unfolding_all rfl
set_option maxRecDepth 100000 in
set_option maxHeartbeats 4000000 in
theorem st4 (w : World) (s₀ : Shared) (mg mb : Str → Option Value) (ns : List Int) (next : LawFrom w s₀ mg mb 5 (Pre5 ns)) : LawFrom w s₀ mg mb 4 (Pre4 ns) := by
  intro dp un gd a ccd outer A₀ base h₀ L m news s Q E cs ss hcs hss B F X N T hE hdp hun hpre ret
  have hcs' := hcs
  revert X; k_fill; intro X
  rw [tail_4] at hss
  obtain ⟨s0, hs0⟩ : ∃ x, x = stB 4 := ⟨_, rfl⟩
  rw [← hs0] at hss
  conv at hcs => rhs; whnf
  conv at hs0 => rhs; whnf
  subst hcs hss hs0
  obtain ⟨v4, v5, t, ⟨hns, o1, o2, o3, o4, o5, vs, t2, t3, rfl, ⟨aS, vsS, rfl, hL, hI⟩, d1, d2, d3, d4, d5⟩, hm⟩ := hpre
  delta lawCl
  k_steps
  unfold Hold
  k_dflt (refine LCg.Assign_ListComp_U (F₀ := F) (by rfl) (by with_unfolding_all rfl) (by with_unfolding_all rfl) (by decide) (by rfl) (by decide) (by rfl) (by rfl) (by rfl) ?_)
  k_steps
  unfold Hold
  rename Fr h₀ L _ _ => FC
  rename News h₀ L _ _ => NC
  refine LCg.CompSrc.ledger rfl FC NC (.head _) (by with_unfolding_all exact Nat.le_of_ble_eq_true rfl) fun g9 => ?_
  obtain ⟨e1, e2, e3, e4⟩ := ends_ok
  refine restU_inv (n := 2) (fun i ys => IntsAre ys (([0, 7] : List Int).take i)) (.inr ⟨_, .head _, rfl, _, rfl⟩) ?_ ?_ 2 0 [] rfl .nil
  · rintro j ys v I2 oI2 C2 oC2 D2 m₂ h2 tk2 E2 hj hys hv hC2 hk2 F3 N3 off3 ne3
    have hj2 : j = 0 ∨ j = 1 := by omega
    obtain ⟨y, tv, rfl, hy0, hcode⟩ : ∃ y tv, v = .float y tv ∧ okH y = true ∧ ([0, 7] : List Int)[j]? = some (codeF y y y) := by
      rcases hj2 with rfl | rfl
      · exact ⟨_, _, (Option.some.inj hv).symm, e1, by rw [e3]; rfl⟩
      · exact ⟨_, _, (Option.some.inj hv).symm, e2, by rw [e4]; rfl⟩
    k_steps
    unfold Hold
    refine mod_int' (by decide) ?_
    have hf := fmod_in ns.sum (b := 7) (by decide)
    obtain ⟨n, hn⟩ : ∃ n : Nat, ns.sum.fmod 7 = (n : Int) := ⟨_, (Int.toNat_of_nonneg hf.1).symm⟩
    rw [hn] at hf ⊢
    have hsm : Int.natAbs (n : Int) < 2 ^ 1024 - 2 ^ 970 := by
      rw [Int.natAbs_natCast]
      exact Nat.lt_of_lt_of_le (show n < 7 by omega) (by decide +kernel)
    k_steps
    unfold Hold
    rename Fr h₀ L _ _ => F4
    rename News h₀ L _ _ => N4
    refine hsv0_c w s₀ mg mb _ _ _ _ _ _ _ _ _ _ _ _ _ _ _ _ _ _ _ _ _ _ _ B F4 X N4 T rfl (by omega) (by omega) ?_
    rintro v tl h4 tk4 ⟨D, u1, u2, u3, n3, rfl, rfl⟩ hl4 F5 N5
    k_steps
    unfold Hold
    refine code_c w s₀ mg mb _ _ _ D _ _ _ _ _ (.head _) (okH_says hy0).1 (okH_says hy0).2 (okH_says hy0).1 (okH_says hy0).2 (okH_says hy0).1 (okH_says hy0).2 _ _ _ _ _ _ _ _ _ _ _ _ _ _ _ _ _ B F5 X N5 T rfl (by omega) (by omega) ?_
    rintro v tl h6 tk6 ⟨u4, rfl, rfl⟩ hl6 F6 N6
    k_steps
    exact CBack.intro F6 (news_sub N6 fun p hp => .tail _ hp) (ints_step hys hcode)
  · intro ys hys D9 h9 tk9 F9 N9 off9
    k_steps
    unfold Hold
    exact next _ _ _ _ _ _ _ _ _ _ _ _ _ _ _ _ _ hcs' rfl B F9 X (news_sub N9 fun p hp => by
      rcases List.mem_cons.mp hp with rfl | hp
      · exact .head _
      · exact .tail _ (.tail _ hp)) T hE hdp hun ⟨v4, v5, _, D9, ys, t, ⟨hns, _, _, _, _, _, _, _, _, rfl, ⟨aS, vsS, rfl, hL, hI⟩, d1, d2, d3, d4, d5⟩, rfl, hys, rfl, hm⟩ ret
end Mine
end

section
open PySem PySem.W PySem.Spec PySem.Calls PyProof.Rows
namespace Mine
local macro_rules | `(tactic| walk_at "none such") => `(tactic| fail)
theorem quiet_S5 : True := by w_top off; trivial
local macro_rules | `(tactic| walk_at $s:str) => if ["execs", "call ref"].contains s.getString then `(tactic| refine Hold.out ?_) else Lean.Macro.throwUnsupported
theorem tail_5 : tailB 5 = stB 5 :: tailB 6 := by with_unfolding_all rfl
set_option maxRecDepth 100000 in
set_option maxHeartbeats 4000000 in
theorem st5 (w : World) (s₀ : Shared) (mg mb : Str → Option Value) (ns : List Int) (next : LawFrom w s₀ mg mb 6 (Pre4 ns)) : LawFrom w s₀ mg mb 5 (Pre5 ns) := by
  intro dp un gd a ccd outer A₀ base h₀ L m news s Q E cs ss hcs hss B F X N T hE hdp hun hpre ret
  have hcs' := hcs
  revert X; k_fill; intro X
  rw [tail_5] at hss
  obtain ⟨s0, hs0⟩ : ∃ x, x = stB 5 := ⟨_, rfl⟩
  rw [← hs0] at hss
  conv at hcs => rhs; whnf
  conv at hs0 => rhs; whnf
  subst hcs hss hs0
  obtain ⟨v4, v5, cells, C, ys, t, ⟨hns, o1, o2, o3, o4, o5, vs, t2, t3, rfl, ⟨aS, vsS, rfl, hL, hI⟩, d1, d2, d3, d4, d5⟩, rfl, hys, hm1, hm2⟩ := hpre
  delta lawCl
  have F1 := frKnow (a := Str.ofString "ring") (frKnow (a := Str.ofString "ends") F hm1) hm2
  clear F
  obtain ⟨u1, _, rfl, hys1⟩ := ints_cons hys
  obtain ⟨u2, _, rfl, hys2⟩ := ints_cons hys1
  obtain rfl := ints_nil hys2
  k_steps
  unfold Hold
  rename Fr h₀ L _ _ => F5
  rename News h₀ L _ _ => N5
  exact next _ _ _ _ _ _ _ _ _ _ _ _ _ _ _ _ _ hcs' rfl B F5 X (news_sub N5 fun p hp => .tail _ (.tail _ hp)) T hE hdp hun ⟨v4, v5, t, ⟨hns, _, _, _, _, _, _, _, _, rfl, ⟨aS, vsS, rfl, hL, hI⟩, d1, d2, d3, d4, d5⟩, rfl⟩ ret
end Mine
end

section
open PySem PySem.W PySem.Spec PySem.Calls PyProof.Rows
namespace Mine
theorem quiet_S6 : True := by w_top off; trivial
local macro_rules | `(tactic| walk_at $s:str) => if ["execs", "exec Assign cons ListComp", "CompSrc", "call ref"].contains s.getString then `(tactic| refine Hold.out ?_) else Lean.Macro.throwUnsupported
theorem tail_6 : tailB 6 = stB 6 :: tailB 7 := by with_unfolding_all rfl
set_option maxRecDepth 100000 in
set_option maxHeartbeats 4000000 in
theorem st6 (w : World) (s₀ : Shared) (mg mb : Str → Option Value) (ns : List Int) (next : LawFrom w s₀ mg mb 7 (Pre7 ns)) : LawFrom w s₀ mg mb 6 (Pre4 ns) := by
  intro dp un gd a ccd outer A₀ base h₀ L m news s Q E cs ss hcs hss B F X N T hE hdp hun hpre ret
  have hcs' := hcs
  revert X; k_fill; intro X
  rw [tail_6] at hss
  obtain ⟨s0, hs0⟩ : ∃ x, x = stB 6 := ⟨_, rfl⟩
  rw [← hs0] at hss
  conv at hcs => rhs; whnf
  conv at hs0 => rhs; whnf
  subst hcs hss hs0
  obtain ⟨v4, v5, t, ⟨hns, o1, o2, o3, o4, o5, vs, t2, t3, rfl, ⟨aS, vsS, rfl, hL, hI⟩, d1, d2, d3, d4, d5⟩, hm⟩ := hpre
  delta lawCl
  k_steps
  unfold Hold
  k_dflt (refine LCg.Assign_ListComp_U (F₀ := F) (by rfl) (by with_unfolding_all rfl) (by with_unfolding_all rfl) (by decide) (by rfl) (by decide) (by rfl) (by rfl) (by rfl) ?_)
  k_steps
  unfold Hold
  rename_i hC tkC tc1 tc2 tc3 hIC FC NC hupC
  refine LCg.CompSrc.range (n := 8) rfl FC NC hIC (by decide) (by rfl) (by decide +kernel) fun g9 => ?_
  refine restU_inv (n := 8) (fun i ys => IntsAre ys (((List.range 8).map (price ns.sum)).take i)) trivial ?_ ?_ 8 0 [] rfl .nil
  · rintro j ys v I2 oI2 C2 oC2 D2 m₂ h2 tk2 E2 hj hys ⟨tv, rfl⟩ hC2 hk2 F3 N3 off3 ne3
    rw [Int.zero_add] at hk2
    k_steps
    unfold Hold
    rename Fr h₀ L _ _ => F4
    rename News h₀ L _ _ => N4
    refine price_c w s₀ mg mb j _ _ ns.sum _ hj _ _ _ _ _ _ _ _ _ _ _ _ _ _ _ _ _ B F4 X N4 T rfl (by omega) (by omega) ?_
    rintro v tl h6 tk6 ⟨u4, rfl, rfl⟩ hl6 F6 N6
    k_steps
    exact CBack.intro F6 N6 (ints_step hys (by simp [hj]))
  · intro ys hys D9 h9 tk9 F9 N9 off9
    k_steps
    unfold Hold
    have hys : IntsAre ys [price ns.sum 0, price ns.sum 1, price ns.sum 2, price ns.sum 3, price ns.sum 4, price ns.sum 5, price ns.sum 6, price ns.sum 7] := hys
    obtain ⟨q, rfl⟩ := ints8 hys
    exact next _ _ _ _ _ _ _ _ _ _ _ _ _ _ _ _ _ hcs' rfl B F9 X N9 T hE hdp hun ⟨v4, v5, _, D9, q, _, t, ⟨hns, _, _, _, _, _, _, _, _, rfl, ⟨aS, vsS, rfl, hL, hI⟩, d1, d2, d3, d4, d5⟩, rfl, rfl, hm⟩ ret
end Mine
end

section
open PySem PySem.W PySem.Spec PySem.Calls PyProof.Rows
namespace Mine
theorem quiet_S7 : True := by w_top off; trivial
local macro_rules | `(tactic| walk_at $s:str) => if ["execs", "exec For Name Call cons nil", "pyIter ref", "call ref", "setItem ref str", "setItem ref str ref", "setItem ref str str", "subscriptTail Name Name ref int", "eval Dict", "KdnMade"].contains s.getString then `(tactic| refine Hold.out ?_) else Lean.Macro.throwUnsupported
local macro_rules | `(tactic| walk_at "subscriptTail Name BinOp str int") => `(tactic| (refine item_nm (by assumption) ?_; intro _ _))
local macro_rules | `(tactic| walk_at "subscriptTail Name Name str int") => `(tactic| (refine item_nm (by assumption) ?_; intro _ _))
local macro_rules | `(tactic| walk_at "binaryOp BitAnd int int") => `(tactic| (refine and_nat (by assumption) ?_; intro _ _))
local macro_rules | `(tactic| walk_at "binaryOp BitOr int int") => `(tactic| (refine or_nat (by assumption) ?_; intro _ _))
local macro_rules | `(tactic| walk_at "binaryOp Add str str") => `(tactic| (refine addT (Nat.le_of_ble_eq_true rfl) ?_; intro _ _))
/-- the outer loop's word -/
inductive J7 (w : World) (P : Nat → Int) (PL : Addr) (q : Nat → Tok) (nP : Nat) (t : Tok) (aE aP : Addr) (c5 c4 c3 c2 c1 : Addr × Obj) (i : Nat) (m₁ : Str → Option Value) (nw : List (Addr × Obj)) : Prop
  | mk : m₁ (Str.ofString "prices") = some (.ref PL) → m₁ (Str.ofString "ring") = some (.str (Str.ofString "rygcbm") t) → m₁ (Str.ofString "entries") = some (.ref aE) → m₁ (Str.ofString "pairs") = some (.ref aP) →
    ∀ (oE : Obj) (kvE : List (Str × Value)) (oP : Obj) (kvP : List (Str × Value)) (rest : List (Addr × Obj)), nw = (aP, oP) :: (aE, oE) :: (PL, pricesObj P q nP) :: c5 :: c4 :: c3 :: c2 :: c1 :: rest → oE.IsDictOf (sk w) kvE → oP.IsDictOf (sk w) kvP →
    EntTo w rest kvE P i → PairTo kvP i 0 → (∀ p ∈ rest, aP < p.1) → J7 w P PL q nP t aE aP c5 c4 c3 c2 c1 i m₁ nw
/-- the inner loop's word -/
inductive J7i (w : World) (P : Nat → Int) (PL : Addr) (q : Nat → Tok) (nP : Nat) (t : Tok) (aE aP : Addr) (c5 c4 c3 c2 c1 : Addr × Obj) (i : Nat) (u : Tok) (oE2 : Obj) (tail : List (Addr × Obj)) (j : Nat) (m₁ : Str → Option Value) (nw : List (Addr × Obj)) : Prop
  | mk : m₁ (Str.ofString "prices") = some (.ref PL) → m₁ (Str.ofString "ring") = some (.str (Str.ofString "rygcbm") t) → m₁ (Str.ofString "entries") = some (.ref aE) → m₁ (Str.ofString "pairs") = some (.ref aP) → m₁ (Str.ofString "x") = some (.int ((i : Nat) : Int) u) →
    ∀ (oP : Obj) (kvP : List (Str × Value)), nw = (aP, oP) :: (aE, oE2) :: (PL, pricesObj P q nP) :: c5 :: c4 :: c3 :: c2 :: c1 :: tail → oP.IsDictOf (sk w) kvP → PairTo kvP i j → J7i w P PL q nP t aE aP c5 c4 c3 c2 c1 i u oE2 tail j m₁ nw
theorem tail_7 : tailB 7 = stB 7 :: stB 8 :: stB 9 :: tailB 10 := by with_unfolding_all rfl
set_option maxRecDepth 100000 in
set_option maxHeartbeats 4000000 in
theorem st7 (w : World) (s₀ : Shared) (mg mb : Str → Option Value) (ns : List Int) (next : LawFrom w s₀ mg mb 10 (Pre10 w ns)) : LawFrom w s₀ mg mb 7 (Pre7 ns) := by
  intro dp un gd a ccd outer A₀ base h₀ L m news s Q E cs ss hcs hss B F X N T hE hdp hun hpre ret
  have hcs' := hcs
  revert X; k_fill; intro X
  rw [tail_7] at hss
  obtain ⟨s0, hs0⟩ : ∃ x, x = stB 7 := ⟨_, rfl⟩
  obtain ⟨s1, hs1⟩ : ∃ x, x = stB 8 := ⟨_, rfl⟩
  obtain ⟨s2, hs2⟩ : ∃ x, x = stB 9 := ⟨_, rfl⟩
  rw [← hs0, ← hs1, ← hs2] at hss
  conv at hcs => rhs; whnf
  conv at hs0 => rhs; whnf
  conv at hs1 => rhs; whnf
  conv at hs2 => rhs; whnf
  subst hcs hss hs0 hs1 hs2
  obtain ⟨v4, v5, cells, PL, q, nP, t, ⟨hns, o1, o2, o3, o4, o5, vs, t2, t3, rfl, ⟨aS, vsS, rfl, hL, hI⟩, d1, d2, d3, d4, d5⟩, rfl, hm1, hm2⟩ := hpre
  delta lawCl
  try dsimp only
  k_steps
  unfold Hold
  rename_i aE hA oE0 lo1 hs1 fs1 hi1 fi1 l1 hB aP hC oP0 lo2 hs2 fs2 hi2 fi2 l2 hD FD ND
  clear fs1 hi1 fi1 fs2 hi2 fi2
  refine For_turns FD ?_ (by intro _; rfl) hE
  try dsimp only
  k_steps
  unfold Hold
  rename_i hR tkR tr1 tr2 tr3 hIR FR NR hup
  refine iter_range (n := 8) (J7 w (price ns.sum) PL q nP t aE aP (L + 1 + 1 + 1 + 1 + 1, o5) (L + 1 + 1 + 1 + 1, o4) (L + 1 + 1 + 1, o3) (L + 1 + 1, o2) (L + 1, o1))
    rfl FR NR hIR (by decide) (by rfl) rfl rfl ⟨hm1, hm2, rfl, rfl, oE0, [], oP0, [], [], rfl, hs1, hs2, EntTo.zero _ _ _, PairTo.zero, fun _ h => nomatch h⟩ ?_ ?_
  · clear FR NR hIR hup hs1 hs2
    rintro i u m₁ news₁ h₁ tk₁ own I hi ⟨e1, e2, e3, e4, oE, kvE, oP, kvP, rest, rfl, hEd, hPd, hEnt, hPair, hgt⟩ hoff hown ⟨oI, hin⟩ F₁ N₁
    rw [Int.zero_add] at F₁
    have F₂ : Fr h₀ L h₁ _ := frKnow (a := Str.ofString "entries") (frKnow (a := Str.ofString "pairs") (frKnow (a := Str.ofString "prices") F₁ e1) e4) e3
    have N₂ : News h₀ L h₁ ((aP, oP) :: (aE, oE) :: (PL, pricesObj (price ns.sum) q nP) :: (L + 1 + 1 + 1 + 1 + 1, o5) :: (L + 1 + 1 + 1 + 1, o4) :: (L + 1 + 1 + 1, o3) :: (L + 1 + 1, o2) :: (L + 1, o1) :: (own ++ rest)) := led_mid (xs := [(aP, oP), (aE, oE), (PL, pricesObj (price ns.sum) q nP), (L + 1 + 1 + 1 + 1 + 1, o5), (L + 1 + 1 + 1 + 1, o4), (L + 1 + 1 + 1, o3), (L + 1 + 1, o2), (L + 1, o1)]) N₁
    clear F₁ N₁
    obtain ⟨dv1, dv2, dv3⟩ := div4 i hi
    have hlP : h₁.IsList PL _ := ⟨_, (N₂ _ (.tail _ (.tail _ (.head _)))).1, rfl, _, rfl⟩
    have hpI : IntsAre [Value.int (price ns.sum 0) (q 0), .int (price ns.sum 1) (q 1), .int (price ns.sum 2) (q 2), .int (price ns.sum 3) (q 3), .int (price ns.sum 4) (q 4), .int (price ns.sum 5) (q 5), .int (price ns.sum 6) (q 6), .int (price ns.sum 7) (q 7)]
      [price ns.sum 0, price ns.sum 1, price ns.sum 2, price ns.sum 3, price ns.sum 4, price ns.sum 5, price ns.sum 6, price ns.sum 7] := .cons _ _ (.cons _ _ (.cons _ _ (.cons _ _ (.cons _ _ (.cons _ _ (.cons _ _ (.cons _ _ .nil)))))))
    have hpg : ([price ns.sum 0, price ns.sum 1, price ns.sum 2, price ns.sum 3, price ns.sum 4, price ns.sum 5, price ns.sum 6, price ns.sum 7] : List Int).getD ((i : Nat) : Int).toNat 0 = price ns.sum i := by
      have hi8 : i = 0 ∨ i = 1 ∨ i = 2 ∨ i = 3 ∨ i = 4 ∨ i = 5 ∨ i = 6 ∨ i = 7 := by omega
      rcases hi8 with rfl | rfl | rfl | rfl | rfl | rfl | rfl | rfl <;> rfl
    try dsimp only
    k_steps
    unfold Hold
    refine item_list_ints hlP hpI (by omega) (by show ((i : Nat) : Int) < ((8 : Nat) : Int); omega) (by omega) ?_
    intro tP
    rw [hpg]
    try dsimp only
    k_steps
    unfold Hold
    rename Fr h₀ L _ _ => F3
    rename News h₀ L _ _ => N3
    refine kdn_eval (knd := sk w) F3 N3 (Top.nolimit T) rfl rfl (List.cons_ne_nil _ _) (by decide) fun dD h4 oD F4 N4 l4 lo4 hd4 => ?_
    clear F3 N3 hlP
    try dsimp only
    k_steps
    unfold Hold
    refine kdn_made_str F4 N4 (.head fun p hp => Nat.ne_of_lt (l4 p hp)) hd4 rfl (by simp [strPairs]) ?_
    intro h6 oD2 F6 N6 hd6
    clear F4 N4
    try dsimp only
    k_steps
    unfold Hold
    rename_i R hRn F8 N8 lR tn kn
    rw [dv1, dv2, dv3] at N8
    obtain ⟨z1, z2, z3, z5, N8b⟩ : ∃ z1 z2 z3 z5, News h₀ L hRn ((R, tupObj #[.int (rb i) z1, .int (gb i) z2, .int (bb i) z3, .int (price ns.sum i) tP, .ref dD] z5) :: (dD, oD2) :: (aP, oP) :: (aE, oE) :: (PL, pricesObj (price ns.sum) q nP) :: (L + 1 + 1 + 1 + 1 + 1, o5) :: (L + 1 + 1 + 1 + 1, o4) :: (L + 1 + 1 + 1, o3) :: (L + 1 + 1, o2) :: (L + 1, o1) :: (own ++ rest)) := ⟨_, _, _, _, N8⟩
    clear N8
    have hOwnE : ∀ p ∈ own, p.1 ≠ aE := fun p hp => by rw [hown p hp]; exact (hoff (aE, oE) (.tail _ (.head _))).symm
    have hOwnP : ∀ p ∈ own, p.1 ≠ aP := fun p hp => by rw [hown p hp]; exact (hoff (aP, oP) (.head _)).symm
    have l4P : @LT.lt Nat _ aP dD := l4 (aP, oP) (.head _)
    have l4I : @LT.lt Nat _ I dD := l4 (I, oI) (.tail _ (.tail _ (.tail _ (.tail _ (.tail _ (.tail _ (.tail _ (.tail _ (List.mem_append_left _ hin)))))))))
    have lRd : @LT.lt Nat _ dD R := lR.1
    clear l4
    refine dset (knd := sk w) (rest := (R, tupObj #[.int (rb i) z1, .int (gb i) z2, .int (bb i) z3, .int (price ns.sum i) tP, .ref dD] z5) :: (dD, oD2) :: (aP, oP) :: (PL, pricesObj (price ns.sum) q nP) :: (L + 1 + 1 + 1 + 1 + 1, o5) :: (L + 1 + 1 + 1 + 1, o4) :: (L + 1 + 1 + 1, o3) :: (L + 1 + 1, o2) :: (L + 1, o1) :: (own ++ rest)) F8 N8b (.tail _ (.tail _ (.tail _ (.head _)))) hEd ?_ (strKind_is _ _ _ _) (by rw [sizeLine_eq]; have := hEnt.1; omega) ?_
    · intro p hp
      rcases List.mem_cons.mp hp with rfl | hp
      · exact ⟨.head _, by first | exact Nat.ne_of_gt lR.2.2.1 | k_ne⟩
      rcases List.mem_cons.mp hp with rfl | hp
      · exact ⟨.tail _ (.head _), by first | exact Nat.ne_of_gt (Nat.lt_trans l2.1 l4P) | k_ne⟩
      rcases List.mem_cons.mp hp with rfl | hp
      · exact ⟨.tail _ (.tail _ (.head _)), by first | exact Nat.ne_of_gt l2.1 | k_ne⟩
      refine ⟨.tail _ (.tail _ (.tail _ (.tail _ hp))), ?_⟩
      rcases List.mem_cons.mp hp with rfl | hp
      · first | exact Nat.ne_of_lt l1.1 | k_ne
      rcases List.mem_cons.mp hp with rfl | hp
      · first | exact Nat.ne_of_lt l1.2.1 | k_ne
      rcases List.mem_cons.mp hp with rfl | hp
      · first | exact Nat.ne_of_lt l1.2.2.1 | k_ne
      rcases List.mem_cons.mp hp with rfl | hp
      · first | exact Nat.ne_of_lt l1.2.2.2.1 | k_ne
      rcases List.mem_cons.mp hp with rfl | hp
      · first | exact Nat.ne_of_lt l1.2.2.2.2.1 | k_ne
      rcases List.mem_cons.mp hp with rfl | hp
      · first | exact Nat.ne_of_lt l1.2.2.2.2.2 | k_ne
      rcases List.mem_append.mp hp with hp | hp
      · exact hOwnE p hp
      · have h1 : @LT.lt Nat _ aP p.1 := hgt p hp
        first | exact Nat.ne_of_gt (Nat.lt_trans l2.1 h1) | k_ne
    intro h9 oE2 F9 N9 hE9
    clear F8 N8b
    try dsimp only
    k_steps
    unfold Hold
    refine For_turns F9 ?_ (by intro _; rfl) hE
    try dsimp only
    k_steps
    unfold Hold
    rename Fr h₀ L _ _ => FI
    rename News h₀ L _ _ => NI
    rename IsRange _ _ _ _ _ _ _ _ => hIR2
    refine iter_range (n := 8) (J7i w (price ns.sum) PL q nP t aE aP (L + 1 + 1 + 1 + 1 + 1, o5) (L + 1 + 1 + 1 + 1, o4) (L + 1 + 1 + 1, o3) (L + 1 + 1, o2) (L + 1, o1) i u oE2 ((R, tupObj #[.int (rb i) z1, .int (gb i) z2, .int (bb i) z3, .int (price ns.sum i) tP, .ref dD] z5) :: (dD, oD2) :: (own ++ rest)))
      rfl FI (news_sub NI (by
        intro p hp
        rcases List.mem_cons.mp hp with rfl | hp
        · exact .tail _ (.tail _ (.tail _ (.head _)))
        rcases List.mem_cons.mp hp with rfl | hp
        · exact .head _
        rcases List.mem_cons.mp hp with rfl | hp
        · exact .tail _ (.tail _ (.tail _ (.tail _ (.head _))))
        rcases List.mem_cons.mp hp with rfl | hp
        · exact .tail _ (.tail _ (.tail _ (.tail _ (.tail _ (.head _)))))
        rcases List.mem_cons.mp hp with rfl | hp
        · exact .tail _ (.tail _ (.tail _ (.tail _ (.tail _ (.tail _ (.head _))))))
        rcases List.mem_cons.mp hp with rfl | hp
        · exact .tail _ (.tail _ (.tail _ (.tail _ (.tail _ (.tail _ (.tail _ (.head _)))))))
        rcases List.mem_cons.mp hp with rfl | hp
        · exact .tail _ (.tail _ (.tail _ (.tail _ (.tail _ (.tail _ (.tail _ (.tail _ (.head _))))))))
        rcases List.mem_cons.mp hp with rfl | hp
        · exact .tail _ (.tail _ (.tail _ (.tail _ (.tail _ (.tail _ (.tail _ (.tail _ (.tail _ (.head _)))))))))
        rcases List.mem_cons.mp hp with rfl | hp
        · exact .tail _ (.head _)
        rcases List.mem_cons.mp hp with rfl | hp
        · exact .tail _ (.tail _ (.head _))
        · exact .tail _ (.tail _ (.tail _ (.tail _ (.tail _ (.tail _ (.tail _ (.tail _ (.tail _ (.tail _ hp))))))))))) hIR2 (by decide) (by rfl) rfl rfl ⟨rfl, e2, rfl, rfl, rfl, oP, kvP, rfl, hPd, hPair⟩ ?_ ?_
    · clear FI NI hIR2
      rintro j v m₂ news₂ h₂ tk₂ own2 I2 hj ⟨e1, e2, e3, e4, e5, oP, kvP, rfl, hPd, hPair⟩ hoff2 hown2 ⟨oI2, hin2⟩ F₂ N₂
      rw [Int.zero_add] at F₂
      have F₃ : Fr h₀ L h₂ _ := frKnow (a := Str.ofString "pairs") (frKnow (a := Str.ofString "x") F₂ e5) e4
      have N₃ : News h₀ L h₂ ((aP, oP) :: (aE, oE2) :: (PL, pricesObj (price ns.sum) q nP) :: (L + 1 + 1 + 1 + 1 + 1, o5) :: (L + 1 + 1 + 1 + 1, o4) :: (L + 1 + 1 + 1, o3) :: (L + 1 + 1, o2) :: (L + 1, o1) :: (own2 ++ ((R, tupObj #[.int (rb i) z1, .int (gb i) z2, .int (bb i) z3, .int (price ns.sum i) tP, .ref dD] z5) :: (dD, oD2) :: (own ++ rest)))) := led_mid (xs := [(aP, oP), (aE, oE2), (PL, pricesObj (price ns.sum) q nP), (L + 1 + 1 + 1 + 1 + 1, o5), (L + 1 + 1 + 1 + 1, o4), (L + 1 + 1 + 1, o3), (L + 1 + 1, o2), (L + 1, o1)]) N₂
      clear F₂ N₂
      obtain ⟨hb1, hb2⟩ := bits_nat i hi j hj
      obtain ⟨hb3, hb4⟩ := and_lt8 i hi j hj
      have hO2 : ∀ p ∈ own2, p.1 ≠ aP := fun p hp => by rw [hown2 p hp]; exact (hoff2 (aP, oP) (.head _)).symm
      by_cases hw : wrong i j
      · have hne : ¬ (((i &&& j : Nat) : Int) = ((i : Nat) : Int)) := fun q => hw (Int.ofNat.inj q)
        try dsimp only
        k_steps
        · unfold Hold
          refine dset (knd := sk w) (rest := (aE, oE2) :: (PL, pricesObj (price ns.sum) q nP) :: (L + 1 + 1 + 1 + 1 + 1, o5) :: (L + 1 + 1 + 1 + 1, o4) :: (L + 1 + 1 + 1, o3) :: (L + 1 + 1, o2) :: (L + 1, o1) :: (own2 ++ ((R, tupObj #[.int (rb i) z1, .int (gb i) z2, .int (bb i) z3, .int (price ns.sum i) tP, .ref dD] z5) :: (dD, oD2) :: (own ++ rest)))) F₃ N₃ (.head _) hPd ?_ (strKind_is _ _ _ _) (by rw [sizeLine_eq]; have := hPair.1; omega) ?_
          · intro p hp
            refine ⟨.tail _ hp, ?_⟩
            rcases List.mem_cons.mp hp with rfl | hp
            · first | exact Nat.ne_of_lt l2.1 | k_ne
            rcases List.mem_cons.mp hp with rfl | hp
            · first | exact Nat.ne_of_lt l2.2.1 | k_ne
            rcases List.mem_cons.mp hp with rfl | hp
            · first | exact Nat.ne_of_lt l2.2.2.1 | k_ne
            rcases List.mem_cons.mp hp with rfl | hp
            · first | exact Nat.ne_of_lt l2.2.2.2.1 | k_ne
            rcases List.mem_cons.mp hp with rfl | hp
            · first | exact Nat.ne_of_lt l2.2.2.2.2.1 | k_ne
            rcases List.mem_cons.mp hp with rfl | hp
            · first | exact Nat.ne_of_lt l2.2.2.2.2.2.1 | k_ne
            rcases List.mem_cons.mp hp with rfl | hp
            · first | exact Nat.ne_of_lt l2.2.2.2.2.2.2 | k_ne
            rcases List.mem_append.mp hp with hp | hp
            · exact hO2 p hp
            rcases List.mem_cons.mp hp with rfl | hp
            · first | exact Nat.ne_of_gt lR.2.1 | k_ne
            rcases List.mem_cons.mp hp with rfl | hp
            · first | exact Nat.ne_of_gt l4P | k_ne
            rcases List.mem_append.mp hp with hp | hp
            · exact hOwnP p hp
            · have h1 : @LT.lt Nat _ aP p.1 := hgt p hp
              first | exact Nat.ne_of_gt h1 | k_ne
          intro h10 oP2 F10 N10 hP10
          try dsimp only
          k_steps
          refine LoopStepU.intro F10 (led_mid' (xs := (aP, oP2) :: [(aE, oE2), (PL, pricesObj (price ns.sum) q nP), (L + 1 + 1 + 1 + 1 + 1, o5), (L + 1 + 1 + 1 + 1, o4), (L + 1 + 1 + 1, o3), (L + 1 + 1, o2), (L + 1, o1)]) N10) ?_ ⟨e1, e2, e3, rfl, rfl, oP2, _, rfl, hP10, hPair.yes hi hj hw _⟩
          intro p hp q
          rcases List.mem_cons.mp hp with rfl | hp
          · exact hoff2 (aP, oP) (.head _) (List.mem_singleton.mp q)
          · exact hoff2 p (.tail _ hp) (List.mem_singleton.mp q)
        · exact absurd (by assumption) hne
      · have heq : ((i &&& j : Nat) : Int) = ((i : Nat) : Int) := by
          have := Decidable.not_not.mp hw
          rw [this]
        try dsimp only
        k_steps
        · exact absurd heq (by assumption)
        · exact LoopStepU.intro F₃ (led_mid' (xs := [(aP, oP), (aE, oE2), (PL, pricesObj (price ns.sum) q nP), (L + 1 + 1 + 1 + 1 + 1, o5), (L + 1 + 1 + 1 + 1, o4), (L + 1 + 1 + 1, o3), (L + 1 + 1, o2), (L + 1, o1)]) N₃) (fun p hp q => hoff2 p hp (List.mem_singleton.mp q)) ⟨e1, e2, e3, rfl, rfl, oP, kvP, rfl, hPd, hPair.no hw⟩
    · clear FI NI hIR2
      rintro h₃ tk₃ m₃ news₃ ⟨e1, e2, e3, e4, e5, oP3, kvP3, rfl, hPd3, hPair3⟩ F₃ N₃
      try dsimp only
      k_steps
      refine LoopStepU.intro F₃ (led_mid' (xs := [(aP, oP3), (aE, oE2), (PL, pricesObj (price ns.sum) q nP), (L + 1 + 1 + 1 + 1 + 1, o5), (L + 1 + 1 + 1 + 1, o4), (L + 1 + 1 + 1, o3), (L + 1 + 1, o2), (L + 1, o1), (R, tupObj #[.int (rb i) z1, .int (gb i) z2, .int (bb i) z3, .int (price ns.sum i) tP, .ref dD] z5), (dD, oD2)]) N₃) ?_ ⟨e1, e2, e3, e4, oE2, _, oP3, kvP3, (R, tupObj #[.int (rb i) z1, .int (gb i) z2, .int (bb i) z3, .int (price ns.sum i) tP, .ref dD] z5) :: (dD, oD2) :: rest, rfl, hE9, hPd3, ?_, hPair3.next, ?_⟩
      · intro p hp q
        rw [List.mem_singleton] at q
        rcases List.mem_cons.mp hp with rfl | hp
        · exact hoff (aP, oP) (.head _) q
        rcases List.mem_cons.mp hp with rfl | hp
        · exact hoff (aE, oE) (.tail _ (.head _)) q
        rcases List.mem_cons.mp hp with rfl | hp
        · exact hoff _ (.tail _ (.tail _ (.head _))) q
        rcases List.mem_cons.mp hp with rfl | hp
        · exact hoff _ (.tail _ (.tail _ (.tail _ (.head _)))) q
        rcases List.mem_cons.mp hp with rfl | hp
        · exact hoff _ (.tail _ (.tail _ (.tail _ (.tail _ (.head _))))) q
        rcases List.mem_cons.mp hp with rfl | hp
        · exact hoff _ (.tail _ (.tail _ (.tail _ (.tail _ (.tail _ (.head _)))))) q
        rcases List.mem_cons.mp hp with rfl | hp
        · exact hoff _ (.tail _ (.tail _ (.tail _ (.tail _ (.tail _ (.tail _ (.head _))))))) q
        rcases List.mem_cons.mp hp with rfl | hp
        · exact hoff _ (.tail _ (.tail _ (.tail _ (.tail _ (.tail _ (.tail _ (.tail _ (.head _)))))))) q
        rcases List.mem_cons.mp hp with rfl | hp
        · first | exact absurd q (Nat.ne_of_gt (Nat.lt_trans l4I lRd)) | (revert q; k_ne)
        rcases List.mem_cons.mp hp with rfl | hp
        · first | exact absurd q (Nat.ne_of_gt l4I) | (revert q; k_ne)
        · exact hoff p (.tail _ (.tail _ (.tail _ (.tail _ (.tail _ (.tail _ (.tail _ (.tail _ hp)))))))) q
      · exact hEnt.step hi (fun p hp => .tail _ (.tail _ hp)) (.head _) (.tail _ (.head _)) hd6 lo4
      · intro p hp
        rcases List.mem_cons.mp hp with rfl | hp
        · exact Nat.lt_trans l4P lRd
        rcases List.mem_cons.mp hp with rfl | hp
        · exact l4P
        · exact hgt p hp
  · clear FR NR hIR hup
    rintro h₃ tk₃ m₃ news₃ ⟨e1, e2, e3, e4, oE, kvE, oP, kvP, rest, rfl, hEd, hPd, hEnt, hPair, hgt⟩ F₃ N₃
    try dsimp only
    k_steps
    unfold Hold
    exact next _ _ _ _ _ _ _ _ _ _ _ _ _ _ _ _ _ hcs' rfl B F₃ X (news_sub (news' := [(L + 1 + 1 + 1 + 1 + 1, o5), (L + 1 + 1 + 1 + 1, o4), (L + 1 + 1 + 1, o3), (L + 1 + 1, o2), (L + 1, o1)] ++ (PL, pricesObj (price ns.sum) q nP) :: (aE, oE) :: (aP, oP) :: rest) N₃ led_b) T hE hdp hun
      ⟨v4, v5, [(L + 1 + 1 + 1 + 1 + 1, o5), (L + 1 + 1 + 1 + 1, o4), (L + 1 + 1 + 1, o3), (L + 1 + 1, o2), (L + 1, o1)], PL, q, nP, t, aE, aP, (aE, oE) :: (aP, oP) :: rest, ⟨hns, _, _, _, _, _, _, _, _, rfl, ⟨aS, vsS, rfl, hL, hI⟩, d1, d2, d3, d4, d5⟩, rfl, (by
          intro p hp
          rcases List.mem_cons.mp hp with rfl | hp
          · exact l1.2.1
          rcases List.mem_cons.mp hp with rfl | hp
          · exact Nat.lt_trans l1.2.1 l2.1
          · exact Nat.lt_trans (Nat.lt_trans l1.2.1 l2.1) (hgt p hp)), e1, e2, e3, e4,
        ⟨oE, kvE, .head _, hEd, fun c hc => by
          obtain ⟨a', d', od', u1, u2, u3, u4, u5, n', k1, k2, k3, k4, k5⟩ := hEnt.2 c hc
          exact ⟨a', d', od', u1, u2, u3, u4, u5, n', k1, .tail _ (.tail _ k2), .tail _ (.tail _ k3), k4, k5⟩⟩,
        ⟨lo2, oP, kvP, .tail _ (.head _), hPd, fun x hx y hy => by
          have := hPair.2 x hx y hy
          simpa only [hx, true_or, true_and] using this⟩⟩ ret
end Mine
end

section
open PySem PySem.W PySem.Spec PySem.Calls PyProof.Rows
namespace Mine
theorem quiet_S10 : True := by w_top off; trivial
local macro_rules | `(tactic| walk_at $s:str) => if ["execs", "eval ListComp", "CompSrc", "call ref", "binaryOp Mod int int", "call builtin:str.join", "subscriptTail Name Name ref int"].contains s.getString then `(tactic| refine Hold.out ?_) else Lean.Macro.throwUnsupported
local macro_rules | `(tactic| walk_at "subscriptTail Name BinOp str int") => `(tactic| (refine item_nm (by assumption) ?_; intro _ _))
local macro_rules | `(tactic| walk_at "storeName") => `(tactic| refine hold_nm ["drawn"] (by decide) ?_)
theorem join_letters : ∀ ds : List Nat, Str.join (Str.ofString "") (ds.map fun c => txt [c]) = txt ds
  | [] => rfl
  | [a] => rfl
  | a :: b :: r => by
    have ih := join_letters (b :: r)
    show (txt [a] ++ Str.ofString "") ++ Str.join (Str.ofString "") (txt [b] :: r.map fun c => txt [c]) = _
    have ih : Str.join (Str.ofString "") (txt [b] :: r.map fun c => txt [c]) = txt (b :: r) := ih
    rw [ih]
    apply Str.ext'
    apply Array.toList_inj.mp
    have e : (Str.ofString "").cps.toList = [] := by decide +kernel
    simp [txt, Str.cps_append, e]
theorem joinok_letters {ds : List Nat} (h : ds.length = 7) : JoinOk (Str.ofString "") (ds.map fun c => txt [c]) = true := by
  refine joinOk_of ?_
  have h1 : ((ds.map fun c => txt [c]).map (·.length)).sum ≤ 7 := by
    obtain ⟨a, b, c, d, e, f, g, rfl⟩ := seven h
    exact Nat.le_refl 7
  have h2 : (Str.ofString "").length = 0 := by decide +kernel
  rw [h2]
  omega
theorem tail_10 : tailB 10 = stB 10 :: stB 11 :: tailB 12 := by with_unfolding_all rfl
set_option maxRecDepth 100000 in
set_option maxHeartbeats 4000000 in
theorem st10 (w : World) (s₀ : Shared) (mg mb : Str → Option Value) (ns : List Int) (next : LawFrom w s₀ mg mb 12 (Pre12 w ns)) : LawFrom w s₀ mg mb 10 (Pre10 w ns) := by
  intro dp un gd a ccd outer A₀ base h₀ L m news s Q E cs ss hcs hss B F X N T hE hdp hun hpre ret
  have hcs' := hcs
  revert X; k_fill; intro X
  rw [tail_10] at hss
  obtain ⟨s0, hs0⟩ : ∃ x, x = stB 10 := ⟨_, rfl⟩
  obtain ⟨s1, hs1⟩ : ∃ x, x = stB 11 := ⟨_, rfl⟩
  rw [← hs0, ← hs1] at hss
  conv at hcs => rhs; whnf
  conv at hs0 => rhs; whnf
  conv at hs1 => rhs; whnf
  subst hcs hss hs0 hs1
  obtain ⟨v4, v5, cells, PL, q, nP, t, aE, aP, rest, ⟨hns, o1, o2, o3, o4, o5, vs, t2, t3, rfl, ⟨aS, vsS, rfl, hL, hI⟩, d1, d2, d3, d4, d5⟩, rfl, hgt, hm1, hm2, hm3, hm4, hE4, hP4⟩ := hpre
  delta lawCl
  have N1 : News h₀ L s.heap ((L + 1 + 1 + 1 + 1 + 1, o5) :: (L + 1 + 1 + 1 + 1, o4) :: (L + 1 + 1 + 1, o3) :: (L + 1 + 1, o2) :: (L + 1, o1) :: (PL, pricesObj (price ns.sum) q nP) :: rest) := N
  clear N
  have hPL : PL ≠ L + 1 + 1 + 1 + 1 := by
    intro e
    have h1 := (N1 (PL, pricesObj (price ns.sum) q nP) (.tail _ (.tail _ (.tail _ (.tail _ (.tail _ (.head _))))))).1
    have h2 := (N1 (L + 1 + 1 + 1 + 1, o4) (.tail _ (.head _))).1
    dsimp only at h1 h2
    rw [e, h2] at h1
    rw [Option.some.inj h1] at d4
    cases d4
  try dsimp only
  k_steps
  unfold Hold
  rename_i D0 hD F2 N2' l2
  obtain ⟨vsD, nD, hvD, N2⟩ : ∃ vsD nD, IntsAre vsD [4, 3, 6, 1, 5, 4, 0] ∧ News h₀ L hD ((D0, W.listOf vsD.toArray nD) :: (L + 1 + 1 + 1 + 1 + 1, o5) :: (L + 1 + 1 + 1 + 1, o4) :: (L + 1 + 1 + 1, o3) :: (L + 1 + 1, o2) :: (L + 1, o1) :: (PL, pricesObj (price ns.sum) q nP) :: rest) := ⟨_, _, .cons _ _ (.cons _ _ (.cons _ _ (.cons _ _ (.cons _ _ (.cons _ _ (.cons _ _ .nil)))))), N2'⟩
  clear N2'
  refine store_cell (rest := (D0, W.listOf vsD.toArray nD) :: (L + 1 + 1 + 1 + 1 + 1, o5) :: (L + 1 + 1 + 1, o3) :: (L + 1 + 1, o2) :: (L + 1, o1) :: (PL, pricesObj (price ns.sum) q nP) :: rest) F2 N2 rfl (.tail _ (.tail _ (.head _))) d4 ?_ ?_
  · intro p hp
    rcases List.mem_cons.mp hp with rfl | hp
    · exact ⟨.head _, by k_ne⟩
    rcases List.mem_cons.mp hp with rfl | hp
    · exact ⟨.tail _ (.head _), by k_ne⟩
    rcases List.mem_cons.mp hp with rfl | hp
    · exact ⟨.tail _ (.tail _ (.tail _ (.head _))), by k_ne⟩
    rcases List.mem_cons.mp hp with rfl | hp
    · exact ⟨.tail _ (.tail _ (.tail _ (.tail _ (.head _)))), by k_ne⟩
    rcases List.mem_cons.mp hp with rfl | hp
    · exact ⟨.tail _ (.tail _ (.tail _ (.tail _ (.tail _ (.head _))))), by k_ne⟩
    rcases List.mem_cons.mp hp with rfl | hp
    · exact ⟨.tail _ (.tail _ (.tail _ (.tail _ (.tail _ (.tail _ (.head _)))))), hPL⟩
    · refine ⟨.tail _ (.tail _ (.tail _ (.tail _ (.tail _ (.tail _ (.tail _ hp)))))), ?_⟩
      have h1 : @LT.lt Nat _ (L + 1 + 1 + 1 + 1 + 1) p.1 := hgt p hp
      k_ne
  intro h3 o4b F3 N3 d4b
  clear F2 N2
  try dsimp only
  k_steps
  unfold Hold
  rename Fr h₀ L _ _ => F4
  rename News h₀ L _ _ => N4
  k_dflt (refine LCg.ListComp_U (F₀ := F4) (by with_unfolding_all rfl) (by decide) (by rfl) (by decide) (by rfl) ?_)
  try dsimp only
  k_steps
  unfold Hold
  rename_i hC tkC tc1 tc2 tc3 hIC FC NC hupC
  refine LCg.CompSrc.range (n := 7) rfl FC NC hIC (by decide) (by rfl) (by decide +kernel) fun g9 => ?_
  refine restU_inv (n := 7) (fun i ys => ∃ ds : List Nat, ds.length = i ∧ (∀ c ∈ ds, c < 8) ∧ StrsAre ys (ds.map fun c => txt [c])) trivial ?_ ?_ 7 0 [] rfl ⟨[], rfl, fun _ h => (nomatch h), .nil⟩
  · rintro j ys v I2 oI2 C2 oC2 D2 m₂ h2 tk2 E2 hj ⟨ds, hdl, hd8, hys⟩ ⟨tv, rfl⟩ hC2 hk2 F5 N5 off3 ne3
    clear FC NC hIC hupC
    rw [Int.zero_add] at hk2
    have hlD : h2.IsList D0 vsD.toArray := ⟨_, (N5 _ (.tail _ (.tail _ (.tail _ (.tail _ (.head _)))))).1, rfl, _, rfl⟩
    have hlS : h2.IsList aS vsS.toArray := by
      obtain ⟨o, ho, r⟩ := hL
      exact ⟨o, F5.keep _ _ ho, r⟩
    have hm8 : ∀ x : Int, ∃ n : Nat, n < 8 ∧ x.fmod 8 = (n : Int) := fun x => by
      have hf := fmod_in x (b := 8) (by decide)
      exact ⟨(x.fmod 8).toNat, by omega, (Int.toNat_of_nonneg hf.1).symm⟩
    try dsimp only
    k_steps
    unfold Hold
    refine item_list_ints hlD hvD (by omega) (by show ((j : Nat) : Int) < ((7 : Nat) : Int); omega) (by omega) ?_
    intro tD
    generalize ([4, 3, 6, 1, 5, 4, 0] : List Int).getD ((j : Nat) : Int).toNat 0 = dk
    try dsimp only
    k_steps
    · unfold Hold
      refine item_list_ints hlS hI (by omega) (by assumption) (by omega) ?_
      intro tS
      generalize ns.getD ((j : Nat) : Int).toNat 0 = sk
      try dsimp only
      k_steps
      unfold Hold
      refine mod_int' (by decide) ?_
      obtain ⟨n, hn8, hn⟩ := hm8 (dk + sk)
      rw [hn]
      try dsimp only
      k_steps
      refine CBack.intro F5 N5 ⟨ds ++ [n], by simp [hdl], ?_, ?_⟩
      · intro c hc
        rcases List.mem_append.mp hc with hc | hc
        · exact hd8 c hc
        · rw [List.mem_singleton.mp hc]; exact hn8
      · rw [List.map_append]; exact strsAre_snoc hys _ _
    · unfold Hold
      refine mod_int' (by decide) ?_
      obtain ⟨n, hn8, hn⟩ := hm8 (dk + 0)
      rw [hn]
      try dsimp only
      k_steps
      refine CBack.intro F5 N5 ⟨ds ++ [n], by simp [hdl], ?_, ?_⟩
      · intro c hc
        rcases List.mem_append.mp hc with hc | hc
        · exact hd8 c hc
        · rw [List.mem_singleton.mp hc]; exact hn8
      · rw [List.map_append]; exact strsAre_snoc hys _ _
  · intro ys ⟨ds, hdl, hd8, hys⟩ D9 h9 tk9 F9 N9 off9
    obtain ⟨l, hl1, hl2⟩ := strsAre_values hys
    try dsimp only
    k_steps
    unfold Hold
    have hl9 : h9.IsList D9 (strValues l).toArray := ⟨_, (N9 _ (.head _)).1, rfl, _, by rw [hl1]⟩
    refine SC.join hl9 hl2 (joinok_letters hdl) ?_
    intro t' k3
    have ej : Txt.join (Str.ofString "") (ds.map fun c => txt [c]) = txt ds := (PySem.StrLaws.glued_eq_join _ _).trans (join_letters ds)
    rw [ej]
    try dsimp only
    k_steps
    unfold Hold
    rename Fr h₀ L _ _ => F6
    rename News h₀ L _ _ => N6
    exact next _ _ _ _ _ _ _ _ _ _ _ _ _ _ _ _ _ hcs' rfl B F6 X (news_sub (news' := [(L + 1 + 1 + 1 + 1 + 1, o5), (L + 1 + 1 + 1 + 1, o4b), (L + 1 + 1 + 1, o3), (L + 1 + 1, o2), (L + 1, o1)] ++ (PL, pricesObj (price ns.sum) q nP) :: rest) N6 led_c) T hE hdp hun
      ⟨_, v5, ds, _, ⟨[(L + 1 + 1 + 1 + 1 + 1, o5), (L + 1 + 1 + 1 + 1, o4b), (L + 1 + 1 + 1, o3), (L + 1 + 1, o2), (L + 1, o1)], PL, q, nP, t, aE, aP, rest, ⟨hns, _, _, _, _, _, _, _, _, rfl, ⟨aS, vsS, rfl, hL, hI⟩, d1, d2, d3, d4b, d5⟩, rfl, hgt, hm1, hm2, hm3, hm4, hE4, hP4⟩, hdl, hd8, rfl⟩ ret
end Mine
end

section
open PySem PySem.W PySem.Spec PySem.Calls PyProof.Rows
namespace Mine
theorem quiet_S12 : True := by w_top off; trivial
local macro_rules | `(tactic| walk_at $s:str) => if ["execs", "call ref"].contains s.getString then `(tactic| refine Hold.out ?_) else Lean.Macro.throwUnsupported
theorem tail_12 : tailB 12 = stB 12 :: tailB 13 := by with_unfolding_all rfl
set_option maxRecDepth 100000 in
set_option maxHeartbeats 4000000 in
theorem st12 (w : World) (s₀ : Shared) (mg mb : Str → Option Value) (ns : List Int) (next : LawFrom w s₀ mg mb 13 (Pre13 w ns)) : LawFrom w s₀ mg mb 12 (Pre12 w ns) := by
  intro dp un gd a ccd outer A₀ base h₀ L m news s Q E cs ss hcs hss B F X N T hE hdp hun hpre ret
  have hcs' := hcs
  revert X; k_fill; intro X
  rw [tail_12] at hss
  obtain ⟨s0, hs0⟩ : ∃ x, x = stB 12 := ⟨_, rfl⟩
  rw [← hs0] at hss
  conv at hcs => rhs; whnf
  conv at hs0 => rhs; whnf
  subst hcs hss hs0
  obtain ⟨v4, v5, ds, t, ⟨cells, PL, q, nP, t0, aE, aP, rest, ⟨hns, o1, o2, o3, o4, o5, vs, t2, t3, rfl, ⟨aS, vsS, rfl, hL, hI⟩, d1, d2, d3, d4, d5⟩, rfl, hgt, hm1, hm2, hm3, hm4, hE4, hP4⟩, hdl, hd8, hrow⟩ := hpre
  delta lawCl
  have N1 : News h₀ L s.heap ((L + 1 + 1 + 1 + 1 + 1, o5) :: (L + 1 + 1 + 1 + 1, o4) :: (L + 1 + 1 + 1, o3) :: (L + 1 + 1, o2) :: (L + 1, o1) :: (PL, pricesObj (price ns.sum) q nP) :: rest) := N
  clear N
  have F1 := frKnow (a := Str.ofString "row") (frKnow (a := Str.ofString "entries") F hm3) hrow
  clear F
  k_steps
  unfold Hold
  rename Fr h₀ L _ _ => F2
  rename News h₀ L _ _ => N2
  refine added_c w s₀ mg mb ds _ aE (price ns.sum) _ hd8 (by omega) (hE4.mono (fun p hp => .tail _ (.tail _ (.tail _ (.tail _ (.tail _ (.tail _ hp))))))) _ _ _ _ _ _ _ _ _ _ _ _ _ _ _ _ _ B F2 X N2 T rfl (by omega) (by omega) ?_
  rintro v tl h4 tk4 ⟨R, D, o, kvs, w1, w2, w3, w4, nn, rfl, rfl, ho, hcn, hlo⟩ hl4 F3 N3
  k_steps
  unfold Hold
  rename Fr h₀ L _ _ => F5
  rename News h₀ L _ _ => N5
  refine next _ _ _ _ _ _ _ _ _ _ _ _ _ _ _ _ _ hcs' rfl B F5 X (news_sub (news' := [(L + 1 + 1 + 1 + 1 + 1, o5), (L + 1 + 1 + 1 + 1, o4), (L + 1 + 1 + 1, o3), (L + 1 + 1, o2), (L + 1, o1)] ++ (PL, pricesObj (price ns.sum) q nP) :: ((R, _) :: (D, o) :: rest)) N5 ?_) T hE hdp hun ⟨v4, v5, ds, _, R, _, ⟨_, PL, q, nP, t0, aE, aP, ⟨hns, _, _, _, _, _, _, _, _, rfl, ⟨aS, vsS, rfl, hL, hI⟩, d1, d2, d3, d4, d5⟩, rfl, ?_, hm1, hm2, rfl, hm4, hE4.mono (fun p hp => .tail _ (.tail _ hp)), hP4.mono (fun p hp => .tail _ (.tail _ hp))⟩, hdl, hd8, rfl, rfl, ⟨D, o, kvs, w1, w2, w3, w4, nn, .head _, .tail _ (.head _), ho, hcn, hlo⟩⟩ ret
  · exact led_a
  · intro p hp
    rcases List.mem_cons.mp hp with rfl | hp
    · exact hl4 _ (.head _) _ (.head _)
    rcases List.mem_cons.mp hp with rfl | hp
    · exact hl4 _ (.head _) _ (.tail _ (.head _))
    · exact hgt p hp
end Mine
end

section
open PySem PySem.W PySem.Spec PySem.Calls PyProof.Rows
namespace Mine
local macro_rules | `(tactic| walk_at "none such") => `(tactic| fail)
theorem quiet_S13 : True := by w_top off; trivial
local macro_rules | `(tactic| walk_at $s:str) => if ["execs", "call ref"].contains s.getString then `(tactic| refine Hold.out ?_) else Lean.Macro.throwUnsupported
theorem tail_13 : tailB 13 = stB 13 :: tailB 14 := by with_unfolding_all rfl
set_option maxRecDepth 100000 in
set_option maxHeartbeats 4000000 in
theorem st13 (w : World) (s₀ : Shared) (mg mb : Str → Option Value) (ns : List Int) (next : LawFrom w s₀ mg mb 14 (Pre13 w ns)) : LawFrom w s₀ mg mb 13 (Pre13 w ns) := by
  intro dp un gd a ccd outer A₀ base h₀ L m news s Q E cs ss hcs hss B F X N T hE hdp hun hpre ret
  have hcs' := hcs
  revert X; k_fill; intro X
  rw [tail_13] at hss
  obtain ⟨s0, hs0⟩ : ∃ x, x = stB 13 := ⟨_, rfl⟩
  rw [← hs0] at hss
  conv at hcs => rhs; whnf
  conv at hs0 => rhs; whnf
  subst hcs hss hs0
  obtain ⟨v4, v5, ds, t, R, rest, ⟨cells, PL, q, nP, t0, aE, aP, ⟨hns, o1, o2, o3, o4, o5, vs, t2, t3, rfl, ⟨aS, vsS, rfl, hL, hI⟩, d1, d2, d3, d4, d5⟩, rfl, hgt, hm1, hm2, hm3, hm4, hE4, hP4⟩, hdl, hd8, hrow, hbef, ⟨D, o, kvs, w1, w2, w3, w4, nn, hR, hD, ho, hcn, hlo⟩⟩ := hpre
  delta lawCl
  have N1 : News h₀ L s.heap ((R, tupObj #[.int (sumBy rb ds) w1, .int (sumBy gb ds) w2, .int (sumBy bb ds) w3, .int (sumBy (price ns.sum) ds) w4, .ref D] nn) :: (D, o) :: (L + 1 + 1 + 1 + 1 + 1, o5) :: (L + 1 + 1 + 1 + 1, o4) :: (L + 1 + 1 + 1, o3) :: (L + 1 + 1, o2) :: (L + 1, o1) :: (PL, pricesObj (price ns.sum) q nP) :: rest) := news_sub N (by
    intro p hp
    rcases List.mem_cons.mp hp with rfl | hp
    · exact .tail _ (.tail _ (.tail _ (.tail _ (.tail _ (.tail _ hR)))))
    rcases List.mem_cons.mp hp with rfl | hp
    · exact .tail _ (.tail _ (.tail _ (.tail _ (.tail _ (.tail _ hD)))))
    · exact hp)
  clear N
  have F1 := frKnow (a := Str.ofString "before") F hbef
  clear F
  k_steps
  unfold Hold
  rename Fr h₀ L _ _ => F2
  rename News h₀ L _ _ => N2
  refine count_c w s₀ mg mb D o kvs (cnts ds) _ (.tail _ (.head _)) ho hcn hlo _ _ _ _ _ _ _ _ _ _ _ _ _ _ _ _ _ B F2 X N2 T rfl (by omega) (by omega) ?_
  rintro v tl h4 tk4 ⟨tv, rfl, rfl⟩ hl4 F3 N3
  rw [cnts_sum, hdl]
  k_steps
  unfold Hold
  rename Fr h₀ L _ _ => F5
  rename News h₀ L _ _ => N5
  exact next _ _ _ _ _ _ _ _ _ _ _ _ _ _ _ _ _ hcs' rfl B F5 X (news_sub (news' := [(L + 1 + 1 + 1 + 1 + 1, o5), (L + 1 + 1 + 1 + 1, o4), (L + 1 + 1 + 1, o3), (L + 1 + 1, o2), (L + 1, o1)] ++ (PL, pricesObj (price ns.sum) q nP) :: rest) N5 (fun p hp => .tail _ (.tail _ hp))) T hE hdp hun ⟨v4, v5, ds, _, R, rest, ⟨_, PL, q, nP, t0, aE, aP, ⟨hns, _, _, _, _, _, _, _, _, rfl, ⟨aS, vsS, rfl, hL, hI⟩, d1, d2, d3, d4, d5⟩, rfl, hgt, hm1, hm2, hm3, hm4, hE4, hP4⟩, hdl, hd8, hrow, rfl, ⟨D, o, kvs, w1, w2, w3, w4, nn, hR, hD, ho, hcn, hlo⟩⟩ ret
end Mine
end

section
open PySem PySem.W PySem.Spec PySem.Calls PyProof.Rows
namespace Mine
local macro_rules | `(tactic| walk_at "none such") => `(tactic| fail)
theorem quiet_S14 : True := by w_top off; trivial
local macro_rules | `(tactic| walk_at $s:str) => if ["execs", "call ref"].contains s.getString then `(tactic| refine Hold.out ?_) else Lean.Macro.throwUnsupported
local macro_rules | `(tactic| walk_at "storeName") => `(tactic| refine hold_nm ["due"] (by decide) ?_)
theorem tail_14 : tailB 14 = stB 14 :: tailB 15 := by with_unfolding_all rfl
set_option maxRecDepth 100000 in
set_option maxHeartbeats 4000000 in
theorem st14 (w : World) (s₀ : Shared) (mg mb : Str → Option Value) (ns : List Int) (next : LawFrom w s₀ mg mb 15 (Pre15 w ns)) : LawFrom w s₀ mg mb 14 (Pre13 w ns) := by
  intro dp un gd a ccd outer A₀ base h₀ L m news s Q E cs ss hcs hss B F X N T hE hdp hun hpre ret
  have hcs' := hcs
  revert X; k_fill; intro X
  rw [tail_14] at hss
  obtain ⟨s0, hs0⟩ : ∃ x, x = stB 14 := ⟨_, rfl⟩
  rw [← hs0] at hss
  conv at hcs => rhs; whnf
  conv at hs0 => rhs; whnf
  subst hcs hss hs0
  obtain ⟨v4, v5, ds, t, R, rest, ⟨cells, PL, q, nP, t0, aE, aP, ⟨hns, o1, o2, o3, o4, o5, vs, t2, t3, rfl, ⟨aS, vsS, rfl, hL, hI⟩, d1, d2, d3, d4, d5⟩, rfl, hgt, hm1, hm2, hm3, hm4, hE4, hP4⟩, hdl, hd8, hrow, hbef, ⟨D, o, kvs, w1, w2, w3, w4, nn, hR, hD, ho, hcn, hlo⟩⟩ := hpre
  delta lawCl
  obtain ⟨r, hr7, hr⟩ := bits_le hdl (fun c hc => (bit01 c (hd8 c hc)).1)
  obtain ⟨g, hg7, hg⟩ := bits_le hdl (fun c hc => (bit01 c (hd8 c hc)).2.1)
  obtain ⟨b, hb7, hb⟩ := bits_le hdl (fun c hc => (bit01 c (hd8 c hc)).2.2)
  have hR' := hR
  rw [hr, hg, hb] at hR'
  have N1 : News h₀ L s.heap ((L + 1 + 1 + 1 + 1 + 1, o5) :: (L + 1 + 1 + 1 + 1, o4) :: (L + 1 + 1 + 1, o3) :: (L + 1 + 1, o2) :: (L + 1, o1) :: (PL, pricesObj (price ns.sum) q nP) :: rest) := N
  clear N
  have F1 := frKnow (a := Str.ofString "before") (frKnow (a := Str.ofString "ring") F hm2) hbef
  clear F
  have hPL : PL ≠ L + 1 + 1 + 1 + 1 + 1 := by
    intro e
    have h1 := (N1 (PL, pricesObj (price ns.sum) q nP) (.tail _ (.tail _ (.tail _ (.tail _ (.tail _ (.head _))))))).1
    have h2 := (N1 (L + 1 + 1 + 1 + 1 + 1, o5) (.head _)).1
    dsimp only at h1 h2
    rw [e, h2] at h1
    rw [Option.some.inj h1] at d5
    cases d5
  k_steps
  unfold Hold
  rename Fr h₀ L _ _ => F2
  rename News h₀ L _ _ => N2
  refine foretold_c w s₀ mg mb r g b _ _ _ _ _ _ _ R _ _ hr7 hg7 hb7 (.tail _ (.tail _ (.tail _ (.tail _ (.tail _ (.tail _ hR')))))) _ _ _ _ _ _ _ _ _ _ _ _ _ _ _ _ _ B F2 X N2 T rfl (by omega) (by omega) ?_
  rintro v tl h4 tk4 ⟨tv, rfl, rfl⟩ hl4 F3 N3
  have N4 : News h₀ L h4 ((L + 1 + 1 + 1 + 1 + 1, o5) :: (L + 1 + 1 + 1 + 1, o4) :: (L + 1 + 1 + 1, o3) :: (L + 1 + 1, o2) :: (L + 1, o1) :: (PL, pricesObj (price ns.sum) q nP) :: rest) := N3
  clear N3 F2 N2
  k_steps
  unfold Hold
  refine store_cell (rest := (L + 1 + 1 + 1 + 1, o4) :: (L + 1 + 1 + 1, o3) :: (L + 1 + 1, o2) :: (L + 1, o1) :: (PL, pricesObj (price ns.sum) q nP) :: rest) F3 N4 rfl (.head _) d5 ?_ ?_
  · intro p hp
    refine ⟨.tail _ hp, ?_⟩
    rcases List.mem_cons.mp hp with rfl | hp
    · k_ne
    rcases List.mem_cons.mp hp with rfl | hp
    · k_ne
    rcases List.mem_cons.mp hp with rfl | hp
    · k_ne
    rcases List.mem_cons.mp hp with rfl | hp
    · k_ne
    rcases List.mem_cons.mp hp with rfl | hp
    · exact hPL
    · have h1 : @LT.lt Nat _ (L + 1 + 1 + 1 + 1 + 1) p.1 := hgt p hp
      k_ne
  intro h6 o5b F5 N5 d5b
  k_steps
  unfold Hold
  exact next _ _ _ _ _ _ _ _ _ _ _ _ _ _ _ _ _ hcs' rfl B F5 X N5 T hE hdp hun ⟨v4, ds, _, _, R, rest, r, g, b, ⟨_, PL, q, nP, t0, aE, aP, ⟨hns, _, _, _, _, _, _, _, _, rfl, ⟨aS, vsS, rfl, hL, hI⟩, d1, d2, d3, d4, d5b⟩, rfl, hgt, hm1, rfl, hm3, hm4, hE4, hP4⟩, hdl, hd8, hrow, rfl, ⟨D, o, kvs, w1, w2, w3, w4, nn, hR, hD, ho, hcn, hlo⟩, hr7, hg7, hb7, hr, hg, hb⟩ ret
end Mine
end

section
open PySem PySem.W PySem.Spec PySem.Calls PyProof.Rows
namespace Mine
theorem quiet_S15 : True := by w_top off; trivial
local macro_rules | `(tactic| walk_at $s:str) => if ["execs", "call ref"].contains s.getString then `(tactic| refine Hold.out ?_) else Lean.Macro.throwUnsupported
theorem tail_15 : tailB 15 = stB 15 :: tailB 16 := by with_unfolding_all rfl
set_option maxRecDepth 100000 in
set_option maxHeartbeats 4000000 in
theorem st15 (w : World) (s₀ : Shared) (mg mb : Str → Option Value) (ns : List Int) (next : LawFrom w s₀ mg mb 16 (Pre16 w ns)) : LawFrom w s₀ mg mb 15 (Pre15 w ns) := by
  intro dp un gd a ccd outer A₀ base h₀ L m news s Q E cs ss hcs hss B F X N T hE hdp hun hpre ret
  have hcs' := hcs
  revert X; k_fill; intro X
  rw [tail_15] at hss
  obtain ⟨s0, hs0⟩ : ∃ x, x = stB 15 := ⟨_, rfl⟩
  rw [← hs0] at hss
  conv at hcs => rhs; whnf
  conv at hs0 => rhs; whnf
  subst hcs hss hs0
  obtain ⟨v4, ds, t, t', R, rest, r, g, b, ⟨cells, PL, q, nP, t0, aE, aP, ⟨hns, o1, o2, o3, o4, o5, vs, t2, t3, rfl, ⟨aS, vsS, rfl, hL, hI⟩, d1, d2, d3, d4, d5⟩, rfl, hgt, hm1, hm2, hm3, hm4, hE4, hP4⟩, hdl, hd8, hrow, hbef, hsum, ⟨hr7, hg7, hb7, hr, hg, hb⟩⟩ := hpre
  delta lawCl
  have N1 : News h₀ L s.heap ((L + 1 + 1 + 1 + 1 + 1, o5) :: (L + 1 + 1 + 1 + 1, o4) :: (L + 1 + 1 + 1, o3) :: (L + 1 + 1, o2) :: (L + 1, o1) :: (PL, pricesObj (price ns.sum) q nP) :: rest) := N
  clear N
  have F1 := frKnow (a := Str.ofString "row") (frKnow (a := Str.ofString "pairs") F hm4) hrow
  clear F
  k_steps
  unfold Hold
  rename Fr h₀ L _ _ => F2
  rename News h₀ L _ _ => N2
  rename IntsAre _ (ns ++ [1]) => hI2
  refine straight_c w s₀ mg mb ds _ aP _ _ _ (ns ++ [1]) _ hd8 hdl (hP4.mono (fun p hp => .tail _ (.tail _ (.tail _ (.tail _ (.tail _ (.tail _ (.tail _ (.tail _ hp))))))))) (.head _) hI2 (by simp) (by simp; omega) _ _ _ _ _ _ _ _ _ _ _ _ _ _ _ _ _ B F2 X N2 T rfl (by omega) (by omega) ?_
  rintro v tl h4 tk4 ⟨es, n, tv, hst, hw, rfl, rfl⟩ hl4 F3 N3
  obtain ⟨k1, k2⟩ := hst.keeps hd8
  obtain ⟨c1, c2, c3⟩ := hst.bits hd8
  have c4 := hst.price hd8 (price ns.sum) (price_sub ns.sum)
  rw [hr] at c1
  rw [hg] at c2
  rw [hb] at c3
  obtain rfl := straight_is (k1.trans hdl) k2 hw c1 c2 c3
  k_steps
  unfold Hold
  rename Fr h₀ L _ _ => F5
  rename News h₀ L _ _ => N5
  exact next _ _ _ _ _ _ _ _ _ _ _ _ _ _ _ _ _ hcs' rfl B F5 X (news_sub (news' := [(L + 1 + 1 + 1 + 1 + 1, o5), (L + 1 + 1 + 1 + 1, o4), (L + 1 + 1 + 1, o3), (L + 1 + 1, o2), (L + 1, o1)] ++ (PL, pricesObj (price ns.sum) q nP) :: rest) N5 (fun p hp => .tail _ (.tail _ hp))) T hE hdp hun ⟨v4, ds, _, t', R, rest, r, g, b, ⟨_, PL, q, nP, t0, aE, aP, ⟨hns, _, _, _, _, _, _, _, _, rfl, ⟨aS, vsS, rfl, hL, hI⟩, d1, d2, d3, d4, d5⟩, rfl, hgt, hm1, hm2, hm3, rfl, hE4, hP4⟩, hdl, hd8, rfl, hbef, hsum, ⟨hr7, hg7, hb7, hr, hg, hb⟩, k1.trans hdl, k2, ⟨hr7, hg7, hb7, c1, c2, c3⟩, c4⟩ ret
end Mine
end

section
open PySem PySem.W PySem.Spec PySem.Calls PyProof.Rows
namespace Mine
local macro_rules | `(tactic| walk_at "none such") => `(tactic| fail)
theorem quiet_S16 : True := by w_top off; trivial
local macro_rules | `(tactic| walk_at $s:str) => if ["execs", "call ref"].contains s.getString then `(tactic| refine Hold.out ?_) else Lean.Macro.throwUnsupported
theorem tail_16 : tailB 16 = stB 16 :: tailB 17 := by with_unfolding_all rfl
set_option maxRecDepth 100000 in
set_option maxHeartbeats 4000000 in
theorem st16 (w : World) (s₀ : Shared) (mg mb : Str → Option Value) (ns : List Int) (next : LawFrom w s₀ mg mb 17 (Pre16 w ns)) : LawFrom w s₀ mg mb 16 (Pre16 w ns) := by
  intro dp un gd a ccd outer A₀ base h₀ L m news s Q E cs ss hcs hss B F X N T hE hdp hun hpre ret
  have hcs' := hcs
  revert X; k_fill; intro X
  rw [tail_16] at hss
  obtain ⟨s0, hs0⟩ : ∃ x, x = stB 16 := ⟨_, rfl⟩
  rw [← hs0] at hss
  conv at hcs => rhs; whnf
  conv at hs0 => rhs; whnf
  subst hcs hss hs0
  obtain ⟨v4, ds, t, t', R, rest, r, g, b, ⟨cells, PL, q, nP, t0, aE, aP, ⟨hns, o1, o2, o3, o4, o5, vs, t2, t3, rfl, ⟨aS, vsS, rfl, hL, hI⟩, d1, d2, d3, d4, d5⟩, rfl, hgt, hm1, hm2, hm3, hm4, hE4, hP4⟩, hdl, hd8, hlast, hx1, hx2, hx3, hx4, hx5, hx6, hx7⟩ := hpre
  delta lawCl
  have N1 : News h₀ L s.heap ((L + 1 + 1 + 1 + 1 + 1, o5) :: (L + 1 + 1 + 1 + 1, o4) :: (L + 1 + 1 + 1, o3) :: (L + 1 + 1, o2) :: (L + 1, o1) :: (PL, pricesObj (price ns.sum) q nP) :: rest) := N
  clear N
  have F1 := frKnow (a := Str.ofString "last") F hlast
  clear F
  k_steps
  · rename_i hne
    exact absurd hne (by simp)
  · unfold Hold
    exact next _ _ _ _ _ _ _ _ _ _ _ _ _ _ _ _ _ hcs' rfl B F1 X N1 T hE hdp hun ⟨v4, ds, t, t', R, rest, r, g, b, ⟨_, PL, q, nP, t0, aE, aP, ⟨hns, _, _, _, _, _, _, _, _, rfl, ⟨aS, vsS, rfl, hL, hI⟩, d1, d2, d3, d4, d5⟩, rfl, hgt, hm1, hm2, hm3, hm4, hE4, hP4⟩, hdl, hd8, rfl, hx1, hx2, hx3, hx4, hx5, hx6, hx7⟩ ret
end Mine
end

section
open PySem PySem.W PySem.Spec PySem.Calls PyProof.Rows
namespace Mine
theorem quiet_S17 : True := by w_top off; trivial
local macro_rules | `(tactic| walk_at $s:str) => if ["execs", "call ref"].contains s.getString then `(tactic| refine Hold.out ?_) else Lean.Macro.throwUnsupported
theorem tail_17 : tailB 17 = stB 17 :: tailB 18 := by with_unfolding_all rfl
set_option maxRecDepth 100000 in
set_option maxHeartbeats 4000000 in
theorem st17 (w : World) (s₀ : Shared) (mg mb : Str → Option Value) (ns : List Int) (next : LawFrom w s₀ mg mb 18 (Pre18 w ns)) : LawFrom w s₀ mg mb 17 (Pre16 w ns) := by
  intro dp un gd a ccd outer A₀ base h₀ L m news s Q E cs ss hcs hss B F X N T hE hdp hun hpre ret
  have hcs' := hcs
  revert X; k_fill; intro X
  rw [tail_17] at hss
  obtain ⟨s0, hs0⟩ : ∃ x, x = stB 17 := ⟨_, rfl⟩
  rw [← hs0] at hss
  conv at hcs => rhs; whnf
  conv at hs0 => rhs; whnf
  subst hcs hss hs0
  obtain ⟨v4, ds, t, t', R, rest, r, g, b, ⟨cells, PL, q, nP, t0, aE, aP, ⟨hns, o1, o2, o3, o4, o5, vs, t2, t3, rfl, ⟨aS, vsS, rfl, hL, hI⟩, d1, d2, d3, d4, d5⟩, rfl, hgt, hm1, hm2, hm3, hm4, hE4, hP4⟩, hdl, hd8, hlast, hbef, hsum, hli, hel, he8, hle, hpr⟩ := hpre
  delta lawCl
  have N1 : News h₀ L s.heap ((L + 1 + 1 + 1 + 1 + 1, o5) :: (L + 1 + 1 + 1 + 1, o4) :: (L + 1 + 1 + 1, o3) :: (L + 1 + 1, o2) :: (L + 1, o1) :: (PL, pricesObj (price ns.sum) q nP) :: rest) := N
  clear N
  have F1 := frKnow (a := Str.ofString "last") (frKnow (a := Str.ofString "entries") F hm3) hlast
  clear F
  k_steps
  unfold Hold
  rename Fr h₀ L _ _ => F2
  rename News h₀ L _ _ => N2
  refine added_c w s₀ mg mb (srt r g b) _ aE (price ns.sum) _ he8 (by omega) (hE4.mono (fun p hp => .tail _ (.tail _ (.tail _ (.tail _ (.tail _ (.tail _ hp))))))) _ _ _ _ _ _ _ _ _ _ _ _ _ _ _ _ _ B F2 X N2 T rfl (by omega) (by omega) ?_
  rintro v tl h4 tk4 ⟨R2, D, o, kvs, w1, w2, w3, w4, nn, rfl, rfl, ho, hcn, hlo⟩ hl4 F3 N3
  k_steps
  unfold Hold
  rename Fr h₀ L _ _ => F5
  rename News h₀ L _ _ => N5
  refine next _ _ _ _ _ _ _ _ _ _ _ _ _ _ _ _ _ hcs' rfl B F5 X (news_sub (news' := [(L + 1 + 1 + 1 + 1 + 1, o5), (L + 1 + 1 + 1 + 1, o4), (L + 1 + 1 + 1, o3), (L + 1 + 1, o2), (L + 1, o1)] ++ (PL, pricesObj (price ns.sum) q nP) :: ((R2, _) :: (D, o) :: rest)) N5 ?_) T hE hdp hun ⟨v4, ds, t', R, R2, _, r, g, b, ⟨_, PL, q, nP, t0, aE, aP, ⟨hns, _, _, _, _, _, _, _, _, rfl, ⟨aS, vsS, rfl, hL, hI⟩, d1, d2, d3, d4, d5⟩, rfl, ?_, hm1, hm2, rfl, hm4, hE4.mono (fun p hp => .tail _ (.tail _ hp)), hP4.mono (fun p hp => .tail _ (.tail _ hp))⟩, hbef, hsum.mono (fun p hp => .tail _ (.tail _ hp)), hli, hle, hpr, rfl, ⟨D, o, kvs, w1, w2, w3, w4, nn, .head _, .tail _ (.head _), ho, hcn, hlo⟩⟩ ret
  · exact led_a
  · intro p hp
    rcases List.mem_cons.mp hp with rfl | hp
    · exact hl4 _ (.head _) _ (.head _)
    rcases List.mem_cons.mp hp with rfl | hp
    · exact hl4 _ (.head _) _ (.tail _ (.head _))
    · exact hgt p hp
end Mine
end

section
open PySem PySem.W PySem.Spec PySem.Calls PyProof.Rows
namespace Mine
local macro_rules | `(tactic| walk_at "none such") => `(tactic| fail)
theorem quiet_S18 : True := by w_top off; trivial
local macro_rules | `(tactic| walk_at $s:str) => if ["execs", "call ref", "subscriptTail Name Slice ref ref", "compareOp NotEq ref ref"].contains s.getString then `(tactic| refine Hold.out ?_) else Lean.Macro.throwUnsupported
theorem tail_18 : tailB 18 = stB 18 :: tailB 19 := by with_unfolding_all rfl
set_option maxRecDepth 100000 in
set_option maxHeartbeats 4000000 in
theorem st18 (w : World) (s₀ : Shared) (mg mb : Str → Option Value) (ns : List Int) (next : LawFrom w s₀ mg mb 19 (Pre18 w ns)) : LawFrom w s₀ mg mb 18 (Pre18 w ns) := by
  intro dp un gd a ccd outer A₀ base h₀ L m news s Q E cs ss hcs hss B F X N T hE hdp hun hpre ret
  have hcs' := hcs
  revert X; k_fill; intro X
  rw [tail_18] at hss
  obtain ⟨s0, hs0⟩ : ∃ x, x = stB 18 := ⟨_, rfl⟩
  rw [← hs0] at hss
  conv at hcs => rhs; whnf
  conv at hs0 => rhs; whnf
  subst hcs hss hs0
  obtain ⟨v4, ds, t', R, R2, rest, r, g, b, ⟨cells, PL, q, nP, t0, aE, aP, ⟨hns, o1, o2, o3, o4, o5, vs, t2, t3, rfl, ⟨aS, vsS, rfl, hL, hI⟩, d1, d2, d3, d4, d5⟩, rfl, hgt, hm1, hm2, hm3, hm4, hE4, hP4⟩, hbef, ⟨D, o, kvs, w1, w2, w3, w4, nn, hR, hD, ho, hcn, hlo⟩, ⟨hr7, hg7, hb7, hr, hg, hb⟩, ⟨_, _, _, hr2, hg2, hb2⟩, hpr, hbeh, ⟨D2, oB, kvs2, z1, z2, z3, z4, nn2, hR2, hD2, ho2, hcn2, hlo2⟩⟩ := hpre
  delta lawCl
  have hR' := hR
  have hR2' := hR2
  rw [hr, hg, hb] at hR'
  rw [hr2, hg2, hb2] at hR2'
  have N1 : News h₀ L s.heap ((R, tupObj #[.int (r : Int) w1, .int (g : Int) w2, .int (b : Int) w3, .int (sumBy (price ns.sum) ds) w4, .ref D] nn) :: (D, o) :: (R2, tupObj #[.int (r : Int) z1, .int (g : Int) z2, .int (b : Int) z3, .int (sumBy (price ns.sum) (srt r g b)) z4, .ref D2] nn2) :: (D2, oB) :: (L + 1 + 1 + 1 + 1 + 1, o5) :: (L + 1 + 1 + 1 + 1, o4) :: (L + 1 + 1 + 1, o3) :: (L + 1 + 1, o2) :: (L + 1, o1) :: (PL, pricesObj (price ns.sum) q nP) :: rest) := news_sub N (by
    intro p hp
    rcases List.mem_cons.mp hp with rfl | hp
    · exact .tail _ (.tail _ (.tail _ (.tail _ (.tail _ (.tail _ hR')))))
    rcases List.mem_cons.mp hp with rfl | hp
    · exact .tail _ (.tail _ (.tail _ (.tail _ (.tail _ (.tail _ hD)))))
    rcases List.mem_cons.mp hp with rfl | hp
    · exact .tail _ (.tail _ (.tail _ (.tail _ (.tail _ (.tail _ hR2')))))
    rcases List.mem_cons.mp hp with rfl | hp
    · exact .tail _ (.tail _ (.tail _ (.tail _ (.tail _ (.tail _ hD2)))))
    · exact hp)
  clear N
  have F1 := frKnow (a := Str.ofString "behind") (frKnow (a := Str.ofString "before") F hbef) hbeh
  clear F
  generalize hp1 : sumBy (price ns.sum) ds = pD at *
  generalize hp2 : sumBy (price ns.sum) (srt r g b) = pE at *
  have hT2 : IsTup s.heap R2 _ := ⟨_, (N1 _ (.tail _ (.tail _ (.head _)))).1, rfl, _, rfl⟩
  k_steps
  unfold Hold
  refine slice3 F1 N1 hT2 ?_
  intro T2 h2 F2 N2 lT2
  have hT1 : IsTup h2 R _ := ⟨_, (N2 _ (.tail _ (.head _))).1, rfl, _, rfl⟩
  k_steps
  unfold Hold
  refine slice3 (s := ⟨h2, _, _, _, _⟩) F2 N2 hT1 ?_
  intro T1 h3 F3 N3 lT1
  k_steps
  unfold Hold
  refine ne_same (d := .tuple [.int (r : Int), .int (g : Int), .int (b : Int)]) (.tuple (N3 _ (.tail _ (.head _))).1 rfl rfl (.cons (.int _ _) (.cons (.int _ _) (.cons (.int _ _) .nil)))) (.tuple (N3 _ (.head _)).1 rfl rfl (.cons (.int _ _) (.cons (.int _ _) (.cons (.int _ _) .nil)))) rfl (by show un + 64 < cLine; omega) ?_
  k_steps
  unfold Hold
  subst hp1 hp2
  exact next _ _ _ _ _ _ _ _ _ _ _ _ _ _ _ _ _ hcs' rfl B F3 X (news_sub (news' := [(L + 1 + 1 + 1 + 1 + 1, o5), (L + 1 + 1 + 1 + 1, o4), (L + 1 + 1 + 1, o3), (L + 1 + 1, o2), (L + 1, o1)] ++ (PL, pricesObj (price ns.sum) q nP) :: rest) N3 (fun p hp => .tail _ (.tail _ (.tail _ (.tail _ (.tail _ (.tail _ hp))))))) T hE hdp hun ⟨v4, ds, t', R, R2, rest, r, g, b, ⟨_, PL, q, nP, t0, aE, aP, ⟨hns, _, _, _, _, _, _, _, _, rfl, ⟨aS, vsS, rfl, hL, hI⟩, d1, d2, d3, d4, d5⟩, rfl, hgt, hm1, hm2, hm3, hm4, hE4, hP4⟩, rfl, ⟨D, o, kvs, w1, w2, w3, w4, nn, hR, hD, ho, hcn, hlo⟩, ⟨hr7, hg7, hb7, hr, hg, hb⟩, ⟨hr7, hg7, hb7, hr2, hg2, hb2⟩, hpr, rfl, ⟨D2, oB, kvs2, z1, z2, z3, z4, nn2, hR2, hD2, ho2, hcn2, hlo2⟩⟩ ret
end Mine
end

section
open PySem PySem.W PySem.Spec PySem.Calls PyProof.Rows
namespace Mine
local macro_rules | `(tactic| walk_at "none such") => `(tactic| fail)
theorem quiet_S19 : True := by w_top off; trivial
local macro_rules | `(tactic| walk_at $s:str) => if ["execs", "call ref", "call type:list", "eval ListComp", "CompSrcT", "compareOp NotIn str str", "compareOp NotEq ref ref"].contains s.getString then `(tactic| refine Hold.out ?_) else Lean.Macro.throwUnsupported
local macro_rules | `(tactic| walk_at "subscriptTail Name Name str int") => `(tactic| (refine item_tx (by assumption) (by assumption) ?_; intro _ _))
theorem tail_19 : tailB 19 = stB 19 :: tailB 20 := by with_unfolding_all rfl
set_option maxRecDepth 100000 in
set_option maxHeartbeats 4000000 in
theorem st19 (w : World) (s₀ : Shared) (mg mb : Str → Option Value) (ns : List Int) (next : LawFrom w s₀ mg mb 20 (Pre18 w ns)) : LawFrom w s₀ mg mb 19 (Pre18 w ns) := by
  intro dp un gd a ccd outer A₀ base h₀ L m news s Q E cs ss hcs hss B F X N T hE hdp hun hpre ret
  have hcs' := hcs
  revert X; k_fill; intro X
  rw [tail_19] at hss
  obtain ⟨s0, hs0⟩ : ∃ x, x = stB 19 := ⟨_, rfl⟩
  rw [← hs0] at hss
  conv at hcs => rhs; whnf
  conv at hs0 => rhs; whnf
  subst hcs hss hs0
  obtain ⟨v4, ds, t', R, R2, rest, r, g, b, ⟨cells, PL, q, nP, t0, aE, aP, ⟨hns, o1, o2, o3, o4, o5, vs, t2, t3, rfl, ⟨aS, vsS, rfl, hL, hI⟩, d1, d2, d3, d4, d5⟩, rfl, hgt, hm1, hm2, hm3, hm4, hE4, hP4⟩, hbef, ⟨D, o, kvs, w1, w2, w3, w4, nn, hR, hD, ho, hcn, hlo⟩, ⟨hr7, hg7, hb7, hr, hg, hb⟩, ⟨_, _, _, hr2, hg2, hb2⟩, hpr, hbeh, ⟨D2, oB, kvs2, z1, z2, z3, z4, nn2, hR2, hD2, ho2, hcn2, hlo2⟩⟩ := hpre
  delta lawCl
  have hR' := hR
  have hR2' := hR2
  rw [hr, hg, hb] at hR'
  rw [hr2, hg2, hb2] at hR2'
  have N1 : News h₀ L s.heap ((R, tupObj #[.int (r : Int) w1, .int (g : Int) w2, .int (b : Int) w3, .int (sumBy (price ns.sum) ds) w4, .ref D] nn) :: (D, o) :: (R2, tupObj #[.int (r : Int) z1, .int (g : Int) z2, .int (b : Int) z3, .int (sumBy (price ns.sum) (srt r g b)) z4, .ref D2] nn2) :: (D2, oB) :: (L + 1 + 1 + 1 + 1 + 1, o5) :: (L + 1 + 1 + 1 + 1, o4) :: (L + 1 + 1 + 1, o3) :: (L + 1 + 1, o2) :: (L + 1, o1) :: (PL, pricesObj (price ns.sum) q nP) :: rest) := news_sub N (by
    intro p hp
    rcases List.mem_cons.mp hp with rfl | hp
    · exact .tail _ (.tail _ (.tail _ (.tail _ (.tail _ (.tail _ hR')))))
    rcases List.mem_cons.mp hp with rfl | hp
    · exact .tail _ (.tail _ (.tail _ (.tail _ (.tail _ (.tail _ hD)))))
    rcases List.mem_cons.mp hp with rfl | hp
    · exact .tail _ (.tail _ (.tail _ (.tail _ (.tail _ (.tail _ hR2')))))
    rcases List.mem_cons.mp hp with rfl | hp
    · exact .tail _ (.tail _ (.tail _ (.tail _ (.tail _ (.tail _ hD2)))))
    · exact hp)
  clear N
  have F1 := frKnow (a := Str.ofString "behind") (frKnow (a := Str.ofString "before") F hbef) hbeh
  clear F
  have hitems := items_srt r (by omega) g (by omega) b (by omega)
  have hel : (srt r g b).length = 7 := by simp [srt]
  have he8 : ∀ c ∈ srt r g b, c < 8 := by
    intro c hc
    obtain ⟨i, _, rfl⟩ := List.mem_map.mp hc
    split <;> split <;> split <;> omega
  have hcl : (cnts (srt r g b)).length ≤ 1000 := by have := cnts_length (srt r g b); omega
  generalize hes : srt r g b = es at *
  try dsimp only
  k_steps
  unfold Hold
  rename Fr h₀ L _ _ => F2
  rename News h₀ L _ _ => N2
  refine items_list rfl F2 N2 (.head _) (.tail _ (.tail _ (.tail _ (.tail _ (.head _))))) ho2 hcn2 hcl ?_
  intro B3 h3 tk3 c3 as3 tups F3 N3 hT3 hB3 hBt
  have N4 : News h₀ L h3 ((L + 1 + 1 + 1 + 1 + 1, o5) :: (L + 1 + 1 + 1 + 1, o4) :: (L + 1 + 1 + 1, o3) :: (L + 1 + 1, o2) :: (L + 1, o1) :: (PL, pricesObj (price ns.sum) q nP) :: ((B3, W.listOf (as3.map Value.ref).toArray c3) :: (tups ++ rest))) := news_sub N3 led_ins
  clear N3 N2 F2
  try dsimp only
  k_steps
  unfold Hold
  k_dflt (refine LCt.ListComp_T (F₀ := F3) (by with_unfolding_all rfl) (by decide) (by rfl) (by decide) (by rfl) ?_)
  try dsimp only
  k_steps
  unfold Hold
  rename_i hC tkC tc1 tc2 tc3 hIC FC NC hupC
  refine LCt.CompSrcT.range (n := 7) rfl FC NC hIC (by decide) (by rfl) (by decide +kernel) fun g9 => ?_
  refine restT_grow (n := 7) (fun i ys nw => ∃ as tups2, ys = as.map Value.ref ∧ nw = (L + 1 + 1 + 1 + 1 + 1, o5) :: (L + 1 + 1 + 1 + 1, o4) :: (L + 1 + 1 + 1, o3) :: (L + 1 + 1, o2) :: (L + 1, o1) :: (PL, pricesObj (price ns.sum) q nP) :: (tups2 ++ ((B3, W.listOf (as3.map Value.ref).toArray c3) :: (tups ++ rest))) ∧ TupsAt tups2 as (itemsTo es i)) (fun _ => trivial) ?_ ?_ 7 0 [] _ rfl ⟨[], [], rfl, rfl, .nil⟩
  · rintro j ys nw v I2 oI2 C2 oC2 D3 m₂ h2 tk2 E2 hj ⟨as2, tups2, rfl, rfl, hT2⟩ ⟨tv, rfl⟩ hC2 hk2 F5 N5 off3 ne3
    clear FC NC hIC hupC
    rw [Int.zero_add] at hk2
    obtain ⟨c, hc⟩ : ∃ c, es[j]? = some c := ⟨es[j], by simp [List.getElem?_eq_getElem (show j < es.length by omega)]⟩
    have hc8 := he8 c (List.mem_of_getElem? hc)
    have hel2 : (txt es).length ≤ 1048576 := by rw [txt_length]; omega
    have ht8 : ∀ d ∈ es.take j, d < 8 := fun d hd => he8 d (List.mem_of_mem_take hd)
    try dsimp only
    k_steps
    unfold Hold
    rename Fr h₀ L _ _ => F6
    rename News h₀ L _ _ => N6
    refine SB.notContains ?_
    rw [slice_to_txt (by omega : j ≤ es.length), contains_txt hc8 ht8]
    by_cases hm : c ∈ es.take j
    · rw [decide_eq_true hm]
      try dsimp only
      k_steps
      exact CGrow.intro F6 N6 off3 ⟨as2, tups2, rfl, rfl, by rw [items_step_no hc hm]; exact hT2⟩
    · rw [decide_eq_false hm]
      try dsimp only
      k_steps
      rename_i TT hTT F7 N7 lT
      rw [count_txt hc8 he8] at N7
      obtain ⟨y1, y2, y3, N8⟩ : ∃ y1 y2 y3, News h₀ L hTT ((TT, tupObj #[.str (txt [c]) y1, .int (es.count c : Int) y2] y3) :: (I2, oI2) :: (C2, oC2) :: (D3, LCg.lst (as2.map Value.ref)) :: (L + 1 + 1 + 1 + 1 + 1, o5) :: (L + 1 + 1 + 1 + 1, o4) :: (L + 1 + 1 + 1, o3) :: (L + 1 + 1, o2) :: (L + 1, o1) :: (PL, pricesObj (price ns.sum) q nP) :: (tups2 ++ ((B3, W.listOf (as3.map Value.ref).toArray c3) :: (tups ++ rest)))) := ⟨_, _, _, N7⟩
      have off4 := off3.mem
      refine CGrow.intro (nw' := (L + 1 + 1 + 1 + 1 + 1, o5) :: (L + 1 + 1 + 1 + 1, o4) :: (L + 1 + 1 + 1, o3) :: (L + 1 + 1, o2) :: (L + 1, o1) :: (PL, pricesObj (price ns.sum) q nP) :: (((TT, tupObj #[.str (txt [c]) y1, .int (es.count c : Int) y2] y3) :: tups2) ++ ((B3, W.listOf (as3.map Value.ref).toArray c3) :: (tups ++ rest)))) F7 (news_sub N8 led_rot) (LCg.Off3.of fun p hp => ?_) ⟨as2 ++ [TT], (TT, _) :: tups2, by simp, rfl, ?_⟩
      · rcases led_put p hp with h3 | h3
        · rw [h3]
          exact ⟨Nat.ne_of_gt lT.1, Nat.ne_of_gt lT.2.1, Nat.ne_of_gt lT.2.2.1⟩
        · exact off4 p h3
      · rw [items_step_yes hc hm]
        exact (hT2.mono fun p hp => .tail _ hp).snoc (.head _)
  · rintro ys nw ⟨as2, tups2, rfl, rfl, hT2⟩ D9 h9 tk9 F9 N9 off9
    rw [hitems] at hT3
    try dsimp only
    k_steps
    unfold Hold
    refine ne_same (d := .list ((itemsTo es 7).map pd)) (.list (N9 _ (.tail _ (.tail _ (.tail _ (.tail _ (.tail _ (.tail _ (.tail _ (List.mem_append_right _ (.head _))))))))) ).1 rfl rfl ((hT3.mono (fun p hp => .tail _ (.tail _ (.tail _ (.tail _ (.tail _ (.tail _ (.tail _ (List.mem_append_right _ (.tail _ (List.mem_append_left _ hp)))))))))) ).reads N9))
      (.list (N9 _ (.head _)).1 rfl rfl ((hT2.mono (fun p hp => .tail _ (.tail _ (.tail _ (.tail _ (.tail _ (.tail _ (.tail _ (List.mem_append_left _ hp)))))))) ).reads N9)) (pds_shaped (items_ok he8 7)) (by show un + 64 < cLine; omega) ?_
    try dsimp only
    k_steps
    unfold Hold
    subst hes
    exact next _ _ _ _ _ _ _ _ _ _ _ _ _ _ _ _ _ hcs' rfl B F9 X (news_sub (news' := [(L + 1 + 1 + 1 + 1 + 1, o5), (L + 1 + 1 + 1 + 1, o4), (L + 1 + 1 + 1, o3), (L + 1 + 1, o2), (L + 1, o1)] ++ (PL, pricesObj (price ns.sum) q nP) :: rest) N9 (fun p hp => by
      rcases List.mem_cons.mp hp with rfl | hp
      · exact .tail _ (.head _)
      rcases List.mem_cons.mp hp with rfl | hp
      · exact .tail _ (.tail _ (.head _))
      rcases List.mem_cons.mp hp with rfl | hp
      · exact .tail _ (.tail _ (.tail _ (.head _)))
      rcases List.mem_cons.mp hp with rfl | hp
      · exact .tail _ (.tail _ (.tail _ (.tail _ (.head _))))
      rcases List.mem_cons.mp hp with rfl | hp
      · exact .tail _ (.tail _ (.tail _ (.tail _ (.tail _ (.head _)))))
      rcases List.mem_cons.mp hp with rfl | hp
      · exact .tail _ (.tail _ (.tail _ (.tail _ (.tail _ (.tail _ (.head _))))))
      · exact .tail _ (.tail _ (.tail _ (.tail _ (.tail _ (.tail _ (.tail _ (List.mem_append_right _ (.tail _ (List.mem_append_right _ hp))))))))))) T hE hdp hun ⟨v4, ds, t', R, R2, rest, r, g, b, ⟨_, PL, q, nP, t0, aE, aP, ⟨hns, _, _, _, _, _, _, _, _, rfl, ⟨aS, vsS, rfl, hL, hI⟩, d1, d2, d3, d4, d5⟩, rfl, hgt, hm1, hm2, hm3, hm4, hE4, hP4⟩, rfl, ⟨D, o, kvs, w1, w2, w3, w4, nn, hR, hD, ho, hcn, hlo⟩, ⟨hr7, hg7, hb7, hr, hg, hb⟩, ⟨hr7, hg7, hb7, hr2, hg2, hb2⟩, hpr, rfl, ⟨D2, oB, kvs2, z1, z2, z3, z4, nn2, hR2, hD2, ho2, hcn2, hlo2⟩⟩ ret
end Mine
end

section
open PySem PySem.W PySem.Spec PySem.Calls PyProof.Rows
namespace Mine
theorem quiet_S20 : True := by w_top off; trivial
local macro_rules | `(tactic| walk_at $s:str) => if ["execs", "call ref"].contains s.getString then `(tactic| refine Hold.out ?_) else Lean.Macro.throwUnsupported
theorem tail_20 : tailB 20 = stB 20 :: [] := by with_unfolding_all rfl
set_option maxRecDepth 100000 in
set_option maxHeartbeats 4000000 in
theorem st20 (w : World) (s₀ : Shared) (mg mb : Str → Option Value) (ns : List Int) : LawFrom w s₀ mg mb 20 (Pre18 w ns) := by
  intro dp un gd a ccd outer A₀ base h₀ L m news s Q E cs ss hcs hss B F X N T hE hdp hun hpre ret
  have hcs' := hcs
  revert X; k_fill; intro X
  rw [tail_20] at hss
  obtain ⟨s0, hs0⟩ : ∃ x, x = stB 20 := ⟨_, rfl⟩
  rw [← hs0] at hss
  conv at hcs => rhs; whnf
  conv at hs0 => rhs; whnf
  subst hcs hss hs0
  obtain ⟨v4, ds, t', R, R2, rest, r, g, b, ⟨cells, PL, q, nP, t0, aE, aP, ⟨hns, o1, o2, o3, o4, o5, vs, t2, t3, rfl, ⟨aS, vsS, rfl, hL, hI⟩, d1, d2, d3, d4, d5⟩, rfl, hgt, hm1, hm2, hm3, hm4, hE4, hP4⟩, hbef, ⟨D, o, kvs, w1, w2, w3, w4, nn, hR, hD, ho, hcn, hlo⟩, ⟨hr7, hg7, hb7, hr, hg, hb⟩, ⟨_, _, _, hr2, hg2, hb2⟩, hpr, hbeh, ⟨D2, oB, kvs2, z1, z2, z3, z4, nn2, hR2, hD2, ho2, hcn2, hlo2⟩⟩ := hpre
  delta lawCl
  have hR' := hR
  have hR2' := hR2
  rw [hr, hg, hb] at hR'
  rw [hr2, hg2, hb2] at hR2'
  have N1 : News h₀ L s.heap ((R, tupObj #[.int (r : Int) w1, .int (g : Int) w2, .int (b : Int) w3, .int (sumBy (price ns.sum) ds) w4, .ref D] nn) :: (D, o) :: (R2, tupObj #[.int (r : Int) z1, .int (g : Int) z2, .int (b : Int) z3, .int (sumBy (price ns.sum) (srt r g b)) z4, .ref D2] nn2) :: (D2, oB) :: (L + 1 + 1 + 1 + 1 + 1, o5) :: (L + 1 + 1 + 1 + 1, o4) :: (L + 1 + 1 + 1, o3) :: (L + 1 + 1, o2) :: (L + 1, o1) :: (PL, pricesObj (price ns.sum) q nP) :: rest) := news_sub N (by
    intro p hp
    rcases List.mem_cons.mp hp with rfl | hp
    · exact .tail _ (.tail _ (.tail _ (.tail _ (.tail _ (.tail _ hR')))))
    rcases List.mem_cons.mp hp with rfl | hp
    · exact .tail _ (.tail _ (.tail _ (.tail _ (.tail _ (.tail _ hD)))))
    rcases List.mem_cons.mp hp with rfl | hp
    · exact .tail _ (.tail _ (.tail _ (.tail _ (.tail _ (.tail _ hR2')))))
    rcases List.mem_cons.mp hp with rfl | hp
    · exact .tail _ (.tail _ (.tail _ (.tail _ (.tail _ (.tail _ hD2)))))
    · exact hp)
  clear N
  have F1 := frKnow (a := Str.ofString "behind") (frKnow (a := Str.ofString "before") F hbef) hbeh
  clear F
  have F2 := frKnow (a := Str.ofString "prices") F1 hm1
  clear F1
  k_steps
  unfold Hold
  rename Fr h₀ L _ _ => F2
  rename News h₀ L _ _ => N2
  refine dearest_c w s₀ mg mb (r : Int) (g : Int) (b : Int) _ _ _ _ _ D R PL _ _ (price ns.sum 0) (price ns.sum 1) (price ns.sum 2) (price ns.sum 3) (price ns.sum 4) (price ns.sum 5) (price ns.sum 6) (price ns.sum 7) _ _ _ _ _ _ _ _ _ (by omega) (by omega) (by omega) (by omega) (by omega) (by omega) (.head _) (.tail _ (.tail _ (.tail _ (.tail _ (.tail _ (.tail _ (.tail _ (.tail _ (.tail _ (.head _)))))))))) _ _ _ _ _ _ _ _ _ _ _ _ _ _ _ _ _ B F2 X N2 T rfl (by omega) (by omega) ?_
  rintro v tl h4 tk4 ⟨M, tv, rfl, hM, hall, rfl⟩ hl4 F3 N3
  have hp := dearest_is (price ns.sum) (price_sub ns.sum) hr7 hg7 hb7 hM hall
  rw [hp] at *
  k_steps
  rw [show (M == M) = true from beq_self_eq_true M]
  exact ret _ _ _ F3
end Mine
end

section
open PySem PySem.W PySem.Spec PySem.Calls PyProof.Rows
namespace Mine
theorem law_run (w : World) (s₀ : Shared) (mg mb : Str → Option Value) (ns : List Int) : LawFrom w s₀ mg mb 0 (Pre0 ns) :=
  st0 w s₀ mg mb ns (st2 w s₀ mg mb ns (st3 w s₀ mg mb ns (st4 w s₀ mg mb ns (st5 w s₀ mg mb ns (st6 w s₀ mg mb ns (st7 w s₀ mg mb ns (st10 w s₀ mg mb ns (st12 w s₀ mg mb ns (st13 w s₀ mg mb ns (st14 w s₀ mg mb ns (st15 w s₀ mg mb ns (st16 w s₀ mg mb ns (st17 w s₀ mg mb ns (st18 w s₀ mg mb ns (st19 w s₀ mg mb ns (st20 w s₀ mg mb ns))))))))))))))))
set_option maxRecDepth 100000 in
set_option maxHeartbeats 2000000 in
theorem law_holds : PySem.Challenge.rw_pw0006_01.Holds := hd (by
  k_go0; (all_goals try k_fold)
  rename_i w s₀ s₁ mg mb G Y fa o pm doc ho hg KX X V GL T B TE TW w14 w13 M w12 w11 hcd ns hs hlay0 hL1 hr hl2 w9 w8 aS vsS w5 hLS ra w1 r0 hI hr2 hlen htr K0 hD h₁ tk₁ F oA oB oC oD oE dA dB dC dD dE N0 X0
  have K1 : Below callerA s₁.heap [] s₁.heap := K0
  with_unfolding_all refine law_run w s₀ mg mb ns 302 7 (some []) fa (Value.ref w12) [] callerA s₁.heap s₁.heap s₁.heap.objs.size ?m ?n _ _ _ lawS (tailB 0) ?e1 ?e2 ?eK ?eF KX ?eN T ?eP ?_ ?_ ?_ ?_
  case eP => (show PassesOwn _ _ _ (fun e s' => _)); passes_own
  case eK => exact K1
  case eF => exact F
  case eN => exact N0
  case e1 => with_unfolding_all rfl
  case e2 => with_unfolding_all rfl
  · decide
  · decide
  · refine ⟨by omega, _, _, _, _, _, _, _, _, _, _, rfl, ⟨aS, vsS, rfl, hLS, hI⟩, dE, dD, dC, dB, dA⟩
  · intro h' tk' m' F'
    k_steps)
end Mine
end
theorem PySem.Challenge.cw_pw0006_01_holds : PySem.Challenge.rw_pw0006_01.Holds :=
  Mine.law_holds
