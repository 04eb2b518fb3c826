import PyProof.Rows.All
import Wide.All
import OpenK.AllK
import Wide.FinOn
import PySem.Challenge.RW_cy0003_03
open PySem PySem.W PyProof.Rows PySem.Calls
set_option Elab.async false
set_option maxRecDepth 100000
set_option maxHeartbeats 8000000
set_option linter.unusedVariables false
namespace Mine

/-- heap kept -/
abbrev Kept (h h' : Heap) : Prop := ∀ b o, h.get? b = some o → h'.get? b = some o

theorem frKept {h₀ h h' : Heap} {L : Addr} {m : Str → Option Value} (F : Fr h₀ L h m) (k : Kept h h') : Fr h₀ L h' m :=
  ⟨F.ns.keeps k, fun b o e => k b o (F.keep b o e), F.above⟩
theorem newsKept {h₀ h h' : Heap} {L : Addr} {news : List (Addr × Obj)} (N : News h₀ L h news) (k : Kept h h') : News h₀ L h' news :=
  fun p hp => ⟨k _ _ (N p hp).1, (N p hp).2⟩

section
variable {prog : Program} {w : World} {A : Around} {E : Value → Shared → Prop} {s : Shared} {K : Frag}

/-- a call of a def that stands at the top; the frame's base is the heap at the call -/
theorem enter0 {Q : Value → Shared → Prop} {name qual : Str} {params : Arguments} {body : List Stmt} {scope : Scope} {dV kV doc pm cdv ct oc : Value} {an od : Option Addr} {osl : Array (Option Value)} {f : Addr} {pos : List Value} {kw : List (Str × Value)} {binds : List (Str × Value)}
    (X : K.In s.heap) (hlim : s.heap.NoLimit) (hroom : A.depth < recursionLimit)
    (ho : K.lookup f = some ⟨oc, od, .func (fnOf name qual params body scope dV kV doc pm an cdv ct), osl⟩) (hcd : codeIn K cdv qual = true)
    (hbind : BindsTo s (fnOf name qual params body scope dV kV doc pm an cdv ct) ⟨pos, kw⟩ binds) (hloc : ∀ y ∈ binds, scope.names.lookup y.1 = some .local)
    (h : ∀ h₁ tk, Fr s.heap s.heap.objs.size h₁ (fun y => binds.reverse.lookup y) →
      wpAny (model prog w) (A.deeper (envOf qual scope s.heap.objs.size f cdv)) (execs body (envOf qual scope s.heap.objs.size f cdv))
        (fun fl s' => Q (match fl with | .ret v => v | _ => .none) s') (fun _ _ => False)
        { s with heap := h₁, toks := tk })
    (hco : scope.isCoroutine = false) (hgen : scope.isGenerator = false) (hk : scope.kind = .function)
    (hcell : ∀ x ∈ scope.names, x.2 ≠ .cell) :
    wpAny (model prog w) A (call (.ref f) pos kw) Q E s := by
  refine wpAny_call (codeAny_call_def (fd := fnOf name qual params body scope dV kV doc pm an cdv ct) (body := body) (binds := binds) hroom (X _ _ ho) rfl hlim (codeRec_of X hcd) rfl hbind hcell hloc (fun h₁ hns hk₁ => ?_) hco hgen hk)
  exact wpAny_mono (h h₁ _ ⟨hns, hk₁, Nat.le_refl _⟩) (fun _ _ x => x) (fun _ _ x => x.elim)
end

theorem binds_kw {s : Shared} {fd : FuncData} {args : Args} {binds : List (Str × Value)} {T D : Addr} {o oD : Obj} {items : Array Value} {n : Nat} {part : Option Value}
    {k : Option (Array Value) → Sem (List (Str × Value))} {k2 : Obj → Sem (List (Str × Value))}
    (ho : s.heap.get? T = some o) (hs' : o.data = .seq items n) (hD : s.heap.get? D = some oD)
    (h₁ : bindArgs fd args = seqItems? (.ref T) >>= k) (h₂ : k (some items) = loadPart D part >>= k2) (h₃ : k2 oD = pure binds) : BindsTo s fd args binds :=
  fun _ _ _ _ hq => by
    rw [h₁]
    refine wpAny_bind (wpAny_seqItems ho hs' ?_)
    rw [h₂]
    refine wpAny_bind (wpAny_loadPart hD ?_)
    rw [h₃]
    exact wpAny_pure hq

theorem fr_put {h₀ h : Heap} {L : Addr} {m : Str → Option Value} {v : Value} (n : Str) (F : Fr h₀ L h m) (e : m n = some v) : Fr h₀ L h (fun y => if y = n then some v else m y) := by
  have : (fun y => if y = n then some v else m y) = m := by
    funext y
    by_cases q : y = n
    · subst q; simp [e]
    · simp [q]
  rw [this]; exact F

/-- the binary search, as the code runs it: p says «go left» -/
def bs (p : Nat → Bool) (lo hi : Nat) : Nat :=
  if lo < hi then
    if p ((lo + hi) / 2) then bs p lo ((lo + hi) / 2) else bs p ((lo + hi) / 2 + 1) hi
  else lo
termination_by hi - lo
decreasing_by all_goals omega

theorem bs_done {p : Nat → Bool} {lo hi : Nat} (h : ¬ lo < hi) : bs p lo hi = lo := by rw [bs, if_neg h]
theorem bs_left {p : Nat → Bool} {lo hi : Nat} (h : lo < hi) (hp : p ((lo + hi) / 2) = true) : bs p lo hi = bs p lo ((lo + hi) / 2) := by rw [bs, if_pos h, if_pos hp]
theorem bs_right {p : Nat → Bool} {lo hi : Nat} (h : lo < hi) (hp : p ((lo + hi) / 2) = false) : bs p lo hi = bs p ((lo + hi) / 2 + 1) hi := by rw [bs, if_pos h, if_neg (by simp [hp])]
theorem fdiv2 (lo hi : Nat) : Int.fdiv ((lo : Int) + (hi : Int)) 2 = (((lo + hi) / 2 : Nat) : Int) := by
  rw [Int.fdiv_eq_ediv_of_nonneg _ (by omega)]; omega

section
variable {prog : Program} {w : World} {A : Around} {E : Value → Shared → Prop} {s : Shared} {env : Env} {h₀ : Heap} {x : Str} {body : List Stmt} {Q : Flow → Shared → Prop}

/-- what a turn must leave: I is the iterator, oI what it is -/
def Turn (h₀ : Heap) (L : Addr) (s : Shared) (I : Addr) (oI : Obj) (Jn : (Str → Option Value) → List (Addr × Obj) → Prop) (Q : Flow → Shared → Prop) (f : Flow) (s₂ : Shared) : Prop :=
  match f with
  | .ret v => Q (.ret v) s₂
  | .brk => Q .next s₂
  | _ => ∃ h' tk m' nx, s₂ = { s with heap := h', toks := tk } ∧ Fr h₀ L h' m' ∧ News h₀ L h' (nx ++ [(I, oI)]) ∧ (∀ p ∈ nx, p.1 ≠ I) ∧ Jn m' nx

theorem iter_led {l : Addr} {vs : List Value} {ol : Obj} {nn : Nat} {m₀ : Str → Option Value} {news : List (Addr × Obj)} (J : Nat → (Str → Option Value) → List (Addr × Obj) → Prop)
    (hh : A.handled = none) (hoc : ol.cls = .type "list") (hod : ol.data = .seq vs.toArray nn) (hl : s.heap.get? l = some ol) (hlL : l ≠ env.locals) (F : Fr h₀ env.locals s.heap m₀) (N : News h₀ env.locals s.heap news) (hj : J 0 m₀ news)
    (hlJ : ∀ i m nx, J i m nx → (l, ol) ∈ nx ∨ h₀.get? l = some ol)
    (turn : ∀ i v m₁ nx h tk I oI, vs[i]? = some v → J i m₁ nx → (∀ p ∈ nx, p.1 ≠ I) → I < h.objs.size → Fr h₀ env.locals h (fun y => if y = x then some v else m₁ y) → News h₀ env.locals h (nx ++ [(I, oI)]) →
      wpAny (model prog w) A (execs body env) (Turn h₀ env.locals s I oI (J (i + 1)) Q) E { s with heap := h, toks := tk })
    (done : ∀ m₁ nx h tk, J vs.length m₁ nx → Fr h₀ env.locals h m₁ → News h₀ env.locals h nx → Q .next { s with heap := h, toks := tk }) :
    wpAny (model prog w) A (pyIter (.ref l)) (fun it s₂ => LoopAtV prog w A h₀ env x body Q E it s₂) E s := by
  have hls : s.heap.IsList l vs.toArray := ⟨_, hl, hoc, nn, hod⟩
  have hne : l ≠ s.heap.objs.size := Nat.ne_of_lt (Heap.lt_size hl)
  refine wpAny_pyIter_list hls ?_
  have W := Walks.list (prog := prog) (w := w) hh s.heap.objs.size l hne vs.toArray
  rw [List.size_toArray] at W
  refine ⟨_, _, _, vs.length, _, _, m₀, news, J, rfl, W, ?_, ?_, ?_, ⟨⟨_, Heap.get?_push_size _ rfl, rfl, rfl⟩, hls.at fun o e => Heap.get?_push_of_some _ e⟩, F.push _, (fun p hp => ⟨Heap.get?_push_of_some _ (N p hp).1, (N p hp).2⟩), hj, ?_, ?_⟩
  · intro hm
    rcases List.mem_cons.mp hm with e | hm
    · exact absurd F.ns.lt (e ▸ Nat.lt_irrefl _)
    · exact hlL (List.mem_singleton.mp hm).symm
  · intro b hb
    rw [List.mem_singleton.mp hb]
    exact next_is_new F
  · intro p hp hI
    exact absurd (Heap.lt_size (N p hp).1) ((List.mem_singleton.mp hI) ▸ Nat.lt_irrefl _)
  · rintro i v m₁ nx s₁ own ⟨hh', tk', rfl⟩ hin hP hJ hoff hown hget hfp hst F₁ N₁
    have hv : vs[i]? = some v := by simpa using hP
    have hoffI : ∀ p ∈ nx, p.1 ≠ s.heap.objs.size := fun p hp e => hoff p hp (by rw [e]; exact List.mem_singleton.mpr rfl)
    obtain ⟨⟨oI, hoI, _⟩, _⟩ := hst
    have hI₀ : h₀.get? s.heap.objs.size = none := next_is_new F
    have hIown : (s.heap.objs.size, oI) ∈ own := hfp _ (.head _) hI₀ _ hoI
    have NI := N₁ _ (List.mem_append_left _ hIown)
    refine wpAny_mono (turn i v m₁ nx hh' tk' _ oI hv hJ hoffI (Heap.lt_size hoI) F₁ (fun p hp => ?_)) (fun f s₂ p => ?_) fun _ _ e => e
    · rcases List.mem_append.mp hp with hp | hp
      · exact N₁ p (List.mem_append_right _ hp)
      · rw [List.mem_singleton.mp hp]; exact NI
    · have fin : (∃ h' tk m' nx, s₂ = { s with heap := h', toks := tk } ∧ Fr h₀ env.locals h' m' ∧ News h₀ env.locals h' (nx ++ [(s.heap.objs.size, oI)]) ∧ (∀ p ∈ nx, p.1 ≠ s.heap.objs.size) ∧ J (i + 1) m' nx) →
          LoopStepU h₀ env.locals [s.heap.objs.size] own (J (i + 1)) { s with heap := hh', toks := tk' } .next s₂ := by
        rintro ⟨h', tk, m', nx', rfl, F', N', hne', hJ'⟩
        refine ⟨rfl, h', tk, m', nx', rfl, F', fun p hp => ?_, fun p hp e => hne' p hp (List.mem_singleton.mp e), hJ'⟩
        rcases List.mem_append.mp hp with hp | hp
        · have hpo := hown p hp
          have hpg := hget p hp
          rcases List.mem_cons.mp hpo with e | e
          · have : p = (s.heap.objs.size, oI) := Prod.ext e (by rw [e] at hpg; exact Option.some.inj (hpg.symm.trans hoI))
            rw [this]
            exact N' _ (List.mem_append_right _ (.head _))
          · have e := List.mem_singleton.mp e
            rcases hlJ _ _ _ hJ with q | q
            · have q1 := (N₁ _ (List.mem_append_right _ q)).1
              have : p = (l, ol) := Prod.ext e (by rw [e] at hpg; exact Option.some.inj (hpg.symm.trans q1))
              rcases hlJ _ _ _ hJ' with q' | q'
              · rw [this]; exact N' _ (List.mem_append_left _ q')
              · have := (N₁ _ (List.mem_append_right _ q)).2.2
                rw [q'] at this; cases this
            · have := (N₁ p (List.mem_append_left _ hp)).2.2
              rw [e, q] at this; cases this
        · exact N' _ (List.mem_append_left _ hp)
      cases f with
      | ret v => exact .ret p
      | brk => exact .brk p
      | next => exact .next (fin p)
      | cont => exact .cont (fin p)
  · rintro h' tk m' nx' F' N' _ hJ
    exact done m' nx' h' tk hJ F' N'
end

section
variable {prog : Program} {w : World} {A : Around} {E : Value → Shared → Prop} {s : Shared} {K : Frag}
/-- a call of a def that stands at the top and may change the objects at as -/
theorem enterH {Q : Value → Shared → Prop} {name qual : Str} {params : Arguments} {body : List Stmt} {scope : Scope} {dV kV doc pm cdv ct oc : Value} {an od : Option Addr} {osl : Array (Option Value)} {f : Addr} {pos : List Value} {kw : List (Str × Value)} {binds : List (Str × Value)} (as : List Addr)
    (X : K.In (hideAll s.heap as)) (hlim : (hideAll s.heap as).NoLimit) (hroom : A.depth < recursionLimit)
    (ho : K.lookup f = some ⟨oc, od, .func (fnOf name qual params body scope dV kV doc pm an cdv ct), osl⟩) (hcd : codeIn K cdv qual = true)
    (hbind : BindsTo s (fnOf name qual params body scope dV kV doc pm an cdv ct) ⟨pos, kw⟩ binds) (hloc : ∀ y ∈ binds, scope.names.lookup y.1 = some .local)
    (h : ∀ h₁ tk, Fr (hideAll s.heap as) s.heap.objs.size h₁ (fun y => binds.reverse.lookup y) → Kept s.heap h₁ →
      wpAny (model prog w) (A.deeper (envOf qual scope s.heap.objs.size f cdv)) (execs body (envOf qual scope s.heap.objs.size f cdv))
        (fun fl s' => Q (match fl with | .ret v => v | _ => .none) s') (fun _ _ => False)
        { s with heap := h₁, toks := tk })
    (hco : scope.isCoroutine = false) (hgen : scope.isGenerator = false) (hk : scope.kind = .function)
    (hcell : ∀ x ∈ scope.names, x.2 ≠ .cell) :
    wpAny (model prog w) A (call (.ref f) pos kw) Q E s := by
  have X' : K.In s.heap := X.keeps fun b o e => of_hideAll as e
  refine wpAny_call (codeAny_call_def (fd := fnOf name qual params body scope dV kV doc pm an cdv ct) (body := body) (binds := binds) hroom (X' _ _ ho) rfl (hlim.keeps fun b o e => of_hideAll as e) (codeRec_of X' hcd) rfl hbind hcell hloc (fun h₁ hns hk₁ => ?_) hco hgen hk)
  exact wpAny_mono (h h₁ _ ⟨hns, fun b o e => hk₁ b o (of_hideAll as e), Nat.le_of_eq (hideAll_size _ _)⟩ hk₁) (fun _ _ x => x) (fun _ _ x => x.elim)
end

theorem upd_mid {d : Addr} {o o' : Obj} {post : List (Addr × Obj)} : ∀ {pre : List (Addr × Obj)}, (∀ p ∈ pre, p.1 ≠ d) → (∀ p ∈ post, p.1 ≠ d) → Upd d o o' (pre ++ (d, o) :: post) (pre ++ (d, o') :: post)
  | [], _, h2 => .head h2
  | p :: _, h1, h2 => .tail (h1 p (.head _)) (upd_mid (fun q hq => h1 q (.tail _ hq)) h2)

/-- a row of a tableau, as it lies in the heap -/
structure RowD where
  a : Addr
  vs : List Value
  ns : List Int
  ep : Nat
def rowE (r : RowD) : Addr × Obj := (r.a, listOf r.vs.toArray r.ep)
def tabL (R : Addr) (ep : Nat) (rows : List RowD) : List (Addr × Obj) := (R, listOf ((rows.map (·.a)).map Value.ref).toArray ep) :: rows.map rowE
theorem tabL_mid (R : Addr) (ep : Nat) (pre : List RowD) (r : RowD) (post : List RowD) (more : List (Addr × Obj)) :
    tabL R ep (pre ++ r :: post) ++ more = ((R, listOf (((pre ++ r :: post).map (·.a)).map Value.ref).toArray ep) :: pre.map rowE) ++ (r.a, listOf r.vs.toArray r.ep) :: (post.map rowE ++ more) := by
  simp [tabL, rowE]
def bisR (r : List Int) (x : Int) : Nat := bs (fun i => decide (x < r.getD i 0)) 0 r.length
def insT : List (List Int) → Int → List (List Int)
  | [], x => [[x]]
  | r :: rs, x => if bisR r x = r.length then (r ++ [x]) :: rs else (r.set (bisR r x) x) :: insT rs (r.getD (bisR r x) 0)
theorem bs_le {p : Nat → Bool} {lo hi : Nat} (h : lo ≤ hi) : lo ≤ bs p lo hi ∧ bs p lo hi ≤ hi := by
  induction lo, hi using bs.induct p with
  | case1 lo hi h1 h2 ih => rw [bs_left h1 h2]; have := ih (by omega); omega
  | case2 lo hi h1 h2 ih => rw [bs_right h1 (by simpa using h2)]; have := ih (by omega); omega
  | case3 lo hi h1 => rw [bs_done h1]; omega
theorem bisR_le (r : List Int) (x : Int) : bisR r x ≤ r.length := (bs_le (Nat.zero_le _)).2

theorem insT_len : ∀ (T : List (List Int)) (x : Int), (insT T x).length ≤ T.length + 1
  | [], x => by simp [insT]
  | r :: T, x => by
    have ih := insT_len T (r.getD (bisR r x) 0)
    unfold insT
    split
    · simp
    · simp only [List.length_cons]; omega
theorem insT_lens {n : Nat} : ∀ (T : List (List Int)) (x : Int), (∀ r ∈ T, r.length ≤ n) → ∀ r ∈ insT T x, r.length ≤ n + 1
  | [], x, _ => by simp [insT]
  | r :: T, x, h => by
    have ih := insT_lens T (r.getD (bisR r x) 0) (fun q hq => h q (.tail _ hq))
    have hr := h r (.head _)
    unfold insT
    split
    · intro q hq
      rcases List.mem_cons.mp hq with rfl | hq
      · simp; omega
      · have := h q (.tail _ hq); omega
    · intro q hq
      rcases List.mem_cons.mp hq with rfl | hq
      · simp; omega
      · exact ih q hq

theorem fr_but {h₀ h h' : Heap} {L : Addr} {m : Str → Option Value} {as : List Addr} (F : Fr h₀ L h m) (k : ∀ b o, h.get? b = some o → b ∉ as → h'.get? b = some o) (hL : L ∉ as) (ha : ∀ a ∈ as, h₀.get? a = none) : Fr h₀ L h' m := by
  obtain ⟨⟨oL, es, epo, hg, r⟩, kp, ab⟩ := F
  refine ⟨⟨oL, es, epo, k _ _ hg hL, r⟩, fun b o e => k b o (kp b o e) fun q => ?_, ab⟩
  have := ha b q
  rw [e] at this; cases this

section
open PySem.Spec PyProof.V
def rowDat (r : List Int) : PyData := .list (r.map PyData.int)
theorem tab_canLay : ∀ T : List (List Int), PyData.canLayAll0 (T.map rowDat) = true
  | [] => rfl
  | r :: T => by simp [rowDat, PyData.canLayAll0, PyData.canLay0, ke_canLayAll0 r]; exact tab_canLay T
theorem tab_depth : ∀ T : List (List Int), PyData.depthAll (T.map rowDat) ≤ 1
  | [] => by simp [PyData.depthAll]
  | r :: T => by
    have := tab_depth T
    simp only [List.map_cons, PyData.depthAll]
    simp only [rowDat, PyData.depth, ke_depthAll] at *
    omega
theorem tab_shaped (T : List (List Int)) : SeqAt.shaped (.list (T.map rowDat)) = true := by
  have := tab_depth T
  simp [SeqAt.shaped, PyData.canLay0, PyData.depth, tab_canLay]
  omega
theorem tab_eqv : ∀ T S : List (List Int), PyData.eqvAll (T.map rowDat) (S.map rowDat) = decide (T = S)
  | [], [] => by simp [PyData.eqvAll]
  | [], _ :: _ => by simp [PyData.eqvAll]
  | _ :: _, [] => by simp [PyData.eqvAll]
  | a :: r, b :: t => by
    simp only [List.map_cons, PyData.eqvAll, tab_eqv r t]
    simp only [rowDat, PyData.eqv, ked_eqvAll]
    by_cases h : a = b <;> by_cases h' : r = t <;> simp [h, h']
theorem tab_readsAll {h : Heap} : ∀ {rows : List RowD}, (∀ r ∈ rows, h.get? r.a = some (listOf r.vs.toArray r.ep) ∧ IntsAre r.vs r.ns) → ∃ as, ReadsAll h ((rows.map (·.a)).map Value.ref) ((rows.map (·.ns)).map rowDat) as
  | [], _ => ⟨[], .nil⟩
  | r :: rows, hr => by
    obtain ⟨as, ih⟩ := tab_readsAll (rows := rows) fun q hq => hr q (.tail _ hq)
    have h1 := hr r (.head _)
    exact ⟨_, .cons (reads_of_ints ⟨_, h1.1, rfl, r.ep, rfl⟩ h1.2) ih⟩
theorem tab_reads {h : Heap} {R : Addr} {ep : Nat} {rows : List RowD} (hT : ∀ p ∈ tabL R ep rows, h.get? p.1 = some p.2) (hi : ∀ r ∈ rows, IntsAre r.vs r.ns) : ∃ as, Reads h (.ref R) (.list ((rows.map (·.ns)).map rowDat)) as := by
  obtain ⟨as, ih⟩ := tab_readsAll (h := h) (rows := rows) fun r hr => ⟨hT (rowE r) (.tail _ (List.mem_map_of_mem (f := rowE) hr)), hi r hr⟩
  exact ⟨_, Reads.list (hT _ (.head _)) rfl rfl (by simpa using ih)⟩
variable {prog : Program} {w : World} {A : Around} {E : Value → Shared → Prop} {s : Shared} {Q : Value → Shared → Prop}
theorem tab_ne {R R' : Addr} {ep ep' : Nat} {rows rows' : List RowD} (hT : ∀ p ∈ tabL R ep rows, s.heap.get? p.1 = some p.2) (hi : ∀ r ∈ rows, IntsAre r.vs r.ns) (hT' : ∀ p ∈ tabL R' ep' rows', s.heap.get? p.1 = some p.2) (hi' : ∀ r ∈ rows', IntsAre r.vs r.ns)
    (hu : A.units + 64 < cLine) (h : Q (.bool (!decide (rows.map (·.ns) = rows'.map (·.ns)))) s) : wpAny (model prog w) A (compareOp .NotEq (.ref R) (.ref R')) Q E s := by
  obtain ⟨as, h1⟩ := tab_reads hT hi
  obtain ⟨as', h2⟩ := tab_reads hT' hi'
  refine ne_dataH h1 h2 (tab_shaped _) (tab_shaped _) hu ?_
  simp only [PyData.eqv, tab_eqv]
  exact h
theorem tab_eq {R R' : Addr} {ep ep' : Nat} {rows rows' : List RowD} (hT : ∀ p ∈ tabL R ep rows, s.heap.get? p.1 = some p.2) (hi : ∀ r ∈ rows, IntsAre r.vs r.ns) (hT' : ∀ p ∈ tabL R' ep' rows', s.heap.get? p.1 = some p.2) (hi' : ∀ r ∈ rows', IntsAre r.vs r.ns)
    (hu : A.units + 64 < cLine) (h : Q (.bool (decide (rows.map (·.ns) = rows'.map (·.ns)))) s) : wpAny (model prog w) A (compareOp .Eq (.ref R) (.ref R')) Q E s := by
  obtain ⟨as, h1⟩ := tab_reads hT hi
  obtain ⟨as', h2⟩ := tab_reads hT' hi'
  refine eq_dataH h1 h2 (tab_shaped _) (tab_shaped _) hu ?_
  simp only [PyData.eqv, tab_eqv]
  exact h
end

section
variable {prog : Program} {w : World} {A : Around} {E : Value → Shared → Prop} {s : Shared} {env : Env} {h₀ : Heap} {x : Str} {body : List Stmt} {Q : Flow → Shared → Prop}
theorem iter_range_led {r : Addr} {a₀ b₀ : Int} {t₀ u₀ v₀ : Tok} {n : Nat} {m₀ : Str → Option Value} {news : List (Addr × Obj)} (J : Nat → (Str → Option Value) → List (Addr × Obj) → Prop)
    (hh : A.handled = none) (hr : IsRange s.heap r a₀ b₀ 1 t₀ u₀ v₀) (hsmall : Builtin.Range.small a₀ b₀ 1 = true) (hn : Builtin.Range.rangeSize a₀ b₀ 1 = (n : Int)) (F : Fr h₀ env.locals s.heap m₀) (N : News h₀ env.locals s.heap news) (hj : J 0 m₀ news)
    (turn : ∀ (i : Nat) t m₁ nx h tk I oI, i < n → J i m₁ nx → (∀ p ∈ nx, p.1 ≠ I) → I < h.objs.size → Fr h₀ env.locals h (fun y => if y = x then some (.int (a₀ + i) t) else m₁ y) → News h₀ env.locals h (nx ++ [(I, oI)]) →
      wpAny (model prog w) A (execs body env) (Turn h₀ env.locals s I oI (J (i + 1)) Q) E { s with heap := h, toks := tk })
    (done : ∀ m₁ nx h tk, J n m₁ nx → Fr h₀ env.locals h m₁ → News h₀ env.locals h nx → Q .next { s with heap := h, toks := tk }) :
    wpAny (model prog w) A (pyIter (.ref r)) (fun it s₂ => LoopAtV prog w A h₀ env x body Q E it s₂) E s := by
  refine wpAny_pyIter_range hr hsmall ?_
  have W : Walks prog w A s.heap.objs.size [s.heap.objs.size] [s.heap.objs.size] n (fun i v => i < n ∧ ∃ t, v = .int (a₀ + i * 1) t)
      (fun i h => IsRangeIter h s.heap.objs.size (a₀ + (i : Nat) * 1) ((n : Int) - (i : Nat)) 1) := (Walks.range hh _ a₀ 1 n).bound
  refine ⟨_, _, _, n, _, _, m₀, news, J, rfl, W, ?_, ?_, ?_, (by show IsRangeIter _ _ _ _ _; rw [hn]; simpa using Heap.get?_push_size _ rfl), F.push _, (fun p hp => ⟨Heap.get?_push_of_some _ (N p hp).1, (N p hp).2⟩), hj, ?_, ?_⟩
  · intro hm
    exact absurd F.ns.lt ((List.mem_singleton.mp hm) ▸ Nat.lt_irrefl _)
  · intro b hb
    rw [List.mem_singleton.mp hb]
    exact next_is_new F
  · intro p hp hI
    exact absurd (Heap.lt_size (N p hp).1) ((List.mem_singleton.mp hI) ▸ Nat.lt_irrefl _)
  · rintro i v m₁ nx s₁ own ⟨hh', tk', rfl⟩ hin ⟨_, t, rfl⟩ hJ hoff hown hget hfp hst F₁ N₁
    have hoffI : ∀ p ∈ nx, p.1 ≠ s.heap.objs.size := fun p hp e => hoff p hp (by rw [e]; exact List.mem_singleton.mpr rfl)
    obtain ⟨oI, hst'⟩ : ∃ oI, hh'.get? s.heap.objs.size = some oI := ⟨_, hst⟩
    have hI₀ : h₀.get? s.heap.objs.size = none := next_is_new F
    have hIown := hfp _ (.head _) hI₀ _ hst'
    have NI := N₁ _ (List.mem_append_left _ hIown)
    rw [Int.mul_one] at F₁
    refine wpAny_mono (turn i t m₁ nx hh' tk' _ oI hin hJ hoffI (Heap.lt_size hst') F₁ (fun p hp => ?_)) (fun f s₂ p => ?_) fun _ _ e => e
    · exact (List.mem_append.mp hp).elim (fun hp => N₁ p (List.mem_append_right _ hp)) fun hp => by rw [List.mem_singleton.mp hp]; exact NI
    · have fin : (∃ h' tk m' nx', s₂ = { s with heap := h', toks := tk } ∧ Fr h₀ env.locals h' m' ∧ News h₀ env.locals h' (nx' ++ [(s.heap.objs.size, oI)]) ∧ (∀ p ∈ nx', p.1 ≠ s.heap.objs.size) ∧ J (i + 1) m' nx') →
          LoopStepU h₀ env.locals [s.heap.objs.size] own (J (i + 1)) { s with heap := hh', toks := tk' } .next s₂ := by
        rintro ⟨h', tk, m', nx', rfl, F', N', hne', hJ'⟩
        refine ⟨rfl, h', tk, m', nx', rfl, F', fun p hp => ?_, fun p hp e => hne' p hp (List.mem_singleton.mp e), hJ'⟩
        rcases List.mem_append.mp hp with hp | hp
        · have e := List.mem_singleton.mp (hown p hp)
          have hpg := hget p hp
          rw [e] at hpg
          rw [show p = (s.heap.objs.size, p.2) from Prod.ext e rfl, Option.some.inj (hpg.symm.trans hst')]
          exact N' _ (List.mem_append_right _ (.head _))
        · exact N' _ (List.mem_append_left _ hp)
      cases f with
      | ret v => exact .ret p
      | brk => exact .brk p
      | next => exact .next (fin p)
      | cont => exact .cont (fin p)
  · rintro h' tk m' nx' F' N' _ hJ
    exact done m' nx' h' tk hJ F' N'
end

theorem three_of (ns : List Int) (i : Nat) (h : i + 2 < ns.length) :
    ∃ a b c, ns[i]? = some a ∧ ns[i + 1]? = some b ∧ ns[i + 2]? = some c ∧ List.take (min ((i : Int) + 3).toNat ns.length - (i : Int).toNat) (List.drop (i : Int).toNat ns) = [a, b, c] := by
  refine ⟨ns[i], ns[i + 1], ns[i + 2], by simp, by simp, by simp, ?_⟩
  rw [show (i : Int).toNat = i by omega, show ((i : Int) + 3).toNat = i + 3 by omega, show min (i + 3) ns.length - i = 3 by omega]
  rw [List.drop_eq_getElem_cons (by omega), List.drop_eq_getElem_cons (by omega), List.drop_eq_getElem_cons (by omega)]
  rfl
theorem ints3 {ws : List Value} {a b c : Int} (h : IntsAre ws [a, b, c]) : ∃ t1 t2 t3, ws = [.int a t1, .int b t2, .int c t3] := by
  cases h with
  | cons _ t1 h => cases h with
    | cons _ t2 h => cases h with
      | cons _ t3 h => cases h; exact ⟨t1, t2, t3, rfl⟩
end Mine
namespace Mine
section
variable {prog : Program} {w : World} {A : Around} {s : Shared} {env : Env} {h₀ : Heap} {L : Addr} {target : PySem.Expr} {body : List Stmt} {Q : Flow → Shared → Prop}

/-- a for over anything that is walked, with any target; the turn begins at the target's assignment -/
theorem loop_core {I : Addr} {fp : List Addr} {n : Nat} {P : Nat → Value → Prop} {St : Nat → Heap → Prop} {src : Addr → Option Obj} {m₀ : Str → Option Value} {news : List (Addr × Obj)} {E₁ : Value → Shared → Prop}
    (J : Nat → (Str → Option Value) → List (Addr × Obj) → Prop) (W : Walks prog w A I fp [I] n P St) (hlet : ∀ it v, letOwnedTupleGo target it v = pure ())
    (hIo : ∀ i h, St i h → ∃ o, h.get? I = some o) (hsrc : ∀ b ∈ fp, b ≠ I → ∃ o, src b = some o)
    (hkeep : ∀ i m nx h, J i m nx → Fr h₀ L h m → News h₀ L h nx → ∀ b ∈ fp, b ≠ I → h.get? b = src b)
    (hIL : I ≠ L) (hI₀ : h₀.get? I = none) (hst : St 0 s.heap) (F : Fr h₀ L s.heap m₀) (N : News h₀ L s.heap news) (hnI : ∀ p ∈ news, p.1 ≠ I) (hj : J 0 m₀ news)
    (turn : ∀ i v m₁ nx h tk oI, i < n → P i v → J i m₁ nx → (∀ p ∈ nx, p.1 ≠ I) → I < h.objs.size → Fr h₀ L h m₁ → News h₀ L h (nx ++ [(I, oI)]) →
      wpAny (model prog w) A (assign target env v) (fun _ s₂ => wpAny (model prog w) A (execs body env) (Turn h₀ L s I oI (J (i + 1)) Q) (fun _ _ => False) s₂) (fun _ _ => False) { s with heap := h, toks := tk })
    (done : ∀ m₁ nx h tk, J n m₁ nx → Fr h₀ L h m₁ → News h₀ L h nx → Q .next { s with heap := h, toks := tk }) :
    codeAny (model prog w) A (.forLoop target (.ref I) body [] env) (fun r s' => match r with | .ok f => Q f s' | .error e => E₁ e s') s := by
  have hLw : L ≠ I := Ne.symm hIL
  have old : ∀ b o, h₀.get? b = some o → b ≠ I := fun b o e q => by rw [q, hI₀] at e; cases e
  refine codeAny_forLoop
    (fun k s' => ∃ h' tk m' nx i, s' = { s with heap := h', toks := tk } ∧ St i h' ∧ Fr h₀ L h' m' ∧ News h₀ L h' nx ∧ (∀ p ∈ nx, p.1 ≠ I) ∧ J i m' nx ∧ i ≤ n ∧ k = n + 1 - i) ?_ (n + 1)
    ⟨s.heap, s.toks, m₀, news, 0, rfl, hst, F, N, hnI, hj, Nat.zero_le _, rfl⟩ (hlet _)
  rintro k s' ⟨h', tk, m', nx, i, rfl, hst', F', N', hnx, hJ, hi, rfl⟩
  have next : ∀ h₁ : Heap, (∀ b o, b ∉ [I] → h'.get? b = some o → h₁.get? b = some o) → Fr h₀ L h₁ m' ∧ News h₀ L h₁ nx := fun h₁ hk₁ =>
    ⟨⟨F'.ns.at' fun o e => hk₁ _ o (by simpa using hLw) e, fun b o e => hk₁ b o (by simpa using old b o e) (F'.keep b o e), F'.above⟩, fun p hp => ⟨hk₁ _ _ (by simpa using hnx p hp) (N' p hp).1, (N' p hp).2⟩⟩
  by_cases hlt : i < n
  · refine W.item i _ _ _ hlt hst' fun v h₁ tk₁ hP hst₁ hk₁ => ?_
    obtain ⟨F₁, N₁⟩ := next h₁ hk₁
    obtain ⟨oI, hoI⟩ := hIo _ _ hst₁
    have NI : News h₀ L h₁ (nx ++ [(I, oI)]) := fun p hp => by
      rcases List.mem_append.mp hp with hp | hp
      · exact N₁ p hp
      · rw [List.mem_singleton.mp hp]; exact ⟨hoI, hIL, hI₀⟩
    refine wpAny_mono (turn i v m' nx h₁ tk₁ oI hlt hP hJ hnx (Heap.lt_size hoI) F₁ NI) (fun _ s₂ h₂ => wpAny_mono h₂ (fun f s₃ h₃ => ?_) fun _ _ e => e.elim) fun _ _ e => e.elim
    have fin : (∃ h' tk m' nx', s₃ = { s with heap := h', toks := tk } ∧ Fr h₀ L h' m' ∧ News h₀ L h' (nx' ++ [(I, oI)]) ∧ (∀ p ∈ nx', p.1 ≠ I) ∧ J (i + 1) m' nx') →
        ∃ k, k < n + 1 - i ∧ ∃ h' tk m' nx i, s₃ = { s with heap := h', toks := tk } ∧ St i h' ∧ Fr h₀ L h' m' ∧ News h₀ L h' nx ∧ (∀ p ∈ nx, p.1 ≠ I) ∧ J i m' nx ∧ i ≤ n ∧ k = n + 1 - i := by
      rintro ⟨h₄, tk₄, m₄, nx₄, rfl, F₄, N₄, hn₄, hJ₄⟩
      refine ⟨n + 1 - (i + 1), by omega, h₄, tk₄, m₄, nx₄, i + 1, rfl, ?_, F₄, fun p hp => N₄ p (List.mem_append_left _ hp), hn₄, hJ₄, hlt, rfl⟩
      refine W.frame _ _ _ hst₁ fun b hb o e => ?_
      by_cases q : b = I
      · subst q
        have := (N₄ (b, oI) (List.mem_append_right _ (.head _))).1
        rw [hoI] at e
        rw [← Option.some.inj e]; exact this
      · obtain ⟨o', ho'⟩ := hsrc b hb q
        have e1 := hk₁ b o' (by simpa using q) ((hkeep _ _ _ _ hJ F' N' b hb q).trans ho')
        rw [hkeep _ _ _ _ hJ₄ F₄ (fun p hp => N₄ p (List.mem_append_left _ hp)) b hb q, ho']
        exact e1.symm.trans e
    cases f with
    | ret v => exact h₃
    | brk => exact h₃
    | cont => exact fin h₃
    | next => exact fin h₃
  · obtain rfl : i = n := by omega
    refine W.done _ _ _ hst' fun h₁ tk₁ hk₁ => wpAny_execs_nil ?_
    obtain ⟨F₁, N₁⟩ := next h₁ hk₁
    exact done m' nx h₁ tk₁ hJ F₁ N₁

/-- over a list -/
theorem iter_list {l : Addr} {vs : List Value} {ol : Obj} {nn : Nat} {m₀ : Str → Option Value} {news : List (Addr × Obj)} {E₁ : Value → Shared → Prop} (J : Nat → (Str → Option Value) → List (Addr × Obj) → Prop)
    (hlet : ∀ it v, letOwnedTupleGo target it v = pure ()) (hh : A.handled = none) (hoc : ol.cls = .type "list") (hod : ol.data = .seq vs.toArray nn) (hl : s.heap.get? l = some ol) (F : Fr h₀ L s.heap m₀) (N : News h₀ L s.heap news) (hj : J 0 m₀ news)
    (hlJ : ∀ i m nx, J i m nx → (l, ol) ∈ nx ∨ h₀.get? l = some ol)
    (turn : ∀ i v m₁ nx h tk I oI, vs[i]? = some v → J i m₁ nx → (∀ p ∈ nx, p.1 ≠ I) → I < h.objs.size → Fr h₀ L h m₁ → News h₀ L h (nx ++ [(I, oI)]) →
      wpAny (model prog w) A (assign target env v) (fun _ s₂ => wpAny (model prog w) A (execs body env) (Turn h₀ L s I oI (J (i + 1)) Q) (fun _ _ => False) s₂) (fun _ _ => False) { s with heap := h, toks := tk })
    (done : ∀ m₁ nx h tk, J vs.length m₁ nx → Fr h₀ L h m₁ → News h₀ L h nx → Q .next { s with heap := h, toks := tk }) :
    wpAny (model prog w) A (pyIter (.ref l)) (fun it s₂ => codeAny (model prog w) A (.forLoop target it body [] env) (fun r s' => match r with | .ok f => Q f s' | .error e => E₁ e s') s₂) (fun _ _ => False) s := by
  have hls : s.heap.IsList l vs.toArray := ⟨_, hl, hoc, nn, hod⟩
  have hne : l ≠ s.heap.objs.size := Nat.ne_of_lt (Heap.lt_size hl)
  refine wpAny_pyIter_list hls ?_
  have W := Walks.list (prog := prog) (w := w) hh s.heap.objs.size l hne vs.toArray
  rw [List.size_toArray] at W
  have hlk : ∀ i m nx h, J i m nx → Fr h₀ L h m → News h₀ L h nx → h.get? l = some ol := fun i m nx h q F N => (hlJ i m nx q).elim (fun e => (N _ e).1) (fun e => F.keep _ _ e)
  refine loop_core (src := fun b => if b = l then some ol else none) J W hlet (fun i h st => by obtain ⟨o, e, _⟩ := st.1; exact ⟨o, e⟩) (fun b hb q => ?_) (fun i m nx h hJ F N b hb q => ?_)
    (Nat.ne_of_gt F.ns.lt) (next_is_new F) ⟨⟨_, Heap.get?_push_size _ rfl, rfl, rfl⟩, hls.at fun o e => Heap.get?_push_of_some _ e⟩ (F.push _) (fun p hp => ⟨Heap.get?_push_of_some _ (N p hp).1, (N p hp).2⟩) (fun p hp => Nat.ne_of_lt (Heap.lt_size (N p hp).1)) hj
    (fun i v m₁ nx h tk oI hin hP hJ hnx hlt F₁ N₁ => ?_) (fun m₁ nx h tk hJ F₁ N₁ => ?_)
  · have e : b = l := by
      rcases List.mem_cons.mp hb with e | e
      · exact absurd e q
      · exact List.mem_singleton.mp e
    exact ⟨ol, by simp [e]⟩
  · have e : b = l := by
      rcases List.mem_cons.mp hb with e | e
      · exact absurd e q
      · exact List.mem_singleton.mp e
    subst e
    simpa using hlk i m nx h hJ F N
  · exact turn i v m₁ nx h tk _ oI (by simpa using hP) hJ hnx hlt F₁ N₁
  · exact done m₁ nx h tk hJ F₁ N₁

/-- over a range by ones -/
theorem iter_range {r : Addr} {a₀ b₀ : Int} {t₀ u₀ v₀ : Tok} {n : Nat} {m₀ : Str → Option Value} {news : List (Addr × Obj)} {E₁ : Value → Shared → Prop} (J : Nat → (Str → Option Value) → List (Addr × Obj) → Prop)
    (hlet : ∀ it v, letOwnedTupleGo target it v = pure ()) (hh : A.handled = none) (hr : IsRange s.heap r a₀ b₀ 1 t₀ u₀ v₀) (hsmall : Builtin.Range.small a₀ b₀ 1 = true) (hn : Builtin.Range.rangeSize a₀ b₀ 1 = (n : Int)) (F : Fr h₀ L s.heap m₀) (N : News h₀ L s.heap news) (hj : J 0 m₀ news)
    (turn : ∀ (i : Nat) t m₁ nx h tk I oI, i < n → J i m₁ nx → (∀ p ∈ nx, p.1 ≠ I) → I < h.objs.size → Fr h₀ L h m₁ → News h₀ L h (nx ++ [(I, oI)]) →
      wpAny (model prog w) A (assign target env (.int (a₀ + i) t)) (fun _ s₂ => wpAny (model prog w) A (execs body env) (Turn h₀ L s I oI (J (i + 1)) Q) (fun _ _ => False) s₂) (fun _ _ => False) { s with heap := h, toks := tk })
    (done : ∀ m₁ nx h tk, J n m₁ nx → Fr h₀ L h m₁ → News h₀ L h nx → Q .next { s with heap := h, toks := tk }) :
    wpAny (model prog w) A (pyIter (.ref r)) (fun it s₂ => codeAny (model prog w) A (.forLoop target it body [] env) (fun r s' => match r with | .ok f => Q f s' | .error e => E₁ e s') s₂) (fun _ _ => False) s := by
  refine wpAny_pyIter_range hr hsmall ?_
  have W : Walks prog w A s.heap.objs.size [s.heap.objs.size] [s.heap.objs.size] n (fun i v => i < n ∧ ∃ t, v = .int (a₀ + i * 1) t)
      (fun i h => IsRangeIter h s.heap.objs.size (a₀ + (i : Nat) * 1) ((n : Int) - (i : Nat)) 1) := (Walks.range hh _ a₀ 1 n).bound
  refine loop_core (src := fun _ => none) J W hlet (fun i h st => ⟨_, st⟩) (fun b hb q => absurd (List.mem_singleton.mp hb) q) (fun i m nx h hJ F N b hb q => absurd (List.mem_singleton.mp hb) q)
    (Nat.ne_of_gt F.ns.lt) (next_is_new F) (by show IsRangeIter _ _ _ _ _; rw [hn]; simpa using Heap.get?_push_size _ rfl) (F.push _) (fun p hp => ⟨Heap.get?_push_of_some _ (N p hp).1, (N p hp).2⟩) (fun p hp => Nat.ne_of_lt (Heap.lt_size (N p hp).1)) hj
    (fun i v m₁ nx h tk oI hin hP hJ hnx hlt F₁ N₁ => ?_) (fun m₁ nx h tk hJ F₁ N₁ => ?_)
  · obtain ⟨_, t, rfl⟩ := hP
    rw [Int.mul_one]
    exact turn i t m₁ nx h tk _ oI hin hJ hnx hlt F₁ N₁
  · exact done m₁ nx h tk hJ F₁ N₁

/-- the statement -/
theorem for_gen {iter : PySem.Expr} {pos : Pos} (h : wpAny (model prog w) A (eval iter env) (fun xv s₁ => wpAny (model prog w) A (pyIter xv) (fun it s₂ => codeAny (model prog w) A (.forLoop target it body [] env) (fun r s' => match r with | .ok f => Q f s' | .error e => cameBackBy (model prog w) A env (fun _ _ => False) e s') s₂) (fun _ _ => False) s₁) (fun _ _ => False) s)
    (hs : ∀ x, foldedSetIterable iter env x = pure x := by intro _; rfl) : wpAny (model prog w) A (exec (.For target iter body [] pos) env) Q (fun _ _ => False) s := wpAny_For h hs
end

section
open LCg LCt
variable {prog : Program} {w : World} {A : Around} {s : Shared} {h₀ : Heap} {L : Addr} {m : Str → Option Value} {env : Env} {ct elt : PySem.Expr} {x : Str} {scope : Scope} {cl : List (Str × Addr)} {S : List (Addr × Obj) → Prop} {P : Nat → Value → Prop} {Fin : List Value → List (Addr × Obj) → Prop}

theorem compU_ind (J : Nat → List Value → List (Addr × Obj) → Prop) {n : Nat}
    (step : ∀ i ys news v I oI C oC D m₂ h tk (E' : Value → Shared → Prop), i < n → J i ys news → P i v → NsObj oC m₂ → m₂ x = some v → Fr h₀ L h m → News h₀ L h ((I, oI) :: (C, oC) :: (D, lst ys) :: news) → Off3 I C D news → ((@Ne Nat I C) ∧ (@Ne Nat I D) ∧ (@Ne Nat C D)) →
      wpAny (model prog w) A (eval elt (compEnvC scope cl C env)) (CompEnd h₀ L m { s with heap := h, toks := tk } I oI C oC D (lst ys) S (fun y news' => J (i + 1) (ys ++ [y]) news')) E' { s with heap := h, toks := tk })
    (fin : ∀ ys news, J n ys news → Fin ys news) : ∀ k i ys news, i + k = n → J i ys news → CompRest prog w A h₀ L m env elt x scope cl s S P Fin k i ys news
  | 0, i, ys, news, e, hJ => fin ys news (by rw [← e]; exact hJ)
  | k + 1, i, ys, news, e, hJ => by
    intro v I oI C oC D m₂ h tk E' hP hN hx F N off ne
    refine wpAny_mono (step i ys news v I oI C oC D m₂ h tk E' (by omega) hJ hP hN hx F N off ne) (fun y s₂ q => ?_) fun _ _ q => q
    obtain ⟨h', tk', news', e', F', N', o', S', r⟩ := q
    exact ⟨h', tk', news', e', F', N', o', S', compU_ind J step fin k (i + 1) _ _ (by omega) r⟩

theorem compT_ind (J : Nat → List Value → List (Addr × Obj) → Prop) {n : Nat}
    (step : ∀ i ys news v I oI C oC D m₂ h tk (E' : Value → Shared → Prop), i < n → J i ys news → P i v → NsObj oC m₂ → m₂ x = some v → Fr h₀ L h m → News h₀ L h ((I, oI) :: (C, oC) :: (D, lst ys) :: news) → Off3 I C D news → ((@Ne Nat I C) ∧ (@Ne Nat I D) ∧ (@Ne Nat C D)) →
      wpAny (model prog w) A (isTrue ct (compEnvC scope cl C env) (eval ct (compEnvC scope cl C env))) (fun ok s' => if ok = true then
        wpAny (model prog w) A (eval elt (compEnvC scope cl C env)) (CompEnd h₀ L m { s with heap := h, toks := tk } I oI C oC D (lst ys) S (fun y news' => J (i + 1) (ys ++ [y]) news')) E' s'
        else CompEnd h₀ L m { s with heap := h, toks := tk } I oI C oC D (lst ys) S (fun _ news' => J (i + 1) ys news') Value.none s') E' { s with heap := h, toks := tk })
    (fin : ∀ ys news, J n ys news → Fin ys news) : ∀ k i ys news, i + k = n → J i ys news → CompRestT prog w A h₀ L m env ct elt x scope cl s S P Fin k i ys news
  | 0, i, ys, news, e, hJ => fin ys news (by rw [← e]; exact hJ)
  | k + 1, i, ys, news, e, hJ => by
    intro v I oI C oC D m₂ h tk E' hP hN hx F N off ne
    refine wpAny_mono (step i ys news v I oI C oC D m₂ h tk E' (by omega) hJ hP hN hx F N off ne) (fun ok s₂ q => ?_) fun _ _ q => q
    cases ok with
    | true =>
      simp only [if_true] at q ⊢
      refine wpAny_mono q (fun y s₃ q => ?_) fun _ _ q => q
      obtain ⟨h', tk', news', e', F', N', o', S', r⟩ := q
      exact ⟨h', tk', news', e', F', N', o', S', compT_ind J step fin k (i + 1) _ _ (by omega) r⟩
    | false =>
      simp only [Bool.false_eq_true, if_false] at q ⊢
      obtain ⟨h', tk', news', e', F', N', o', S', r⟩ := q
      exact ⟨h', tk', news', e', F', N', o', S', compT_ind J step fin k (i + 1) _ _ (by omega) r⟩
end

theorem newsTab {h₀ h h' : Heap} {L R : Addr} {ep : Nat} {rows : List RowD} {m : Str → Option Value} {rest : List (Addr × Obj)} (F : Fr h₀ L h m) (N : News h₀ L h rest) (hk : Kept h h')
    (hT : ∀ p ∈ tabL R ep rows, h'.get? p.1 = some p.2 ∧ h.get? p.1 = none) : News h₀ L h' (tabL R ep rows ++ rest) := fun p hp => by
  rcases List.mem_append.mp hp with hp | hp
  · have z := hT p hp
    obtain ⟨oL, _, _, hLo, _⟩ := F.ns
    refine ⟨z.1, fun e => ?_, ?_⟩
    · rw [e, hLo] at z; cases z.2
    · cases e : h₀.get? p.1 with
      | none => rfl
      | some o => have := z.2; rw [F.keep _ _ e] at this; cases this
  · exact newsKept N hk p hp
theorem newsOff {h₀ h h' : Heap} {L R : Addr} {ep : Nat} {rows : List RowD} {rest : List (Addr × Obj)} {q : Addr × Obj} (N : News h₀ L h rest) (hq : q ∈ rest)
    (hT : ∀ p ∈ tabL R ep rows, h'.get? p.1 = some p.2 ∧ h.get? p.1 = none) : ∀ p ∈ tabL R ep rows, p.1 ≠ q.1 := fun p hp e => by
  have z := (hT p hp).2
  rw [e, (N q hq).1] at z; cases z

theorem item_val {prog : Program} {w : World} {A : Around} {E : Value → Shared → Prop} {s : Shared} {value slice : PySem.Expr} {l : Addr} {vs : List Value} {k : Int} {u : Tok} {x : Value} {Q : Value → Shared → Prop} (hl : s.heap.IsList l vs.toArray)
    (h0 : 0 ≤ k) (hfit : k < 2 ^ 63) (hx : vs[k.toNat]? = some x) (h : Q x s)
    (hs : subscripted slice false (.ref l) (.int k u) = operate [.ref l, .int k u] (getItem (.ref l) (.int k u)) := by with_unfolding_all rfl) :
    wpAny (model prog w) A (subscriptTail value slice (.ref l) (.int k u)) Q E s :=
  tail_any hl.typeIs slot_list_getitem.lookup (wpAny_getItem_list hl h0 hfit (by simpa using hx) h) hs
theorem updF_mid {d : Addr} {o : Obj} {post : List (Addr × Obj)} : ∀ {pre : List (Addr × Obj)}, (∀ p ∈ pre, p.1 ≠ d) → (∀ p ∈ post, p.1 ≠ d) → UpdF d o (pre ++ (d, o) :: post) (fun o' => pre ++ (d, o') :: post)
  | [], _, h2 => .head h2
  | p :: _, h1, h2 => .tail (h1 p (.head _)) (updF_mid (fun q hq => h1 q (.tail _ hq)) h2)

theorem fold_len : ∀ (w : List Int) (T : List (List Int)) (n : Nat), (∀ r ∈ T, r.length ≤ n) → (w.foldl insT T).length ≤ T.length + w.length ∧ ∀ r ∈ w.foldl insT T, r.length ≤ n + w.length
  | [], T, n, h => by simpa using h
  | x :: w, T, n, h => by
    have ih := fold_len w (insT T x) (n + 1) (insT_lens T x h)
    have := insT_len T x
    simp only [List.foldl_cons, List.length_cons]
    exact ⟨by omega, fun r hr => by have := ih.2 r hr; omega⟩
theorem tab_len {w : List Int} {rows : List RowD} (h : rows.map (·.ns) = w.foldl insT []) : rows.length ≤ w.length ∧ ∀ r ∈ rows, r.ns.length ≤ w.length := by
  have := fold_len w [] 0 (by simp)
  rw [← h] at this
  simp only [List.length_map, List.length_nil, Nat.zero_add] at this
  exact ⟨this.1, fun r hr => this.2 r.ns (List.mem_map_of_mem (f := fun r : RowD => r.ns) hr)⟩

section
variable {M : Model} {A : Around} {E : Value → Shared → Prop} {s : Shared} {h₀ : Heap} {L C c : Addr} {m : Str → Option Value} {scope : Scope} {cl : List (Str × Addr)} {env : Env} {x : Str} {pos : Pos} {v : Value} {o : Obj} {Q : Value → Shared → Prop} {K : Frag} {p : Program} {loose : List Str} {mg mb : Str → Option Value}
/-- a built-in's name, within a comprehension -/
theorem compName_B (hg : env.globals = mainGlobals) (hb : env.builtins = builtinsNs) (F : Fr h₀ L s.heap m) (X : K.In h₀) (T : TopRead p loose mg mb h₀) (e : nsIn K mainGlobals x = some none) (hv : bootBuiltins x = some v) (hn : x ≠ "__name__") (h : Q v s)
    (hk : (compEnvC scope cl C env).scope.kind = .function) (hx : (compEnvC scope cl C env).kindOf x = some .globalImplicit) (hd : (x == ("__debug__" : Str)) = false) :
    wpAny M A (eval (.Name x pos) (compEnvC scope cl C env)) Q E s :=
  Name_function_global hk hx (loadGlobal_builtin (env := compEnvC scope cl C env) (by show s.heap.Ns env.globals mg; rw [hg]; exact T.g.keeps F.keep) (mg_none_of X T.g e) (by show s.heap.Ns env.builtins mb; rw [hb]; exact T.b.keeps F.keep) ((T.builtins x hn).trans hv) h) hd
/-- the comprehension's own name -/
theorem compName_L (N : s.heap.get? C = some o) (hO : LCg.NsObj o m) (hv : m x = some v) (h : Q v s)
    (hk : (compEnvC scope cl C env).scope.kind = .function) (hx : (compEnvC scope cl C env).kindOf x = some .local) (hd : (x == ("__debug__" : Str)) = false) :
    wpAny M A (eval (.Name x pos) (compEnvC scope cl C env)) Q E s := wpAny_Name (wpAny_loadName_local (env := compEnvC scope cl C env) hk hx (hO.ns N) hv h) hd
end

theorem off1_mem {D : Addr} : ∀ {l : List (Addr × Obj)}, LCg.Off1 D l → ∀ p ∈ l, p.1 ≠ D
  | [], _, _, h => nomatch h
  | _ :: _, x, p, h => by
    rcases List.mem_cons.mp h with rfl | h
    · exact x.1
    · exact off1_mem x.2 p h
end Mine
namespace Mine
section
open AutoSeq1 (wpAny_loadPart')
variable {prog : Program} {w : World} {A : Around} {E : Value → Shared → Prop} {s : Shared}

/-- a call of a lambda that stands in the heap -/
theorem enterLam {Q : Value → Shared → Prop} {name qual : Str} {params : Arguments} {body : PySem.Expr} {scope : Scope} {cl : List (Str × Addr)} {pm ctv : Value} {c' f : Addr} {pos : List Value} {kw : List (Str × Value)} {binds : List (Str × Value)}
    (hf : s.heap.get? f = some (kla_obj name qual params body scope cl pm c' ctv)) (hcd : s.heap.CodeRec (.ref c') qual) (hlim : s.heap.NoLimit) (hroom : A.depth < recursionLimit)
    (hbind : bindArgs (kla_fn name qual params body scope cl pm (.ref c') ctv) ⟨pos, kw⟩ = pure binds) (hloc : ∀ y ∈ binds, scope.names.lookup y.1 = some .local)
    (h : ∀ h₁ tk, Fr s.heap s.heap.objs.size h₁ (fun y => binds.reverse.lookup y) →
      wpAny (model prog w) (A.deeper (envX qual scope s.heap.objs.size f (.ref c') cl)) (eval body (envX qual scope s.heap.objs.size f (.ref c') cl)) Q (fun _ _ => False) { s with heap := h₁, toks := tk })
    (hco : scope.isCoroutine = false) (hgen : scope.isGenerator = false) (hk : scope.kind = .function)
    (hcell : ∀ x ∈ scope.names, x.2 ≠ .cell) : wpAny (model prog w) A (call (.ref f) pos kw) Q E s := by
  refine wpAny_call ?_
  refine kla_callFunE hroom hf rfl hco hgen rfl hcd ?_
  rw [hbind]
  refine wpAny_pure (wpAny_newFunctionEnv hcell hloc (fun h₁ hns hsb => ⟨hlim.fresh _ hsb, ?_⟩) hk)
  show codeAny _ _ (.expr body (envX qual scope s.heap.objs.size f (.ref c') cl)) _ _
  have hk₁ : ∀ b o, s.heap.get? b = some o → h₁.get? b = some o := fun b o e => hsb.extBut b o (Nat.ne_of_lt (Heap.lt_size e)) (Heap.get?_push_of_some _ e)
  exact kla_codeExpr (wpAny_mono (h h₁ _ ⟨hns, hk₁, Nat.le_refl _⟩) (fun v s' x => x) fun _ _ x => x.elim)

theorem getItem_range {r : Addr} {a b : Int} {t u v tk : Tok} {k : Int} {Q : Value → Shared → Prop} (hr : IsRange s.heap r a b 1 t u v) (h0 : 0 ≤ k) (h1 : k < Builtin.Range.rangeSize a b 1)
    (h : ∀ t' tk', Q (.int (a + k) t') { s with toks := tk' }) : wpAny (model prog w) A (getItem (.ref r) (.int k tk)) Q E s := by
  have hT : s.TypeIs (.ref r) "range" := ⟨_, hr, rfl⟩
  refine wpAny_getItem_slot hT (by decide) F.slot_range_getitem ?_
  refine wpAny_call_entry F.slot_range_getitem hT F.entry_range_getitem ?_ (F.args_range_getitem_2 _ _)
  obtain ⟨hp, g, d, tk, os⟩ := s
  wp_walk using wpAny_loadPart' hr
  rw [show typeLookup (Value.type "int") (Str.ofString "__index__") = pure (some (.builtin "int.__index__")) from F.slot_int_index.lookup]
  refine wpAny_pure ?_
  dsimp only [Option.isNone]
  rw [if_neg (by decide)]
  wp_walk
  have e : (if k < 0 then k + Builtin.Range.rangeSize a b 1 else k) = k := if_neg (by omega)
  simp only [e]
  rw [if_neg (by simp; omega)]
  wp_walk
  exact ⟨_, rfl, by rw [Int.mul_one]; exact h _ _⟩

theorem range_item {value slice : PySem.Expr} {r : Addr} {a b : Int} {t u v tk : Tok} {k : Int} {Q : Value → Shared → Prop} (hr : IsRange s.heap r a b 1 t u v) (h0 : 0 ≤ k) (h1 : k < Builtin.Range.rangeSize a b 1)
    (h : ∀ t' tk', Q (.int (a + k) t') { s with toks := tk' })
    (hs : subscripted slice false (.ref r) (.int k tk) = operate [.ref r, .int k tk] (getItem (.ref r) (.int k tk)) := by with_unfolding_all rfl) :
    wpAny (model prog w) A (subscriptTail value slice (.ref r) (.int k tk)) Q E s :=
  tail_any ⟨_, hr, rfl⟩ F.slot_range_getitem.lookup (getItem_range hr h0 h1 h) hs

theorem freeX {x : Str} {pos : Pos} {qual : Str} {scope : Scope} {L f c : Addr} {cd : Value} {cl : List (Str × Addr)} {o : Obj} {v : Value} {Q : Value → Shared → Prop} (hg : s.heap.get? c = some o) (hd : o.data = .cell (some v)) (h : Q v s) (hc : cl.lookup x = some c)
    (hk : (envX qual scope L f cd cl).scope.kind = .function) (hx : (envX qual scope L f cd cl).kindOf x = some .free) (hb : (x == ("__debug__" : Str)) = false := by decide) (hn : (x == ("__classdict__" : Str)) = false := by decide) :
    wpAny (model prog w) A (eval (.Name x pos) (envX qual scope L f cd cl)) Q E s := wpAny_Name (wpAny_loadName_free hk hx hc ⟨o, hg, hd⟩ h hn) hb
end
def rgO (a b : Int) (t u v : Tok) : Obj := { cls := .type "range", dict := none, data := .fields #[.int a t, .int b u, .int 1 v], slots := #[] }
section
variable {prog : Program} {w : World} {A : Around} {E : Value → Shared → Prop} {s : Shared} {h₀ : Heap} {L : Addr} {m : Str → Option Value}
theorem range1_led {Q : Value → Shared → Prop} {n : Int} {t : Tok} {news : List (Addr × Obj)} (F : Fr h₀ L s.heap m) (N : News h₀ L s.heap news)
    (h : ∀ R h' tk t₁ u₁ v₁, Fr h₀ L h' m → News h₀ L h' ((R, rgO 0 n t₁ u₁ v₁) :: news) → (∀ p ∈ news, p.1 < R) → Q (.ref R) { s with heap := h', toks := tk }) :
    wpAny (model prog w) A (call (.type "range") [.int n t]) Q E s :=
  range1_rows F N fun h' tk t₁ u₁ v₁ hr F' N' hk => h _ h' tk t₁ u₁ v₁ F' (fun p hp => by
    rcases List.mem_cons.mp hp with rfl | hp
    · exact ⟨hr, Nat.ne_of_gt F.ns.lt, next_is_new F⟩
    · exact N' p hp) fun p hp => Heap.lt_size (N p hp).1
end
theorem binds_kw1 {s : Shared} {fd : FuncData} {args : Args} {binds : List (Str × Value)} {T : Addr} {o : Obj} {items : Array Value} {n : Nat}
    {k : Option (Array Value) → Sem (List (Str × Value))}
    (ho : s.heap.get? T = some o) (hs' : o.data = .seq items n)
    (h₁ : bindArgs fd args = seqItems? (.ref T) >>= k) (h₂ : k (some items) = pure binds) : BindsTo s fd args binds :=
  fun _ _ _ _ hq => by
    rw [h₁]
    refine wpAny_bind (wpAny_seqItems ho hs' ?_)
    rw [h₂]
    exact wpAny_pure hq
end Mine
namespace Mine
section
open LCg
variable {prog : Program} {w : World} {A : Around} {E : Value → Shared → Prop} {s : Shared} {h₀ : Heap} {L : Addr} {m : Str → Option Value} {env : Env}
/-- a list comprehension over a range by any step -/
theorem listComp_R {elt iter : PySem.Expr} {x : Str} {px : Pos} {scope : Scope} {cl : List (Str × Addr)} {pos : Pos} {Q : Value → Shared → Prop} (_F₀ : Fr h₀ L s.heap m)
    (hclos : closureFor scope env = pure cl) (hcell : ∀ y ∈ scope.names, y.2 ≠ .cell) (hkind : scope.kind = .function)
    (hnames : ∀ y ∈ scope.names, y.2 = .local → scope.names.lookup y.1 = some .local) (hx : scope.names.lookup x = some .local)
    (h : wpAny (model prog w) A (eval iter env) (fun xv s₁ => ∃ r a b c t u v n news, xv = .ref r ∧ A.handled = none ∧ Fr h₀ L s₁.heap m ∧ News h₀ L s₁.heap news ∧ IsRange s₁.heap r a b c t u v ∧ Builtin.Range.small a b c = true ∧ Builtin.Range.rangeSize a b c = ((n : Nat) : Int) ∧ n ≤ sizeLine ∧
      ∀ g, CompRest prog w A h₀ L m env elt x scope cl { s₁ with heap := g } (fun _ => True) (fun i v => ∃ t, v = .int (a + (i : Nat) * c) t) (FinE h₀ L m { s₁ with heap := g } Q) n 0 [] news) E s)
    (hs : ∀ x, foldedSetIterable iter env x = pure x := by intro _; rfl) :
    wpAny (model prog w) A (eval (.ListComp elt [⟨.Name x px, iter, [], 0⟩] scope pos) env) Q E s := by
  rw [eval_ListComp]
  refine wpAny_comprehension_free (use := none) rfl hs hclos hkind hnames (wpAny_mono h (fun xv s₁ h₁ => ?_) fun _ _ e => e)
  obtain ⟨r, a, b, c, t, u, v, n, news, rfl, hh, F, N, hr, hsm, hn, hsz, R⟩ := h₁
  refine wpAny_pyIter_range hr hsm ?_
  refine block_U (S := fun _ => True) (Walks.range hh s₁.heap.objs.size a c n) hsz (fun i h st => ⟨_, st⟩) (fun i h h' o nw st e e' _ _ _ => ?_) hcell hkind hx (by show IsRangeIter _ _ _ _ _; rw [hn]; simpa using Heap.get?_push_size _ rfl) (fun b hb => ?_)
    (F.keeps fun _ _ e => Heap.get?_push_of_some _ e) (fun p hp => ⟨Heap.get?_push_of_some _ (N p hp).1, (N p hp).2⟩) (Nat.ne_of_lt F.ns.lt) (next_is_new F) (fun p hp => Nat.ne_of_lt (Heap.lt_size (N p hp).1)) trivial (R _) ?_
  · have st' : h.get? s₁.heap.objs.size = some _ := st
    show h'.get? s₁.heap.objs.size = some _
    rw [e', ← e]; exact st'
  · rw [List.mem_singleton.mp hb]
    show s₁.heap.objs.size < (s₁.heap.push _).objs.size
    rw [Heap.size_push]; exact Nat.lt_succ_self _
  · intro D C h tk m' ys news' F' N' o1 hn' hC₀ hD₀ hCL hDL hCD offC fin
    refine ⟨m', hn', fun h'' hs'' => fin D h'' tk (F'.change hs'' hCL hC₀) (fun p hp => ?_) o1⟩
    refine ⟨hs''.extBut _ _ ?_ (N' p hp).1, (N' p hp).2⟩
    rcases List.mem_cons.mp hp with rfl | hp
    · exact Ne.symm hCD
    · exact offC p hp
end
end Mine
namespace Mine
section
variable {prog : Program} {w : World} {A : Around} {s : Shared} {env : Env} {h₀ : Heap} {L : Addr} {target : PySem.Expr} {body : List Stmt} {Q : Flow → Shared → Prop}

/-- a for over anything that is walked, with any target; the turn begins at the target's assignment -/
theorem loop_coreG {I : Addr} {fp : List Addr} {n : Nat} {P : Nat → Value → Prop} {St : Nat → Heap → Prop} {src : Addr → Option Obj} {m₀ : Str → Option Value} {news : List (Addr × Obj)} {E₁ : Value → Shared → Prop}
    (J : Nat → (Str → Option Value) → List (Addr × Obj) → Prop) (W : Walks prog w A I fp [I] n P St) (hgo : ∀ i v (s : Shared) (Q : Unit → Shared → Prop) (E : Value → Shared → Prop), i < n → P i v → St (i + 1) s.heap → Q () s → wpAny (model prog w) A (letOwnedTupleGo target (.ref I) v) Q E s)
    (hIo : ∀ i h, St i h → ∃ o, h.get? I = some o) (hsrc : ∀ b ∈ fp, b ≠ I → ∃ o, src b = some o)
    (hkeep : ∀ i m nx h, J i m nx → Fr h₀ L h m → News h₀ L h nx → ∀ b ∈ fp, b ≠ I → h.get? b = src b)
    (hIL : I ≠ L) (hI₀ : h₀.get? I = none) (hst : St 0 s.heap) (F : Fr h₀ L s.heap m₀) (N : News h₀ L s.heap news) (hnI : ∀ p ∈ news, p.1 ≠ I) (hj : J 0 m₀ news)
    (turn : ∀ i v m₁ nx h tk oI, i < n → P i v → J i m₁ nx → (∀ p ∈ nx, p.1 ≠ I) → I < h.objs.size → Fr h₀ L h m₁ → News h₀ L h (nx ++ [(I, oI)]) →
      wpAny (model prog w) A (assign target env v) (fun _ s₂ => wpAny (model prog w) A (execs body env) (Turn h₀ L s I oI (J (i + 1)) Q) (fun _ _ => False) s₂) (fun _ _ => False) { s with heap := h, toks := tk })
    (done : ∀ m₁ nx h tk, J n m₁ nx → Fr h₀ L h m₁ → News h₀ L h nx → Q .next { s with heap := h, toks := tk }) :
    codeAny (model prog w) A (.forLoop target (.ref I) body [] env) (fun r s' => match r with | .ok f => Q f s' | .error e => E₁ e s') s := by
  have hLw : L ≠ I := Ne.symm hIL
  have old : ∀ b o, h₀.get? b = some o → b ≠ I := fun b o e q => by rw [q, hI₀] at e; cases e
  refine codeAny_forLoop_any
    (fun k s' => ∃ h' tk m' nx i, s' = { s with heap := h', toks := tk } ∧ St i h' ∧ Fr h₀ L h' m' ∧ News h₀ L h' nx ∧ (∀ p ∈ nx, p.1 ≠ I) ∧ J i m' nx ∧ i ≤ n ∧ k = n + 1 - i) ?_ (n + 1)
    ⟨s.heap, s.toks, m₀, news, 0, rfl, hst, F, N, hnI, hj, Nat.zero_le _, rfl⟩
  rintro k s' ⟨h', tk, m', nx, i, rfl, hst', F', N', hnx, hJ, hi, rfl⟩
  have next : ∀ h₁ : Heap, (∀ b o, b ∉ [I] → h'.get? b = some o → h₁.get? b = some o) → Fr h₀ L h₁ m' ∧ News h₀ L h₁ nx := fun h₁ hk₁ =>
    ⟨⟨F'.ns.at' fun o e => hk₁ _ o (by simpa using hLw) e, fun b o e => hk₁ b o (by simpa using old b o e) (F'.keep b o e), F'.above⟩, fun p hp => ⟨hk₁ _ _ (by simpa using hnx p hp) (N' p hp).1, (N' p hp).2⟩⟩
  by_cases hlt : i < n
  · refine W.item i _ _ _ hlt hst' fun v h₁ tk₁ hP hst₁ hk₁ => ?_
    obtain ⟨F₁, N₁⟩ := next h₁ hk₁
    obtain ⟨oI, hoI⟩ := hIo _ _ hst₁
    have NI : News h₀ L h₁ (nx ++ [(I, oI)]) := fun p hp => by
      rcases List.mem_append.mp hp with hp | hp
      · exact N₁ p hp
      · rw [List.mem_singleton.mp hp]; exact ⟨hoI, hIL, hI₀⟩
    refine hgo i v _ _ _ hlt hP hst₁ ?_
    refine wpAny_mono (turn i v m' nx h₁ tk₁ oI hlt hP hJ hnx (Heap.lt_size hoI) F₁ NI) (fun _ s₂ h₂ => wpAny_mono h₂ (fun f s₃ h₃ => ?_) fun _ _ e => e.elim) fun _ _ e => e.elim
    have fin : (∃ h' tk m' nx', s₃ = { s with heap := h', toks := tk } ∧ Fr h₀ L h' m' ∧ News h₀ L h' (nx' ++ [(I, oI)]) ∧ (∀ p ∈ nx', p.1 ≠ I) ∧ J (i + 1) m' nx') →
        ∃ k, k < n + 1 - i ∧ ∃ h' tk m' nx i, s₃ = { s with heap := h', toks := tk } ∧ St i h' ∧ Fr h₀ L h' m' ∧ News h₀ L h' nx ∧ (∀ p ∈ nx, p.1 ≠ I) ∧ J i m' nx ∧ i ≤ n ∧ k = n + 1 - i := by
      rintro ⟨h₄, tk₄, m₄, nx₄, rfl, F₄, N₄, hn₄, hJ₄⟩
      refine ⟨n + 1 - (i + 1), by omega, h₄, tk₄, m₄, nx₄, i + 1, rfl, ?_, F₄, fun p hp => N₄ p (List.mem_append_left _ hp), hn₄, hJ₄, hlt, rfl⟩
      refine W.frame _ _ _ hst₁ fun b hb o e => ?_
      by_cases q : b = I
      · subst q
        have := (N₄ (b, oI) (List.mem_append_right _ (.head _))).1
        rw [hoI] at e
        rw [← Option.some.inj e]; exact this
      · obtain ⟨o', ho'⟩ := hsrc b hb q
        have e1 := hk₁ b o' (by simpa using q) ((hkeep _ _ _ _ hJ F' N' b hb q).trans ho')
        rw [hkeep _ _ _ _ hJ₄ F₄ (fun p hp => N₄ p (List.mem_append_left _ hp)) b hb q, ho']
        exact e1.symm.trans e
    cases f with
    | ret v => exact h₃
    | brk => exact h₃
    | cont => exact fin h₃
    | next => exact fin h₃
  · obtain rfl : i = n := by omega
    refine W.done _ _ _ hst' fun h₁ tk₁ hk₁ => wpAny_execs_nil ?_
    obtain ⟨F₁, N₁⟩ := next h₁ hk₁
    exact done m' nx h₁ tk₁ hJ F₁ N₁

/-- over a list -/
theorem iter_listT {l : Addr} {vs : List Value} {ol : Obj} {nn : Nat} {m₀ : Str → Option Value} {news : List (Addr × Obj)} {E₁ : Value → Shared → Prop} (J : Nat → (Str → Option Value) → List (Addr × Obj) → Prop)
    {elts : List PySem.Expr} {k0 : Nat} {tpos : Pos} (htg : target = .Tuple elts k0 tpos) (hrefs : ∀ (i : Nat) v, vs[i]? = some v → ∃ T, v = .ref T) (hh : A.handled = none) (hoc : ol.cls = .type "list") (hod : ol.data = .seq vs.toArray nn) (hl : s.heap.get? l = some ol) (F : Fr h₀ L s.heap m₀) (N : News h₀ L s.heap news) (hj : J 0 m₀ news)
    (hlJ : ∀ i m nx, J i m nx → (l, ol) ∈ nx ∨ h₀.get? l = some ol)
    (turn : ∀ i v m₁ nx h tk I oI, vs[i]? = some v → J i m₁ nx → (∀ p ∈ nx, p.1 ≠ I) → I < h.objs.size → Fr h₀ L h m₁ → News h₀ L h (nx ++ [(I, oI)]) →
      wpAny (model prog w) A (assign target env v) (fun _ s₂ => wpAny (model prog w) A (execs body env) (Turn h₀ L s I oI (J (i + 1)) Q) (fun _ _ => False) s₂) (fun _ _ => False) { s with heap := h, toks := tk })
    (done : ∀ m₁ nx h tk, J vs.length m₁ nx → Fr h₀ L h m₁ → News h₀ L h nx → Q .next { s with heap := h, toks := tk }) :
    wpAny (model prog w) A (pyIter (.ref l)) (fun it s₂ => codeAny (model prog w) A (.forLoop target it body [] env) (fun r s' => match r with | .ok f => Q f s' | .error e => E₁ e s') s₂) (fun _ _ => False) s := by
  have hls : s.heap.IsList l vs.toArray := ⟨_, hl, hoc, nn, hod⟩
  have hne : l ≠ s.heap.objs.size := Nat.ne_of_lt (Heap.lt_size hl)
  refine wpAny_pyIter_list hls ?_
  have W := Walks.list (prog := prog) (w := w) hh s.heap.objs.size l hne vs.toArray
  rw [List.size_toArray] at W
  have hlk : ∀ i m nx h, J i m nx → Fr h₀ L h m → News h₀ L h nx → h.get? l = some ol := fun i m nx h q F N => (hlJ i m nx q).elim (fun e => (N _ e).1) (fun e => F.keep _ _ e)
  refine loop_coreG (src := fun b => if b = l then some ol else none) J W (fun i v s Q E hi hP st hQ => ?_) (fun i h st => by obtain ⟨o, e, _⟩ := st.1; exact ⟨o, e⟩) (fun b hb q => ?_) (fun i m nx h hJ F N b hb q => ?_)
    (Nat.ne_of_gt F.ns.lt) (next_is_new F) ⟨⟨_, Heap.get?_push_size _ rfl, rfl, rfl⟩, hls.at fun o e => Heap.get?_push_of_some _ e⟩ (F.push _) (fun p hp => ⟨Heap.get?_push_of_some _ (N p hp).1, (N p hp).2⟩) (fun p hp => Nat.ne_of_lt (Heap.lt_size (N p hp).1)) hj
    (fun i v m₁ nx h tk oI hin hP hJ hnx hlt F₁ N₁ => ?_) (fun m₁ nx h tk hJ F₁ N₁ => ?_)
  · obtain ⟨T, rfl⟩ := hrefs i v (by simpa using hP)
    rw [htg]
    exact wpAny_letOwnedTupleGo_listiter st.1 hQ
  · have e : b = l := by
      rcases List.mem_cons.mp hb with e | e
      · exact absurd e q
      · exact List.mem_singleton.mp e
    exact ⟨ol, by simp [e]⟩
  · have e : b = l := by
      rcases List.mem_cons.mp hb with e | e
      · exact absurd e q
      · exact List.mem_singleton.mp e
    subst e
    simpa using hlk i m nx h hJ F N
  · exact turn i v m₁ nx h tk _ oI (by simpa using hP) hJ hnx hlt F₁ N₁
  · exact done m₁ nx h tk hJ F₁ N₁

end
end Mine
namespace Mine

/-! the plain law: Knuth's exchanges leave the rows as they are -/
abbrev Srt (r : List Int) : Prop := r.Pairwise (· ≤ ·)

theorem bs_spec {p : Nat → Bool} {n : Nat} (mono : ∀ i j, i ≤ j → j < n → p i = true → p j = true) {lo hi : Nat} (hle : lo ≤ hi) (hn : hi ≤ n)
    (h1 : ∀ i, i < lo → p i = false) (h2 : ∀ i, hi ≤ i → i < n → p i = true) :
    (∀ i, i < bs p lo hi → p i = false) ∧ (∀ i, bs p lo hi ≤ i → i < n → p i = true) := by
  induction lo, hi using bs.induct p with
  | case1 lo hi h hp ih =>
    rw [bs_left h hp]
    exact ih (by omega) (by omega) h1 (fun i q q' => mono _ i q q' hp)
  | case2 lo hi h hp ih =>
    rw [bs_right h (by simpa using hp)]
    refine ih (by omega) (by omega) (fun i q => ?_) h2
    cases e : p i with
    | false => rfl
    | true => exact absurd (mono i ((lo + hi) / 2) (by omega) (by omega) e) (by simpa using hp)
  | case3 lo hi h =>
    rw [bs_done h]
    exact ⟨h1, fun i q q' => h2 i (by omega) q'⟩

def rowIns : List Int → Int → List Int × Option Int
  | [], x => ([x], none)
  | a :: r, x => if x < a then (x :: r, some a) else (a :: (rowIns r x).1, (rowIns r x).2)

theorem rowIns_at : ∀ (r : List Int) (x : Int) (k : Nat), k ≤ r.length → (∀ i, i < k → r.getD i 0 ≤ x) → (k < r.length → x < r.getD k 0) →
    rowIns r x = if k = r.length then (r ++ [x], none) else (r.set k x, some (r.getD k 0))
  | [], x, k, hk, _, _ => by
    have : k = 0 := by simpa using hk
    subst this
    simp [rowIns]
  | a :: r, x, 0, hk, h1, h2 => by
    have := h2 (by simp)
    simp at this
    simp [rowIns, this]
  | a :: r, x, k + 1, hk, h1, h2 => by
    have ha : ¬ x < a := by have := h1 0 (by omega); simp at this; omega
    have ih := rowIns_at r x k (by simpa using hk) (fun i hi => by simpa using h1 (i + 1) (by omega)) (fun h => by simpa using h2 (by simpa using h))
    unfold rowIns
    rw [if_neg ha, ih]
    by_cases e : k = r.length
    · simp [e]
    · simp [e]

theorem srt_getD {r : List Int} (h : Srt r) {i j : Nat} (hij : i ≤ j) (hj : j < r.length) : r.getD i 0 ≤ r.getD j 0 := by
  have e1 : r.getD i 0 = r[i] := by simp [List.getD, List.getElem?_eq_getElem (show i < r.length by omega)]
  have e2 : r.getD j 0 = r[j] := by simp [List.getD, List.getElem?_eq_getElem hj]
  rw [e1, e2]
  by_cases e : i = j
  · subst e; exact Int.le_refl _
  · exact List.pairwise_iff_getElem.mp h i j (by omega) hj (by omega)

theorem rowIns_bis {r : List Int} (h : Srt r) (x : Int) : rowIns r x = if bisR r x = r.length then (r ++ [x], none) else (r.set (bisR r x) x, some (r.getD (bisR r x) 0)) := by
  have sp := bs_spec (p := fun i => decide (x < r.getD i 0)) (n := r.length) (fun i j hij hj hp => by
    have := srt_getD h hij hj
    simp only [decide_eq_true_eq] at hp ⊢
    omega) (lo := 0) (hi := r.length) (Nat.zero_le _) (Nat.le_refl _) (fun i hi => absurd hi (Nat.not_lt_zero _)) (fun i q q' => by omega)
  refine rowIns_at r x (bisR r x) (bisR_le r x) (fun i hi => ?_) (fun hk => ?_)
  · have := sp.1 i hi
    simp only [decide_eq_false_iff_not] at this
    omega
  · have := sp.2 (bisR r x) (Nat.le_refl _) hk
    simpa using this

def insP : List (List Int) → Int → List (List Int)
  | [], x => [[x]]
  | r :: rs, x => match (rowIns r x).2 with
    | none => (rowIns r x).1 :: rs
    | some y => (rowIns r x).1 :: insP rs y

theorem insT_insP : ∀ (T : List (List Int)) (x : Int), (∀ r ∈ T, Srt r) → insT T x = insP T x
  | [], x, _ => rfl
  | r :: T, x, h => by
    unfold insT insP
    rw [rowIns_bis (h r (.head _)) x]
    by_cases e : bisR r x = r.length
    · simp [e]
    · simp only [e, if_false]
      rw [insT_insP T _ (fun q hq => h q (.tail _ hq))]

/-- what stands in a row behind an insertion, and what is pushed out -/
theorem rowIns_mem : ∀ {r : List Int} {x : Int} {e : Int}, e ∈ (rowIns r x).1 → e = x ∨ e ∈ r
  | [], x, e, h => by simp [rowIns] at h; exact .inl h
  | a :: r, x, e, h => by
    unfold rowIns at h
    split at h
    · rcases List.mem_cons.mp h with h | h
      · exact .inl h
      · exact .inr (.tail _ h)
    · rcases List.mem_cons.mp h with h | h
      · exact .inr (by rw [h]; exact .head _)
      · exact (rowIns_mem h).imp id (fun q => .tail _ q)
theorem rowIns_self : ∀ (r : List Int) (x : Int), x ∈ (rowIns r x).1
  | [], x => by simp [rowIns]
  | a :: r, x => by
    unfold rowIns
    split
    · exact .head _
    · exact .tail _ (rowIns_self r x)
theorem rowIns_out : ∀ {r : List Int} {x y : Int}, (rowIns r x).2 = some y → y ∈ r ∧ x < y
  | [], x, y, h => by simp [rowIns] at h
  | a :: r, x, y, h => by
    unfold rowIns at h
    split at h
    · rename_i hx
      simp only [Option.some.injEq] at h
      subst h
      exact ⟨.head _, hx⟩
    · have := rowIns_out h
      exact ⟨.tail _ this.1, this.2⟩
theorem rowIns_srt : ∀ {r : List Int} (x : Int), Srt r → Srt (rowIns r x).1
  | [], x, _ => by simp [rowIns]
  | a :: r, x, h => by
    have h' := List.pairwise_cons.mp h
    unfold rowIns
    split
    · refine List.pairwise_cons.mpr ⟨fun e he => ?_, h'.2⟩
      have := h'.1 e he
      omega
    · refine List.pairwise_cons.mpr ⟨fun e he => ?_, rowIns_srt x h'.2⟩
      rcases rowIns_mem he with rfl | he
      · omega
      · exact h'.1 e he
/-- where something greater stands, something is pushed out, and it is the least such -/
theorem rowIns_some : ∀ {r : List Int} {x e : Int}, Srt r → e ∈ r → x < e → ∃ y, (rowIns r x).2 = some y ∧ y ≤ e
  | a :: r, x, e, h, he, hx => by
    have h' := List.pairwise_cons.mp h
    unfold rowIns
    split
    · refine ⟨a, rfl, ?_⟩
      rcases List.mem_cons.mp he with rfl | he
      · exact Int.le_refl _
      · exact h'.1 e he
    · rcases List.mem_cons.mp he with rfl | he
      · omega
      · exact rowIns_some h'.2 he hx
/-- two in rising order: nothing behind nothing; and what is pushed out rises -/
theorem rowIns_two : ∀ {r : List Int} {y z : Int}, Srt r → y ≤ z →
    ((rowIns r y).2 = none → (rowIns (rowIns r y).1 z).2 = none) ∧ (∀ y' z', (rowIns r y).2 = some y' → (rowIns (rowIns r y).1 z).2 = some z' → y' ≤ z')
  | [], y, z, _, hyz => by
    have : ¬ z < y := by omega
    simp [rowIns, this]
  | a :: r, y, z, h, hyz => by
    have h' := List.pairwise_cons.mp h
    by_cases hy : y < a
    · have hz : ¬ z < y := by omega
      refine ⟨fun q => by simp [rowIns, hy] at q, fun y' z' q1 q2 => ?_⟩
      simp only [rowIns, if_pos hy, Option.some.injEq] at q1
      subst q1
      simp only [rowIns, if_pos hy, if_neg hz] at q2
      exact h'.1 z' (rowIns_out q2).1
    · have hz : ¬ z < a := by omega
      have ih := rowIns_two (r := r) h'.2 hyz
      simp only [rowIns, if_neg hy, if_neg hz]
      exact ih

/-- a word put into one row: the row, and what is pushed out, in order -/
def rowW : List Int → List Int → List Int × List Int
  | r, [] => (r, [])
  | r, x :: w => ((rowW (rowIns r x).1 w).1, (rowIns r x).2.toList ++ (rowW (rowIns r x).1 w).2)

inductive Kn : List Int → List Int → Prop
  | refl (u : List Int) : Kn u u
  | k1 (x y z : Int) : x < y → y ≤ z → Kn [y, z, x] [y, x, z]
  | k2 (x y z : Int) : x ≤ y → y < z → Kn [x, z, y] [z, x, y]

theorem row_k1 : ∀ {r : List Int} {x y z : Int}, Srt r → x < y → y ≤ z → (rowW r [y, z, x]).1 = (rowW r [y, x, z]).1 ∧ Kn (rowW r [y, z, x]).2 (rowW r [y, x, z]).2
  | [], x, y, z, _, hxy, hyz => by
    have h1 : ¬ z < y := by omega
    have h2 : ¬ z < x := by omega
    simp [rowW, rowIns, hxy, h1, h2]
    exact .refl _
  | a :: r, x, y, z, h, hxy, hyz => by
    have h' := List.pairwise_cons.mp h
    by_cases hy : y < a
    · have h1 : ¬ z < y := by omega
      have h2 : ¬ z < x := by omega
      simp only [rowW, rowIns, if_pos hy, if_neg h1, if_pos hxy, if_neg h2, Option.toList]
      refine ⟨by trivial, ?_⟩
      cases e : (rowIns r z).2 with
      | none => exact .refl _
      | some z' =>
        exact .k1 y a z' hy (h'.1 z' (rowIns_out e).1)
    · have hz : ¬ z < a := by omega
      by_cases hx : x < a
      · have h2 : ¬ z < x := by omega
        simp only [rowW, rowIns, if_neg hy, if_neg hz, if_pos hx, if_neg h2, Option.toList]
        refine ⟨by trivial, ?_⟩
        have two := rowIns_two (r := r) h'.2 hyz
        cases e1 : (rowIns r y).2 with
        | none =>
          rw [two.1 e1]
          exact .refl _
        | some y' =>
          cases e2 : (rowIns (rowIns r y).1 z).2 with
          | none => exact .refl _
          | some z' =>
            have := (rowIns_out e1).2
            exact .k1 a y' z' (by omega) (two.2 y' z' e1 e2)
      · have ih := row_k1 (r := r) h'.2 hxy hyz
        simp only [rowW, rowIns, if_neg hy, if_neg hz, if_neg hx] at ih ⊢
        exact ⟨by rw [ih.1], ih.2⟩

theorem row_k2 : ∀ {r : List Int} {x y z : Int}, Srt r → x ≤ y → y < z → (rowW r [x, z, y]).1 = (rowW r [z, x, y]).1 ∧ (Kn (rowW r [x, z, y]).2 (rowW r [z, x, y]).2)
  | [], x, y, z, _, hxy, hyz => by
    have h1 : ¬ z < x := by omega
    have h2 : x < z := by omega
    have h3 : ¬ y < x := by omega
    simp [rowW, rowIns, h1, h2, h3, hyz]
    exact .refl _
  | a :: r, x, y, z, h, hxy, hyz => by
    have h' := List.pairwise_cons.mp h
    have hzx : ¬ z < x := by omega
    have hyx : ¬ y < x := by omega
    have hxz : x < z := by omega
    by_cases hz : z < a
    · have hx : x < a := by omega
      cases r with
      | nil =>
        simp [rowW, rowIns, hz, hx, hzx, hyx, hxz, hyz]
        exact .refl _
      | cons b r =>
        have hab := h'.1 b (.head _)
        have hzb : z < b := by omega
        have hyb : y < b := by omega
        simp only [rowW, rowIns, if_pos hz, if_pos hx, if_neg hzx, if_neg hyx, if_pos hxz, if_pos hyz, if_pos hzb, if_pos hyb, Option.toList]
        exact ⟨by trivial, .k1 z a b hz hab⟩
    · by_cases hx : x < a
      · simp only [rowW, rowIns, if_neg hz, if_pos hx, if_neg hzx, if_neg hyx, Option.toList]
        refine ⟨by trivial, ?_⟩
        obtain ⟨y', ey, hy'⟩ := rowIns_some (rowIns_srt z h'.2) (rowIns_self r z) hyz
        rw [ey]
        cases e : (rowIns r z).2 with
        | none => exact .refl _
        | some z' =>
          have h1 := rowIns_out e
          have h2 := rowIns_out ey
          refine .k2 a y' z' ?_ (by omega)
          rcases rowIns_mem h2.1 with q | q
          · omega
          · exact h'.1 y' q
      · have hy : ¬ y < a := by omega
        have ih := row_k2 (r := r) h'.2 hxy hyz
        simp only [rowW, rowIns, if_neg hy, if_neg hz, if_neg hx] at ih ⊢
        exact ⟨by rw [ih.1], ih.2⟩

theorem foldl_row : ∀ (w : List Int) (r : List Int) (T : List (List Int)), w.foldl insP (r :: T) = (rowW r w).1 :: (rowW r w).2.foldl insP T
  | [], r, T => rfl
  | x :: w, r, T => by
    simp only [List.foldl_cons, rowW]
    conv => lhs; arg 2; unfold insP
    cases e : (rowIns r x).2 with
    | none => simp [foldl_row w]
    | some y => simp [foldl_row w]

theorem kn_fold : ∀ (T : List (List Int)) {u v : List Int}, (∀ r ∈ T, Srt r) → Kn u v → u.foldl insP T = v.foldl insP T
  | _, _, _, _, .refl u => rfl
  | [], _, _, _, .k1 x y z h1 h2 => by
    have a1 : ¬ z < y := by omega
    have a2 : ¬ z < x := by omega
    simp [insP, rowIns, h1, a1, a2]
  | [], _, _, _, .k2 x y z h1 h2 => by
    have a1 : ¬ z < x := by omega
    have a2 : x < z := by omega
    have a3 : ¬ y < x := by omega
    simp [insP, rowIns, a1, a2, a3, h2]
  | r :: T, _, _, h, .k1 x y z h1 h2 => by
    rw [foldl_row, foldl_row]
    have k := row_k1 (h r (.head _)) h1 h2
    rw [k.1, kn_fold T (fun q hq => h q (.tail _ hq)) k.2]
  | r :: T, _, _, h, .k2 x y z h1 h2 => by
    rw [foldl_row, foldl_row]
    have k := row_k2 (h r (.head _)) h1 h2
    rw [k.1, kn_fold T (fun q hq => h q (.tail _ hq)) k.2]

theorem insP_srt : ∀ {T : List (List Int)} (x : Int), (∀ r ∈ T, Srt r) → ∀ r ∈ insP T x, Srt r
  | [], x, _ => by simp [insP]
  | r :: T, x, h => by
    have h1 := rowIns_srt x (h r (.head _))
    unfold insP
    intro q hq
    split at hq
    · rcases List.mem_cons.mp hq with rfl | hq
      · exact h1
      · exact h q (.tail _ hq)
    · rcases List.mem_cons.mp hq with rfl | hq
      · exact h1
      · exact insP_srt _ (fun q hq => h q (.tail _ hq)) q hq

theorem fold_srt : ∀ (w : List Int) {T : List (List Int)}, (∀ r ∈ T, Srt r) → (∀ r ∈ w.foldl insP T, Srt r) ∧ w.foldl insT T = w.foldl insP T
  | [], T, h => ⟨h, rfl⟩
  | x :: w, T, h => by
    simp only [List.foldl_cons]
    rw [insT_insP T x h]
    exact fold_srt w (insP_srt x h)

theorem fold_kn (u v p q : List Int) (h : Kn p q) : (u ++ p ++ v).foldl insT [] = (u ++ q ++ v).foldl insT [] := by
  rw [(fold_srt _ (by simp)).2, (fold_srt _ (by simp)).2]
  simp only [List.foldl_append]
  rw [kn_fold _ (fold_srt u (by simp)).1 h]

theorem three_split (ns : List Int) (i : Nat) (a b c : Int) (h0 : ns[i]? = some a) (h1 : ns[i+1]? = some b) (h2 : ns[i+2]? = some c) : ns = ns.take i ++ [a, b, c] ++ ns.drop (i + 3) := by
  have l2 := (List.getElem?_eq_some_iff.mp h2).1
  have e0 : ns.drop i = a :: b :: c :: ns.drop (i + 3) := by
    rw [List.drop_eq_getElem_cons (by omega), List.drop_eq_getElem_cons (by omega), List.drop_eq_getElem_cons (by omega)]
    have q0 := (List.getElem?_eq_some_iff.mp h0).2
    have q1 := (List.getElem?_eq_some_iff.mp h1).2
    have q2 := (List.getElem?_eq_some_iff.mp h2).2
    rw [q0, q1, q2]
  have := List.take_append_drop i ns
  rw [e0] at this
  simpa using this.symm

theorem knuth1 (ns : List Int) (i : Nat) (a b c : Int) (h0 : ns[i]? = some a) (h1 : ns[i+1]? = some b) (h2 : ns[i+2]? = some c) (hm : min b c < a) (hM : a ≤ max b c) :
    (ns.take i ++ [a, c, b] ++ ns.drop (i + 3)).foldl insT [] = ns.foldl insT [] := by
  conv => rhs; rw [three_split ns i a b c h0 h1 h2]
  by_cases hbc : b < c
  · exact fold_kn _ _ _ _ (.k1 b a c (by omega) (by omega))
  · exact (fold_kn _ _ _ _ (.k1 c a b (by omega) (by omega))).symm
theorem knuth2 (ns : List Int) (i : Nat) (a b c : Int) (h0 : ns[i]? = some a) (h1 : ns[i+1]? = some b) (h2 : ns[i+2]? = some c) (hm : min a b ≤ c) (hM : c < max a b) :
    (ns.take i ++ [b, a, c] ++ ns.drop (i + 3)).foldl insT [] = ns.foldl insT [] := by
  conv => rhs; rw [three_split ns i a b c h0 h1 h2]
  by_cases hab : a < b
  · exact (fold_kn _ _ _ _ (.k2 a c b (by omega) (by omega))).symm
  · exact fold_kn _ _ _ _ (.k2 b c a (by omega) (by omega))
end Mine
namespace Mine
/-- bisect_left -/
def bisLt (r : List Int) (x : Int) : Nat := bs (fun i => !decide (r.getD i 0 < x)) 0 r.length
theorem bisLt_le (r : List Int) (x : Int) : bisLt r x ≤ r.length := (bs_le (Nat.zero_le _)).2
theorem bisLt_sides {r : List Int} (h : Srt r) (y : Int) : (∀ i, i < bisLt r y → r.getD i 0 < y) ∧ (∀ i, bisLt r y ≤ i → i < r.length → y ≤ r.getD i 0) := by
  have hs := bs_spec (p := fun i => !decide (r.getD i 0 < y)) (n := r.length) (fun i j hij hj hp => by
    have := srt_getD h hij hj
    simp only [Bool.not_eq_true', decide_eq_false_iff_not] at hp ⊢
    omega) (lo := 0) (hi := r.length) (Nat.zero_le _) (Nat.le_refl _) (fun i hi => absurd hi (Nat.not_lt_zero _)) (fun i h1 h2 => by omega)
  refine ⟨fun i hi => ?_, fun i hi hl => ?_⟩
  · have := hs.1 i hi
    simp only [Bool.not_eq_false', decide_eq_true_eq] at this
    omega
  · have := hs.2 i hi hl
    simp only [Bool.not_eq_true', decide_eq_false_iff_not] at this
    omega
/-- the table's turn -/
def tabStep (T : List Int) (h : Int) : List Int := if bisLt T h = T.length then T ++ [h] else T.set (bisLt T h) h
def tabAll (hs : List Int) : List Int := hs.foldl tabStep []

theorem srt_of_getD {r : List Int} (h : ∀ i j, i ≤ j → j < r.length → r.getD i 0 ≤ r.getD j 0) : Srt r := by
  refine List.pairwise_iff_getElem.mpr fun i j hi hj hij => ?_
  have := h i j (Nat.le_of_lt hij) hj
  simpa [List.getD, List.getElem?_eq_getElem hi, List.getElem?_eq_getElem hj] using this

theorem tabStep_getD {T : List Int} {h : Int} (k : Nat) : (tabStep T h).getD k 0 = if k = bisLt T h then h else T.getD k 0 := by
  have hle := bisLt_le T h
  unfold tabStep
  split
  · rename_i e
    rw [e]
    by_cases q : k = T.length
    · rw [if_pos q, q, List.getD, List.getElem?_append_right (Nat.le_refl _)]; simp
    · rw [if_neg q]
      by_cases q2 : k < T.length
      · rw [List.getD, List.getD, List.getElem?_append_left q2]
      · rw [List.getD, List.getD, List.getElem?_eq_none (by simp; omega), List.getElem?_eq_none (by omega)]
  · rename_i e
    rw [List.getD, List.getElem?_set]
    by_cases q : bisLt T h = k
    · rw [if_pos q, if_pos (by omega), if_pos q.symm]; rfl
    · rw [if_neg q, if_neg (Ne.symm q)]; rfl
theorem tabStep_len {T : List Int} {h : Int} : (tabStep T h).length = max T.length (bisLt T h + 1) := by
  have hle := bisLt_le T h
  unfold tabStep
  split
  · rw [List.length_append]; simp; omega
  · rw [List.length_set]; omega

theorem tabStep_srt {T : List Int} {h : Int} (hT : Srt T) : Srt (tabStep T h) := by
  have s := bisLt_sides hT h
  have hle := bisLt_le T h
  refine srt_of_getD fun i j hij hj => ?_
  rw [tabStep_len] at hj
  rw [tabStep_getD, tabStep_getD]
  by_cases i1 : i = bisLt T h
  · rw [if_pos i1]
    by_cases j1 : j = bisLt T h
    · rw [if_pos j1]; exact Int.le_refl _
    · rw [if_neg j1]; exact s.2 j (by omega) (by omega)
  · rw [if_neg i1]
    by_cases j1 : j = bisLt T h
    · rw [if_pos j1]; exact Int.le_of_lt (s.1 i (by omega))
    · rw [if_neg j1]; exact srt_getD hT hij (by omega)

/-- what the sizes hold -/
def SizeOk (bx : List (Int × Int)) (ss : List Int) (i : Nat) : Prop :=
  (∀ j, j < i → (bx.getD j (0, 0)).1 < (bx.getD i (0, 0)).1 → (bx.getD j (0, 0)).2 < (bx.getD i (0, 0)).2 → ss.getD j 0 + 1 ≤ ss.getD i 0) ∧ 1 ≤ ss.getD i 0 ∧
  (ss.getD i 0 = 1 ∨ ∃ j, j < i ∧ (bx.getD j (0, 0)).1 < (bx.getD i (0, 0)).1 ∧ (bx.getD j (0, 0)).2 < (bx.getD i (0, 0)).2 ∧ ss.getD i 0 = ss.getD j 0 + 1)
/-- rising widths, of equal widths falling heights -/
def BoxSrt (bx : List (Int × Int)) : Prop := ∀ i j, i < j → j < bx.length → (bx.getD i (0, 0)).1 < (bx.getD j (0, 0)).1 ∨ ((bx.getD i (0, 0)).1 = (bx.getD j (0, 0)).1 ∧ (bx.getD j (0, 0)).2 ≤ (bx.getD i (0, 0)).2)

theorem patience {bx : List (Int × Int)} {ss : List Int} (hb : BoxSrt bx) (hs : ∀ i, i < bx.length → SizeOk bx ss i) : ∀ i, i ≤ bx.length →
    Srt (tabAll ((bx.take i).map (·.2))) ∧
    (∀ k, k < (tabAll ((bx.take i).map (·.2))).length → ∃ j, j < i ∧ ss.getD j 0 = (k : Int) + 1 ∧ (bx.getD j (0, 0)).2 = (tabAll ((bx.take i).map (·.2))).getD k 0) ∧
    (∀ j, j < i → ss.getD j 0 ≤ ((tabAll ((bx.take i).map (·.2))).length : Int) ∧ (tabAll ((bx.take i).map (·.2))).getD (ss.getD j 0 - 1).toNat 0 ≤ (bx.getD j (0, 0)).2)
  | 0, _ => by
    refine ⟨by simp [tabAll], fun k hk => ?_, fun j hj => absurd hj (Nat.not_lt_zero _)⟩
    simp [tabAll] at hk
  | i + 1, hi => by
    obtain ⟨h1, h2, h3⟩ := patience hb hs i (by omega)
    have hil : i < bx.length := by omega
    have e : tabAll ((bx.take (i + 1)).map (·.2)) = tabStep (tabAll ((bx.take i).map (·.2))) (bx.getD i (0, 0)).2 := by
      unfold tabAll
      rw [List.take_succ_eq_append_getElem hil, List.map_append, List.foldl_append]
      simp [List.getD, List.getElem?_eq_getElem hil]
    rw [e]
    obtain ⟨a1, a2, a3⟩ := hs i hil
    generalize tabAll ((bx.take i).map (·.2)) = T at h1 h2 h3
    generalize hh : (bx.getD i (0, 0)).2 = h at *
    have s := bisLt_sides h1 h
    have hle := bisLt_le T h
    have wlt : ∀ j, j < i → (bx.getD j (0, 0)).2 < h → (bx.getD j (0, 0)).1 < (bx.getD i (0, 0)).1 := fun j hj q => by
      rcases hb j i hj hil with z | ⟨_, z⟩
      · exact z
      · rw [hh] at z; omega
    -- the place found is the size less one
    have hpos : ss.getD i 0 = (bisLt T h : Int) + 1 := by
      have lo : (bisLt T h : Int) + 1 ≤ ss.getD i 0 := by
        by_cases z : bisLt T h = 0
        · rw [z]; omega
        · obtain ⟨j, hj, hsj, hhj⟩ := h2 (bisLt T h - 1) (by omega)
          have q : (bx.getD j (0, 0)).2 < h := by rw [hhj]; exact s.1 _ (by omega)
          have := a1 j hj (wlt j hj q) q
          omega
      rcases a3 with z | ⟨j, hj, _, q, z⟩
      · omega
      · refine Int.le_antisymm (Int.not_lt.mp fun c => ?_) lo
        obtain ⟨b1, b2⟩ := h3 j hj
        have hsj : (bisLt T h : Int) + 1 ≤ ss.getD j 0 := by omega
        have := s.2 (ss.getD j 0 - 1).toNat (by omega) (by omega)
        omega
    refine ⟨tabStep_srt h1, fun k hk => ?_, fun j hj => ?_⟩
    · rw [tabStep_getD]
      by_cases z : k = bisLt T h
      · exact ⟨i, by omega, by rw [hpos, z], by rw [if_pos z, hh]⟩
      · rw [tabStep_len] at hk
        obtain ⟨j, hj, q1, q2⟩ := h2 k (by omega)
        exact ⟨j, by omega, q1, by rw [if_neg z]; exact q2⟩
    · rw [tabStep_len, tabStep_getD]
      by_cases z : j < i
      · obtain ⟨b1, b2⟩ := h3 j z
        refine ⟨by omega, ?_⟩
        by_cases z2 : (ss.getD j 0 - 1).toNat = bisLt T h
        · rw [if_pos z2]
          by_cases z3 : bisLt T h < T.length
          · have := s.2 _ (Nat.le_refl _) z3
            rw [z2] at b2; omega
          · have := (hs j (by omega)).2.1
            omega
        · rw [if_neg z2]; exact b2
      · obtain rfl : j = i := by omega
        rw [hpos]
        refine ⟨by omega, ?_⟩
        rw [if_pos (by omega), hh]
        exact Int.le_refl _

theorem patience_len {bx : List (Int × Int)} {ss : List Int} {M : Int} (hb : BoxSrt bx) (hl : ss.length = bx.length) (hs : ∀ i, i < bx.length → SizeOk bx ss i) (hM : M = 0 ∨ M ∈ ss) (h0 : 0 ≤ M) (hall : ∀ x ∈ ss, x ≤ M) :
    ((tabAll (bx.map (·.2))).length : Int) = M := by
  obtain ⟨_, h2, h3⟩ := patience hb hs bx.length (Nat.le_refl _)
  rw [List.take_length] at h2 h3
  refine Int.le_antisymm (Int.not_lt.mp fun c => ?_) ?_
  · obtain ⟨j, hj, q, _⟩ := h2 ((tabAll (bx.map (·.2))).length - 1) (by omega)
    have hm : ss.getD j 0 ∈ ss := by
      rw [List.getD, List.getElem?_eq_getElem (by omega)]; simp
    have := hall _ hm
    omega
  · rcases hM with z | z
    · omega
    · obtain ⟨j, hj, rfl⟩ := List.getElem_of_mem z
      have := (h3 j (by omega)).1
      rw [List.getD, List.getElem?_eq_getElem hj] at this
      exact this
end Mine
namespace Mine
/-- the tree of questions, answered by the keys κ -/
def Ok {α : Type} (n : Nat) (κ : Nat → Int) : KasT α → (α → Prop) → Prop
  | .ret a, P => P a
  | .ask i j k, P => i < n ∧ j < n ∧ Ok n κ (k (decide (κ i < κ j))) P
theorem Ok.bind {α β : Type} {n : Nat} {κ : Nat → Int} {f : α → KasT β} {P : β → Prop} : ∀ (t : KasT α), Ok n κ t (fun a => Ok n κ (f a) P) → Ok n κ (t.bind f) P
  | .ret _, h => h
  | .ask _ _ k, h => ⟨h.1, h.2.1, Ok.bind (k _) h.2.2⟩
theorem Ok.mono {α : Type} {n : Nat} {κ : Nat → Int} {P P' : α → Prop} (hp : ∀ a, P a → P' a) : ∀ (t : KasT α), Ok n κ t P → Ok n κ t P'
  | .ret a, h => hp a h
  | .ask _ _ k, h => ⟨h.1, h.2.1, Ok.mono hp (k _) h.2.2⟩
theorem Ok.wp {α : Type} {n : Nat} {κ : Nat → Int} {cmp : Nat → Nat → (Bool → Shared → Prop) → Shared → Prop} {Inv : Shared → Prop} {P : α → Prop} {Q : α → Shared → Prop}
    (hc : ∀ i j C s, i < n → j < n → Inv s → (∀ s', Inv s' → C (decide (κ i < κ j)) s') → cmp i j C s) (hq : ∀ a s, P a → Inv s → Q a s) : ∀ (t : KasT α) (s : Shared), Ok n κ t P → Inv s → t.kasWp cmp Q s
  | .ret a, s, h, hs => hq a s h hs
  | .ask i j k, s, h, hs => hc i j _ s h.1 h.2.1 hs fun s' hs' => Ok.wp hc hq (k _) s' h.2.2 hs'

def V (κ : Nat → Int) (p : Array Nat) (i : Nat) : Int := κ (p.getD i 0)
theorem V_congr {κ : Nat → Int} {p q : Array Nat} {i j : Nat} (h : p[i]? = q[j]?) : V κ p i = V κ q j := by
  unfold V; rw [Array.getD_eq_getD_getElem?, Array.getD_eq_getD_getElem?, h]
/-- p stands for the n things in some order -/
def Pm (n : Nat) (p : Array Nat) : Prop := p.Perm (List.range n).toArray
theorem Pm.size {n : Nat} {p : Array Nat} (h : Pm n p) : p.size = n := by have := h.size_eq; simpa using this
theorem Pm.lt {n : Nat} {p : Array Nat} (h : Pm n p) (hn : 1 ≤ n) (i : Nat) : p.getD i 0 < n := by
  by_cases hi : i < p.size
  · have e : p.getD i 0 = p[i] := by simp [Array.getD, hi]
    have hm : p[i] ∈ (List.range n) := by
      have := (Array.perm_iff_toList_perm.mp h).mem_iff (a := p[i])
      exact this.mp (by simp)
    rw [e]; exact List.mem_range.mp hm
  · have e : p.getD i 0 = 0 := by simp [Array.getD, hi]
    rw [e]; omega
theorem Pm.rev {n : Nat} {p : Array Nat} (h : Pm n p) (i j : Nat) : Pm n (kas_rev p i j) := (mirror_perm _ _ _ _).trans h
theorem Pm.bub {n : Nat} {p : Array Nat} (h : Pm n p) (i j : Nat) : Pm n (bubble p i j) := (bubble_perm _ _ _).trans h
theorem V_rev {κ : Nat → Int} {p : Array Nat} {i j : Nat} (hj : j ≤ p.size) (k : Nat) : V κ (kas_rev p i j) k = if i ≤ k ∧ k < j then V κ p (i + j - 1 - k) else V κ p k := by
  split
  · rename_i h
    exact V_congr (by unfold kas_rev; rw [getElem?_mirror_all hj, if_pos h])
  · rename_i h
    exact V_congr (by unfold kas_rev; rw [getElem?_mirror_all hj, if_neg h])
theorem V_bub {κ : Nat → Int} {p : Array Nat} {src d : Nat} (hs : src < p.size) (hd : d ≤ src) (k : Nat) : V κ (bubble p src d) k = if k = src - d then V κ p src else if src - d < k ∧ k ≤ src then V κ p (k - 1) else V κ p k := by
  have e := getElem?_bubble hs d hd k
  split
  · rename_i h
    rw [if_pos h] at e; exact V_congr e
  · rename_i h
    rw [if_neg h] at e
    split
    · rename_i h2
      rw [if_pos h2] at e; exact V_congr e
    · rename_i h2
      rw [if_neg h2] at e; exact V_congr e
/-- sorted up to m -/
def SP (κ : Nat → Int) (p : Array Nat) (m : Nat) : Prop := ∀ i j, i ≤ j → j < m → V κ p i ≤ V κ p j
/-- falling up to m -/
def DP (κ : Nat → Int) (p : Array Nat) (m : Nat) : Prop := ∀ i j, i ≤ j → j < m → V κ p j ≤ V κ p i

section
variable {n : Nat} {κ : Nat → Int} (hn : 1 ≤ n)
include hn
theorem ok_asc {p : Array Nat} (hp : Pm n p) : ∀ (f a : Nat), 1 ≤ a → SP κ p a → Ok n κ (kas_asc p f a) (fun m => SP κ p m ∧ a ≤ m ∧ m ≤ a + f ∧ (m = a + f ∨ V κ p m < V κ p (m - 1)))
  | 0, a, _, hs => ⟨hs, Nat.le_refl _, Nat.le_refl _, .inl rfl⟩
  | f + 1, a, ha, hs => by
    refine ⟨hp.lt hn _, hp.lt hn _, ?_⟩
    by_cases c : κ (p.getD a 0) < κ (p.getD (a - 1) 0)
    · simp only [decide_eq_true c, if_true]
      exact ⟨hs, Nat.le_refl _, by omega, .inr c⟩
    · simp only [decide_eq_false c, Bool.false_eq_true, if_false]
      have hs' : SP κ p (a + 1) := fun i j hij hj => by
        by_cases q : j < a
        · exact hs i j hij q
        · obtain rfl : j = a := by omega
          by_cases q2 : i = j
          · rw [q2]; exact Int.le_refl _
          · have h1 := hs i (j - 1) (by omega) (by omega)
            have h2 : V κ p (j - 1) ≤ V κ p j := by unfold V; omega
            omega
      refine Ok.mono (fun m h => ?_) _ (ok_asc hp f (a + 1) (by omega) hs')
      obtain ⟨h1, h2, h3, h4⟩ := h
      exact ⟨h1, by omega, by omega, by rcases h4 with h4 | h4; exact .inl (by omega); exact .inr h4⟩

theorem ok_desc : ∀ (f : Nat) (p : Array Nat) (a q : Nat), Pm n p → 1 ≤ a → a + f ≤ n → q + 1 ≤ a → DP κ p a → (∀ k, a - (q + 1) ≤ k → k < a → V κ p k = V κ p (a - 1)) →
    Ok n κ (kas_desc f p a q) (fun r => Pm n r.1 ∧ 1 ≤ r.2.1 ∧ r.2.1 ≤ a + f ∧ r.2.2 + 1 ≤ r.2.1 ∧ DP κ r.1 r.2.1 ∧ ∀ k, r.2.1 - (r.2.2 + 1) ≤ k → k < r.2.1 → V κ r.1 k = V κ r.1 (r.2.1 - 1))
  | 0, p, a, q, hp, ha, haf, hqa, hd, he => ⟨hp, ha, Nat.le_refl _, hqa, hd, he⟩
  | f + 1, p, a, q, hp, ha, haf, hqa, hd, he => by
    refine ⟨hp.lt hn _, hp.lt hn _, ?_⟩
    have ext : V κ p a ≤ V κ p (a - 1) → DP κ p (a + 1) := fun h i j hij hj => by
      by_cases z : j < a
      · exact hd i j hij z
      · obtain rfl : j = a := by omega
        by_cases z2 : i = j
        · rw [z2]; exact Int.le_refl _
        · have := hd i (j - 1) (by omega) (by omega)
          omega
    by_cases c : κ (p.getD a 0) < κ (p.getD (a - 1) 0)
    · simp only [decide_eq_true c, if_true]
      have hlt : V κ p a < V κ p (a - 1) := c
      have hd1 := ext (by omega)
      split
      · have hv : ∀ k, V κ (kas_rev p (a - (q + 1)) a) k = V κ p k := fun k => by
          rw [V_rev (by rw [hp.size]; omega)]
          split
          · rename_i h
            rw [he _ (by omega) (by omega), he k (by omega) (by omega)]
          · rfl
        refine Ok.mono (fun r h => ?_) _ (ok_desc f _ (a + 1) 0 (hp.rev _ _) (by omega) (by omega) (by omega) (fun i j hij hj => by rw [hv, hv]; exact hd1 i j hij hj) (fun k h1 h2 => by rw [show k = a + 1 - 1 by omega]))
        exact ⟨h.1, h.2.1, by have := h.2.2.1; omega, h.2.2.2⟩
      · refine Ok.mono (fun r h => ?_) _ (ok_desc f p (a + 1) 0 hp (by omega) (by omega) (by omega) hd1 (fun k h1 h2 => by rw [show k = a + 1 - 1 by omega]))
        exact ⟨h.1, h.2.1, by have := h.2.2.1; omega, h.2.2.2⟩
    · simp only [decide_eq_false c, Bool.false_eq_true, if_false]
      refine ⟨hp.lt hn _, hp.lt hn _, ?_⟩
      by_cases d : κ (p.getD (a - 1) 0) < κ (p.getD a 0)
      · simp only [decide_eq_true d, if_true]
        exact ⟨hp, ha, by show a ≤ a + (f + 1); omega, hqa, hd, he⟩
      · simp only [decide_eq_false d, Bool.false_eq_true, if_false]
        have heq : V κ p a = V κ p (a - 1) := by unfold V; omega
        refine Ok.mono (fun r h => ?_) _ (ok_desc f p (a + 1) (q + 1) hp (by omega) (by omega) (by omega) (ext (by omega)) (fun k h1 h2 => ?_))
        · exact ⟨h.1, h.2.1, by have := h.2.2.1; omega, h.2.2.2⟩
        · rw [show a + 1 - 1 = a by omega]
          by_cases z : k < a
          · rw [he k (by omega) z, heq]
          · rw [show k = a by omega]

theorem ok_tail3 {p : Array Nat} {a : Nat} (hp : Pm n p) (ha : 1 ≤ a) (han : a ≤ n) (hd : DP κ p a) : Ok n κ (kas_tail3 a n p) (fun r => Pm n r.2 ∧ 1 ≤ r.1 ∧ r.1 ≤ n ∧ SP κ r.2 r.1) := by
  have hs : SP κ (kas_rev p 0 a) a := fun i j hij hj => by
    rw [V_rev (by rw [hp.size]; exact han), V_rev (by rw [hp.size]; exact han), if_pos (by omega), if_pos (by omega)]
    exact hd _ _ (by omega) (by omega)
  refine Ok.bind _ (Ok.mono (fun m h => ?_) _ (ok_asc hn (hp.rev 0 a) (n - a) a ha hs))
  exact ⟨hp.rev 0 a, by omega, by omega, h.1⟩

theorem ok_descPart {p : Array Nat} {a : Nat} (hp : Pm n p) (ha : 1 ≤ a) (han : a + 1 ≤ n) (hd : DP κ p (a + 1)) : Ok n κ (kas_descPart a n p) (fun r => Pm n r.2 ∧ 1 ≤ r.1 ∧ r.1 ≤ n ∧ SP κ r.2 r.1) := by
  refine Ok.bind _ (Ok.mono (fun r h => ?_) _ (ok_desc hn (n - (a + 1)) p (a + 1) 0 hp (by omega) (by omega) (by omega) hd (fun k h1 h2 => by rw [show k = a + 1 - 1 by omega])))
  obtain ⟨h1, h2, h3, h4, h5, h6⟩ := h
  split
  · have hv : ∀ k, V κ (kas_rev r.1 (r.2.1 - (r.2.2 + 1)) r.2.1) k = V κ r.1 k := fun k => by
      rw [V_rev (by rw [h1.size]; omega)]
      split
      · rename_i h
        rw [h6 _ (by omega) (by omega), h6 k (by omega) (by omega)]
      · rfl
    exact ok_tail3 hn (h1.rev _ _) h2 (by omega) (fun i j hij hj => by rw [hv, hv]; exact h5 i j hij hj)
  · exact ok_tail3 hn h1 h2 (by omega) h5

theorem ok_count {p : Array Nat} (hp : Pm n p) : Ok n κ (kas_count n p) (fun r => Pm n r.2 ∧ 1 ≤ r.1 ∧ r.1 ≤ n ∧ SP κ r.2 r.1) := by
  refine Ok.bind _ (Ok.mono (fun m h => ?_) _ (ok_asc hn hp (n - 1) 1 (Nat.le_refl _) (fun i j hij hj => by rw [show i = j by omega]; exact Int.le_refl _)))
  obtain ⟨h1, h2, h3, h4⟩ := h
  by_cases e : m = n
  · rw [if_pos (by simpa using e)]
    exact ⟨hp, h2, by omega, h1⟩
  · rw [if_neg (by simpa using e)]
    have hlt : V κ p m < V κ p (m - 1) := by rcases h4 with h4 | h4; omega; exact h4
    by_cases e1 : m > 1
    · rw [if_pos e1]
      refine ⟨hp.lt hn _, hp.lt hn _, ?_⟩
      by_cases c : κ (p.getD 0 0) < κ (p.getD (m - 1) 0)
      · simp only [decide_eq_true c, if_true]
        exact ⟨hp, h2, by omega, h1⟩
      · simp only [decide_eq_false c, Bool.false_eq_true, if_false]
        have hall : ∀ k, k < m → V κ p k = V κ p (m - 1) := fun k hk => by
          have a1 := h1 0 k (by omega) hk
          have a2 := h1 k (m - 1) (by omega) (by omega)
          have a3 : V κ p (m - 1) ≤ V κ p 0 := by unfold V; omega
          omega
        have hv : ∀ k, V κ (kas_rev p 0 m) k = V κ p k := fun k => by
          rw [V_rev (by rw [hp.size]; omega)]
          split
          · rename_i h
            rw [hall _ (by omega), hall k (by omega)]
          · rfl
        refine ok_descPart hn (hp.rev 0 m) h2 (by omega) (fun i j hij hj => ?_)
        rw [hv, hv]
        by_cases z : j < m
        · rw [hall i (by omega), hall j z]; exact Int.le_refl _
        · rw [show j = m by omega]
          by_cases z2 : i < m
          · rw [hall i z2]; omega
          · rw [show i = m by omega]; exact Int.le_refl _
    · rw [if_neg e1]
      obtain rfl : m = 1 := by omega
      refine ok_descPart hn hp (Nat.le_refl _) (by omega) (fun i j hij hj => ?_)
      by_cases z : i = j
      · rw [z]; exact Int.le_refl _
      · rw [show i = 0 by omega, show j = 1 by omega]
        have : V κ p 1 < V κ p 0 := hlt
        omega

theorem ok_place {p : Array Nat} {k : Nat} (hp : Pm n p) (hs : SP κ p k) : ∀ (f l r : Nat), l ≤ r → r ≤ k → r - l ≤ f → (∀ i, i < l → V κ p i ≤ V κ p k) → (∀ i, r ≤ i → i < k → V κ p k < V κ p i) →
    Ok n κ (kas_place p k f l r) (fun l => l ≤ k ∧ (∀ i, i < l → V κ p i ≤ V κ p k) ∧ (∀ i, l ≤ i → i < k → V κ p k < V κ p i))
  | 0, l, r, hl, hr, hf, h1, h2 => ⟨by omega, h1, fun i hi hk => h2 i (by omega) hk⟩
  | f + 1, l, r, hl, hr, hf, h1, h2 => by
    unfold kas_place
    by_cases e : l ≥ r
    · rw [if_pos e]
      exact ⟨by omega, h1, fun i hi hk => h2 i (by omega) hk⟩
    · rw [if_neg e]
      refine ⟨hp.lt hn _, hp.lt hn _, ?_⟩
      by_cases c : κ (p.getD k 0) < κ (p.getD ((l + r) / 2) 0)
      · simp only [decide_eq_true c, if_true]
        refine ok_place hp hs f l ((l + r) / 2) (by omega) (by omega) (by omega) h1 (fun i hi hk => ?_)
        have a1 := hs ((l + r) / 2) i hi hk
        have a2 : V κ p k < V κ p ((l + r) / 2) := c
        omega
      · simp only [decide_eq_false c, Bool.false_eq_true, if_false]
        refine ok_place hp hs f ((l + r) / 2 + 1) r (by omega) hr (by omega) (fun i hi => ?_) h2
        have a1 := hs i ((l + r) / 2) (by omega) (by omega)
        have a2 : V κ p ((l + r) / 2) ≤ V κ p k := by unfold V; omega
        omega

theorem ok_bin : ∀ (f : Nat) (p : Array Nat) (k : Nat), Pm n p → k + f = n → SP κ p k → Ok n κ (kas_bin f p k) (fun p' => Pm n p' ∧ SP κ p' n)
  | 0, p, k, hp, hk, hs => ⟨hp, by rw [show n = k by omega]; exact hs⟩
  | f + 1, p, k, hp, hk, hs => by
    refine Ok.bind _ (Ok.mono (fun l h => ?_) _ (ok_place hn hp hs k 0 k (Nat.zero_le _) (Nat.le_refl _) (by omega) (fun i hi => absurd hi (Nat.not_lt_zero _)) (fun i h1 h2 => by omega)))
    obtain ⟨h1, h2, h3⟩ := h
    refine ok_bin f _ (k + 1) (hp.bub _ _) (by omega) (fun i j hij hj => ?_)
    have hsz : k < p.size := by rw [hp.size]; omega
    rw [V_bub hsz (by omega), V_bub hsz (by omega)]
    have e : k - (k - l) = l := by omega
    rw [e]
    by_cases i1 : i = l
    · rw [if_pos i1]
      by_cases j1 : j = l
      · rw [if_pos j1]; exact Int.le_refl _
      · rw [if_neg j1, if_pos (by omega)]
        have := h3 (j - 1) (by omega) (by omega)
        omega
    · rw [if_neg i1]
      by_cases i2 : l < i ∧ i ≤ k
      · rw [if_pos i2]
        rw [if_neg (by omega), if_pos (by omega)]
        exact hs _ _ (by omega) (by omega)
      · rw [if_neg i2]
        by_cases j1 : j = l
        · rw [if_pos j1]; exact h2 i (by omega)
        · rw [if_neg j1]
          by_cases j2 : l < j ∧ j ≤ k
          · rw [if_pos j2]; exact hs _ _ (by omega) (by omega)
          · rw [if_neg j2]; exact hs _ _ hij (by omega)

theorem ok_sort : Ok n κ (kas_sort n) (fun p => Pm n p ∧ SP κ p n) := by
  refine Ok.bind _ (Ok.mono (fun r h => ?_) _ (ok_count hn (κ := κ) (p := (List.range n).toArray) (Array.Perm.refl _)))
  obtain ⟨h1, h2, h3, h4⟩ := h
  split
  · exact ok_bin hn _ _ _ h1 (by omega) (by rw [show max r.1 1 = r.1 by omega]; exact h4)
  · exact ⟨h1, by rw [show n = r.1 by omega]; exact h4⟩
end
end Mine
namespace Mine
/-- a box as it lies in the heap -/
structure BoxD where
  a : Addr
  w : Int
  h : Int
  t : Tok
  u : Tok
def tupO (vs : List Value) : Obj := { cls := .type "tuple", data := .seq vs.toArray }
def boxV (b : BoxD) : List Value := [.int b.w b.t, .int b.h b.u]
def boxE (b : BoxD) : Addr × Obj := (b.a, tupO (boxV b))
def boxR (b : BoxD) : Value := .ref b.a
def boxP (b : BoxD) : Int × Int := (b.w, b.h)

/-- one integer for the two -/
theorem key_of (ks : List (Int × Int)) : ∃ κ : Nat → Int, ∀ i j, i < ks.length → j < ks.length →
    (κ i < κ j ↔ ((ks.getD i (0, 0)).1 < (ks.getD j (0, 0)).1 ∨ ((ks.getD i (0, 0)).1 = (ks.getD j (0, 0)).1 ∧ (ks.getD i (0, 0)).2 < (ks.getD j (0, 0)).2))) := by
  obtain ⟨H, hH⟩ : ∃ H : Int, ∀ i, i < ks.length → -H ≤ (ks.getD i (0, 0)).2 ∧ (ks.getD i (0, 0)).2 ≤ H := by
    have : ∀ l : List (Int × Int), ∃ H : Int, ∀ x ∈ l, -H ≤ x.2 ∧ x.2 ≤ H := by
      intro l
      induction l with
      | nil => exact ⟨0, by simp⟩
      | cons x r ih =>
        obtain ⟨H, hH⟩ := ih
        refine ⟨max H (max x.2 (-x.2)), fun y hy => ?_⟩
        rcases List.mem_cons.mp hy with rfl | hy
        · omega
        · have := hH y hy; omega
    obtain ⟨H, hH⟩ := this ks
    exact ⟨H, fun i hi => hH _ (by rw [List.getD, List.getElem?_eq_getElem hi]; simp)⟩
  refine ⟨fun i => (ks.getD i (0, 0)).1 * (2 * H + 1) + (ks.getD i (0, 0)).2, fun i j hi hj => ?_⟩
  have b1 := hH i hi
  have b2 := hH j hj
  dsimp only
  generalize (ks.getD i (0, 0)).1 = wi at *
  generalize (ks.getD i (0, 0)).2 = xi at *
  generalize (ks.getD j (0, 0)).1 = wj at *
  generalize (ks.getD j (0, 0)).2 = xj at *
  have hB : 0 ≤ 2 * H + 1 := by omega
  rcases Int.lt_trichotomy wi wj with z | z | z
  · have := Int.mul_le_mul_of_nonneg_right (show wi + 1 ≤ wj by omega) hB
    rw [Int.add_mul, Int.one_mul] at this
    constructor
    · intro _; exact .inl z
    · intro _; omega
  · subst z
    constructor
    · intro h; exact .inr ⟨rfl, by omega⟩
    · rintro (h | ⟨_, h⟩) <;> omega
  · have := Int.mul_le_mul_of_nonneg_right (show wj + 1 ≤ wi by omega) hB
    rw [Int.add_mul, Int.one_mul] at this
    constructor
    · intro h; omega
    · rintro (h | ⟨h, _⟩) <;> omega

section
variable {prog : Program} {w : World} {A : Around} {E : Value → Shared → Prop} {s : Shared} {h₀ : Heap} {L a kS : Addr} {m : Str → Option Value} {news : List (Addr × Obj)} {vs ks : List Value}

/-- two keys of two integers -/
theorem tup_lt {x y : Addr} {p q p' q' : Int} {t1 t2 t3 t4 : Tok} {C : Bool → Shared → Prop} (hx : s.heap.get? x = some (tupO [.int p t1, .int q t2])) (hy : s.heap.get? y = some (tupO [.int p' t3, .int q' t4]))
    (h : C (decide (p < p' ∨ (p = p' ∧ q < q'))) s) : wpAny (model prog w) A (keyLt' (tuples' true) (.ref x) (.ref y)) C E s := by
  refine kat_lt hx rfl hy rfl ?_
  refine kat_cons (wpAny_eqBool_int ?_)
  by_cases e : p = p'
  · rw [show (p == p') = true by simpa using e]
    refine kat_yes (kat_cons (wpAny_eqBool_int ?_))
    by_cases e2 : q = q'
    · rw [show (q == q') = true by simpa using e2]
      refine kat_yes (kat_nil ?_)
      rw [decide_eq_false (by omega)] at h
      exact h
    · rw [show (q == q') = false by simpa using e2]
      refine kat_no (kat_one _ _ ?_)
      refine lt_int ?_
      show C _ _
      rw [show decide (q < q') = decide (p < p' ∨ (p = p' ∧ q < q')) by rw [decide_eq_decide]; omega]
      exact h
  · rw [show (p == p') = false by simpa using e]
    refine kat_no (oneLt_int ?_)
    rw [show decide (p < p') = decide (p < p' ∨ (p = p' ∧ q < q')) by rw [decide_eq_decide]; omega]
    exact h

/-- what the lambda does for one box -/
def KeyFn (prog : Program) (w : World) (A : Around) (h₀ : Heap) (L : Addr) (m : Str → Option Value) (f : Addr) (bx : List BoxD) (rest : List (Addr × Obj)) : Prop :=
  ∀ (b : BoxD) (s' : Shared) (Q' : Value → Shared → Prop), b ∈ bx → Fr h₀ L s'.heap m → News h₀ L s'.heap (bx.map boxE ++ rest) →
    (∀ h' tk (k : BoxD), Kept s'.heap h' → s'.heap.get? k.a = none → h'.get? k.a = some (tupO (boxV k)) → k.w = b.w → k.h = 0 - b.h → Q' (.ref k.a) { s' with heap := h', toks := tk }) →
    wpAny (model prog w) A (call (.ref f) [.ref b.a] []) Q' (fun _ _ => False) s'
def KeyLed (kS a : Addr) (e e1 : Nat) (kd bx : List BoxD) (rest : List (Addr × Obj)) : List (Addr × Obj) :=
  (kS, seqObj "list" (kd.map boxR).toArray e) :: (a, seqObj "list" #[] e1) :: (kd.map boxE ++ (bx.map boxE ++ rest))
def KeyOff (kS a : Addr) (kd bx : List BoxD) (rest : List (Addr × Obj)) : Prop := a ≠ kS ∧ ∀ p ∈ kd.map boxE ++ (bx.map boxE ++ rest), p.1 ≠ kS ∧ p.1 ≠ a

theorem keys_go {f : Addr} {bx : List BoxD} {rest : List (Addr × Obj)} {e1 : Nat} {Fin : List Value → Nat → Shared → Prop} {s₀ : Shared} (hkey : KeyFn prog w A h₀ L m f bx rest)
    (hfin : ∀ kd e h' tk, kd.map boxP = bx.map (fun b => (b.w, 0 - b.h)) → Fr h₀ L h' m → News h₀ L h' (KeyLed kS a e e1 kd bx rest) → KeyOff kS a kd bx rest → Fin (kd.map boxR) e { s₀ with heap := h', toks := tk }) :
    ∀ (r done kd : List BoxD) (e : Nat) (h : Heap) (tk : Nat), bx = done ++ r → kd.map boxP = done.map (fun b => (b.w, 0 - b.h)) → Fr h₀ L h m → News h₀ L h (KeyLed kS a e e1 kd bx rest) → KeyOff kS a kd bx rest →
      KatKeys prog w A h₀ L m kS (.ref f) Fin (r.map boxR) (kd.map boxR) e { s₀ with heap := h, toks := tk }
  | [], done, kd, e, h, tk, eb, ek, F, N, off => by
    rw [List.append_nil] at eb
    exact hfin kd e h tk (by rw [ek, eb]) F N off
  | b :: r, done, kd, e, h, tk, eb, ek, F, N, off => by
    refine KatKeys.cons (hkey b _ _ (by rw [eb]; simp) F (fun p hp => N p (.tail _ (.tail _ (List.mem_append_right _ hp)))) fun h' tk' k hk hnew hget hw hh => ?_)
    have nkS := (N (kS, seqObj "list" (kd.map boxR).toArray e) (.head _)).1
    have na := (N (a, seqObj "list" #[] e1) (.tail _ (.head _))).1
    have kkS : k.a ≠ kS := fun q => by rw [q, nkS] at hnew; cases hnew
    have kka : k.a ≠ a := fun q => by rw [q, na] at hnew; cases hnew
    have kL : k.a ≠ L := fun q => by
      obtain ⟨oL, _, _, hLo, _⟩ := F.ns
      rw [q, hLo] at hnew; cases hnew
    have k0 : h₀.get? k.a = none := by
      cases z : h₀.get? k.a with
      | none => rfl
      | some o => rw [F.keep _ _ z] at hnew; cases hnew
    have N' : News h₀ L h' ((kS, seqObj "list" (List.toArray (kd.map boxR)) e) :: (a, seqObj "list" #[] e1) :: ((kd ++ [k]).map boxE ++ (bx.map boxE ++ rest))) := fun p hp => by
      rcases List.mem_cons.mp hp with rfl | hp
      · exact ⟨hk _ _ nkS, (N _ (.head _)).2⟩
      rcases List.mem_cons.mp hp with rfl | hp
      · exact ⟨hk _ _ na, (N _ (.tail _ (.head _))).2⟩
      rw [List.map_append, List.append_assoc] at hp
      rcases List.mem_append.mp hp with hp | hp
      · have z := N p (.tail _ (.tail _ (List.mem_append_left _ hp)))
        exact ⟨hk _ _ z.1, z.2⟩
      rcases List.mem_append.mp hp with hp | hp
      · rw [List.mem_singleton.mp hp]; exact ⟨hget, kL, k0⟩
      · have z := N p (.tail _ (.tail _ (List.mem_append_right _ hp)))
        exact ⟨hk _ _ z.1, z.2⟩
    have off' : KeyOff kS a (kd ++ [k]) bx rest := ⟨off.1, fun p hp => by
      rw [List.map_append, List.append_assoc] at hp
      rcases List.mem_append.mp hp with hp | hp
      · exact off.2 p (List.mem_append_left _ hp)
      rcases List.mem_append.mp hp with hp | hp
      · rw [List.mem_singleton.mp hp]; exact ⟨kkS, kka⟩
      · exact off.2 p (List.mem_append_right _ hp)⟩
    refine KatBack.intro (frKept F hk) N' (UpdF.head fun p hp => ?_) fun h'' c F'' N'' => ?_
    · rcases List.mem_cons.mp hp with rfl | hp
      · exact off.1
      · exact (off'.2 p hp).1
    · have e2 : kd.map boxR ++ [Value.ref k.a] = (kd ++ [k]).map boxR := by simp [boxR]
      rw [e2] at N'' ⊢
      refine keys_go hkey hfin r (done ++ [b]) (kd ++ [k]) c h'' tk' (by rw [eb]; simp) ?_ F'' N'' off'
      rw [List.map_append, List.map_append, ek]
      simp [boxP, hw, hh]
end
end Mine
namespace Mine
def box0 : BoxD := ⟨0, 0, 0, 0, 0⟩
theorem katTups {h : Heap} : ∀ (kd : List BoxD), (∀ k ∈ kd, h.get? k.a = some (tupO (boxV k))) → KatTups h (kd.map boxR) (kd.map fun k => .int k.w k.t)
  | [], _ => KatTups.nil
  | k :: kd, hk => KatTups.cons (hk k (.head _)) rfl rfl rfl (katTups kd fun q hq => hk q (.tail _ hq))

/-- the boxes in the order p -/
def boxOrd (bx : List BoxD) (p : Array Nat) : List BoxD := p.toList.map fun i => bx.getD i box0
theorem boxOrd_perm {bx : List BoxD} {p : Array Nat} (h : Pm bx.length p) : (boxOrd bx p).Perm bx := by
  have h1 : p.toList.Perm (List.range bx.length) := by simpa using Array.perm_iff_toList_perm.mp h
  have h2 := h1.map fun i => bx.getD i box0
  have e : (List.range bx.length).map (fun i => bx.getD i box0) = bx := by
    refine List.ext_getElem (by simp) fun i h1 h2 => ?_
    simp [List.getD, List.getElem?_eq_getElem h2]
  rw [e] at h2
  exact h2
theorem boxOrd_srt {bx : List BoxD} {p : Array Nat} {κ : Nat → Int} (h : Pm bx.length p) (hs : SP κ p bx.length)
    (hκ : ∀ i j, i < bx.length → j < bx.length → (κ i < κ j ↔ ((bx.getD i box0).w < (bx.getD j box0).w ∨ ((bx.getD i box0).w = (bx.getD j box0).w ∧ 0 - (bx.getD i box0).h < 0 - (bx.getD j box0).h)))) :
    BoxSrt ((boxOrd bx p).map boxP) := by
  intro i j hij hj
  have hl : (boxOrd bx p).length = bx.length := (boxOrd_perm h).length_eq
  rw [List.length_map, hl] at hj
  have g : ∀ k, k < bx.length → ((boxOrd bx p).map boxP).getD k (0, 0) = boxP (bx.getD (p.getD k 0) box0) := fun k hk => by
    have hk' : k < p.size := by rw [h.size]; exact hk
    have e : p.getD k 0 = p[k] := by simp [Array.getD, hk']
    rw [e, List.getD, List.getElem?_eq_getElem (by rw [List.length_map, hl]; exact hk)]
    simp [boxOrd]
  have hn : 1 ≤ bx.length := by omega
  have v := hs i j (Nat.le_of_lt hij) hj
  unfold V at v
  have := (hκ (p.getD j 0) (p.getD i 0) (h.lt hn _) (h.lt hn _)).mpr
  rw [g i (by omega), g j hj]
  simp only [boxP]
  omega

theorem getD_map {α β : Type} (f : α → β) (l : List α) (i : Nat) (d : α) (d' : β) (hi : i < l.length) : (l.map f).getD i d' = f (l.getD i d) := by
  simp [List.getD, List.getElem?_eq_getElem hi]

section
variable {prog : Program} {w : World} {A : Around} {E : Value → Shared → Prop} {s : Shared} {h₀ : Heap} {L a kS : Addr} {m : Str → Option Value}

theorem sort_ask {bx : List BoxD} {rest : List (Addr × Obj)} {kd : List BoxD} {e e1 : Nat} {P : Value → Shared → Prop} (hn : 2 ≤ bx.length) (ek : kd.map boxP = bx.map (fun b => (b.w, 0 - b.h))) (F : Fr h₀ L s.heap m) (N : News h₀ L s.heap (KeyLed kS a e e1 kd bx rest)) (off : KeyOff kS a kd bx rest)
    (h : ∀ h' c (bx' : List BoxD), bx'.Perm bx → BoxSrt (bx'.map boxP) → Fr h₀ L h' m → News h₀ L h' ((a, listOf (bx'.map boxR).toArray c) :: (bx.map boxE ++ rest)) → P .none { s with heap := h' }) :
    wpAny (model prog w) A (keyKind' (List.toArray (kd.map boxR))) (fun κ s'' => (kas_sort (bx.map boxR).length).kasWp (kas_ask prog w A κ (katRev false (kd.map boxR))) (fun p s3 => KatFin h₀ L m kS a (kd.map boxR) e e1 (katRev false (p.toList.map fun i => (katRev false (bx.map boxR)).getD i Value.none)) (fun s4 => ∃ v, PySem.Fin.done (.ret .none) = PySem.Fin.done (.ret v) ∧ P v s4) s3) s'') (fun _ _ => False) s := by
  have hkl : kd.length = bx.length := by have := congrArg List.length ek; simpa using this
  have hget : ∀ k ∈ kd, s.heap.get? k.a = some (tupO (boxV k)) := fun k hk => (N (boxE k) (.tail _ (.tail _ (List.mem_append_left _ (List.mem_map_of_mem (f := boxE) hk))))).1
  refine kat_kind (T := .type "int") (katTups kd hget) (by simp; omega) (fun v hv => ?_) (by decide) ?_
  · obtain ⟨k, _, rfl⟩ := List.mem_map.mp hv
    exact Looks.of_pure rfl
  rw [show (Value.type "int" != Value.type "tuple") = true by decide]
  rw [List.length_map]
  obtain ⟨κ, hκ⟩ := key_of (kd.map boxP)
  have hw : ∀ i, i < bx.length → (kd.map boxP).getD i (0, 0) = ((bx.getD i box0).w, 0 - (bx.getD i box0).h) := fun i hi => by
    rw [ek]; exact getD_map (fun b : BoxD => (b.w, 0 - b.h)) bx i box0 (0, 0) hi
  refine Ok.wp (n := bx.length) (κ := κ) (Inv := fun s' => s' = s) (P := fun p => Pm bx.length p ∧ SP κ p bx.length) ?_ ?_ _ s (ok_sort (by omega)) rfl
  · rintro i j C s' hi hj rfl hC
    show wpAny _ _ (keyLt' (tuples' true) ((kd.map boxR).getD i Value.none) ((kd.map boxR).getD j Value.none)) _ _ _
    rw [getD_map boxR kd i box0 _ (by omega), getD_map boxR kd j box0 _ (by omega)]
    have gi := hget (kd.getD i box0) (by rw [List.getD, List.getElem?_eq_getElem (by omega)]; simp)
    have gj := hget (kd.getD j box0) (by rw [List.getD, List.getElem?_eq_getElem (by omega)]; simp)
    refine tup_lt gi gj ?_
    have e := hκ i j (by simp; omega) (by simp; omega)
    rw [getD_map boxP kd i box0 (0, 0) (by omega), getD_map boxP kd j box0 (0, 0) (by omega)] at e
    have z := hC s' rfl
    rw [show decide (κ i < κ j) = decide ((kd.getD i box0).w < (kd.getD j box0).w ∨ ((kd.getD i box0).w = (kd.getD j box0).w ∧ (kd.getD i box0).h < (kd.getD j box0).h)) by rw [decide_eq_decide]; exact e] at z
    exact z
  · rintro p s' ⟨hpm, hsp⟩ rfl
    have hord : (p.toList.map fun i => (bx.map boxR).getD i Value.none) = (boxOrd bx p).map boxR := by
      unfold boxOrd
      rw [List.map_map]
      refine List.map_congr_left fun i hi => ?_
      have hi' : i ∈ List.range bx.length := by
        have h1 : p.toList.Perm (List.range bx.length) := by simpa using Array.perm_iff_toList_perm.mp hpm
        exact h1.mem_iff.mp hi
      exact getD_map boxR bx i box0 _ (List.mem_range.mp hi')
    refine KatFin.intro F N (UpdF.head fun p hp => ?_) fun h3 c3 F3 N3 => ?_
    · rcases List.mem_cons.mp hp with rfl | hp
      · exact off.1
      · exact (off.2 p hp).1
    refine KasFin.intro F3 N3 (UpdF.tail off.1.symm (UpdF.head fun p hp => (off.2 p hp).2)) fun h4 c4 F4 N4 => ⟨_, rfl, ?_⟩
    have hout : katRev false (p.toList.map fun i => (katRev false (bx.map boxR)).getD i Value.none) = (boxOrd bx p).map boxR := hord
    rw [hout] at N4
    refine h h4 c4 (boxOrd bx p) (boxOrd_perm hpm) (boxOrd_srt hpm hsp fun i j hi hj => ?_) F4 fun p hp => N4 p ?_
    · have e := hκ i j (by simp; omega) (by simp; omega)
      rw [hw i hi, hw j hj] at e
      exact e
    · rcases List.mem_cons.mp hp with rfl | hp
      · exact .tail _ (.head _)
      · exact .tail _ (.tail _ (List.mem_append_right _ hp))

/-- the end of the sort of none or one -/
theorem sort_few_end {vs ks : List Value} {e e1 : Nat} {P : PySem.Fin → Shared → Prop} (hl : ks.length = vs.length) (h2 : vs.length < 2) (h : KatFin h₀ L m kS a ks e e1 vs (fun s' => P (.done (.ret .none)) s') s) :
    wpAny (model prog w) A (ksk_end a false vs.toArray e1 (.ref kS) (List.toArray ks)) P E s := by
  unfold ksk_end
  have hn : (List.toArray vs).size < 2 := by rw [List.size_toArray]; exact h2
  simp only [hn, if_true, Bool.false_eq_true, if_false]
  refine wpAny_bind (wpAny_pure ?_)
  refine wpAny_bind (m := (pure () : StateT SortSt Sem Unit).run _) (wpAny_pure ?_)
  refine kat_tail (b := false) (out := vs) ?_ (by omega) (by omega) rfl h
  show ((List.toArray ks).zip (List.toArray vs)).map (·.2) = List.toArray vs
  apply Array.toList_inj.mp
  rw [Array.toList_map, ksk_zip]
  exact List.map_snd_zip (Nat.le_of_eq (by simp [hl]))
end
end Mine
namespace Mine
section
variable {prog : Program} {w : World} {A : Around} {E : Value → Shared → Prop} {s : Shared} {h₀ : Heap} {L a kS : Addr} {m : Str → Option Value} {news : List (Addr × Obj)}

theorem few_rest {vs : List Value} {f : Value} {e1 : Nat} {P : PySem.Fin → Shared → Prop} (hk : s.heap.get? kS = some (seqObj "list" #[] 0)) (h2 : vs.length < 2)
    (h : KatKeys prog w A h₀ L m kS f (fun ks e s' => KatFin h₀ L m kS a ks e e1 vs (fun s4 => P (.done (.ret .none)) s4) s') vs [] 0 s) :
    wpAny (model prog w) A (ksk_rest a f false vs.toArray e1 (.ref kS)) P E s := by
  unfold ksk_rest
  refine wpAny_bind (wpAny_rule ?_)
  rw [List.forIn_toArray]
  match vs, h2, h with
  | [], _, h =>
    rw [List.forIn_nil]
    refine wpAny_bind (wpAny_pure ?_)
    refine wpAny_bind (listItems_at hk rfl ?_)
    exact sort_few_end (ks := []) rfl (by simp) h
  | [v], _, h =>
    rw [List.forIn_cons]
    have h' : wpAny (model prog w) A (call f [v]) (KatBack h₀ L m kS [] 0 (fun k c s' => KatFin h₀ L m kS a ([] ++ [k]) c e1 [v] (fun s4 => P (.done (.ret .none)) s4) s')) (fun _ _ => False) s := h
    refine wpAny_bind (wpAny_bind (wpAny_bind (wpAny_attempt (wpAny_mono h' (fun k s' hb => ?_) fun _ _ x => x.elim))))
    obtain ⟨news', g, F', N', U, c⟩ := hb
    obtain ⟨pre, post, e0, hg, x1, x2⟩ := U.split
    rw [e0] at N'
    have nk := N' (kS, seqObj "list" (List.toArray []) 0) (List.mem_append_right _ (.head _))
    have s1 := Heap.SameBut.update s'.heap kS (Obj.mapSeq (·.push k))
    obtain ⟨c2, hc2⟩ : ∃ c2, (s'.heap.update kS (Obj.mapSeq (·.push k))).get? kS = some (seqObj "list" (List.toArray ([] ++ [k])) c2) := ⟨_, get?_update_seq nk.1 (·.push k)⟩
    have fin := c _ c2 (kas_fr F' s1 nk.2.1 nk.2.2) (by rw [hg]; exact news_set N' x1 x2 s1 hc2)
    try dsimp only
    refine wpAny_bind (listUpdate_at nk.1 rfl ?_ (by simp [sizeLine_eq]) (by simp [sizeLine_eq]))
    refine wpAny_pure (wpAny_pure ?_)
    refine wpAny_bind (listItems_at hc2 rfl ?_)
    exact sort_few_end (vs := [v]) (ks := [] ++ [k]) rfl (by simp) fin
  | _ :: _ :: _, h2, _ => simp at h2; omega

/-- boxes.sort(key=..) -/
theorem sort_boxes {f : Addr} {bx : List BoxD} {rest : List (Addr × Obj)} {ep : Nat} {Q : Value → Shared → Prop} (F : Fr h₀ L s.heap m) (N : News h₀ L s.heap ((a, listOf (bx.map boxR).toArray ep) :: (bx.map boxE ++ rest))) (hna : ∀ p ∈ bx.map boxE ++ rest, p.1 ≠ a) (h64 : bx.length < 64)
    (hkey : KeyFn prog w A.in1 h₀ L m f bx rest)
    (h : ∀ h' tk c (bx' : List BoxD), bx'.Perm bx → BoxSrt (bx'.map boxP) → Fr h₀ L h' m → News h₀ L h' ((a, listOf (bx'.map boxR).toArray c) :: (bx.map boxE ++ rest)) → Q .none { s with heap := h', toks := tk }) :
    wpAny (model prog w) A (call (.builtin "list.sort") [.ref a] [(Str.ofString "key", .ref f)]) Q E s := by
  have na := N _ (.head _)
  have N₀ : News h₀ L s.heap (bx.map boxE ++ rest) := fun p hp => N p (.tail _ hp)
  refine wpAny_call_entry_kw slot_list_sort ⟨_, na.1, rfl⟩ entry_list_sort ?_ (ksk_l1 _ _)
  show wpAny (model prog w) A.in1 (Builtin.«list.sort» ⟨[.ref a], [(Str.ofString "key", .ref f)]⟩) _ _ _
  rw [ksk_t1]
  have hoff : ∀ kS : Addr, a < kS → (∀ q ∈ bx.map boxE ++ rest, q.1 < kS) → KeyOff kS a [] bx rest := fun kS l0 l1 => ⟨Nat.ne_of_lt l0, fun p hp => ⟨Nat.ne_of_lt (l1 p hp), hna p hp⟩⟩
  by_cases h2 : 2 ≤ bx.length
  · refine kat_keyed (vs := bx.map boxR) (b := false) F N₀ na.1 na.2.1 na.2.2 hna (by simpa using h2) (by simpa using h64) fun kS e1 h' F' N' l0 l1 => ?_
    refine keys_go (s₀ := s) hkey (fun kd e h2' tk ek F2 N2 off2 => ?_) bx [] [] 0 h' s.toks rfl rfl F' N' (hoff kS l0 l1)
    exact sort_ask h2 ek F2 N2 off2 fun h3 c bx' hp hs F3 N3 => h h3 tk c bx' hp hs F3 N3
  · have ha : a < s.heap.objs.size := Heap.lt_size na.1
    have s1 := Heap.SameBut.update s.heap a (Obj.mapSeq fun _ => (#[] : Array Value))
    obtain ⟨e1, ho1⟩ : ∃ e1, (s.heap.update a (Obj.mapSeq fun _ => (#[] : Array Value))).get? a = some (seqObj "list" #[] e1) := ⟨_, get?_update_seq na.1 fun _ => #[]⟩
    have F1 := kas_fr F s1 na.2.1 na.2.2
    have N1 := kas_news N₀ s1 hna
    have hsz : ((s.heap.update a (Obj.mapSeq fun _ => (#[] : Array Value))).push (seqObj "tuple" (bx.map boxR).toArray 0)).objs.size = s.heap.objs.size + 1 := by rw [size_push', Heap.size_update]
    have hLk : L < ((s.heap.update a (Obj.mapSeq fun _ => (#[] : Array Value))).push (seqObj "tuple" (bx.map boxR).toArray 0)).objs.size := (F1.push _).ns.lt
    unfold ksk_tree
    refine wpAny_bind (listItems_at na.1 rfl ?_)
    refine wpAny_bind (listUpdate_at na.1 rfl ?_ (by rw [List.size_toArray, List.length_map, sizeLine_eq]; omega) (Nat.zero_le _))
    refine wpAny_bind (seqEpoch_at ho1 rfl ?_)
    refine wpAny_bind (wpAny_newTuple ?_ (by show (bx.map boxR).length ≤ _; rw [List.length_map, sizeLine_eq]; omega))
    refine wpAny_bind (wpAny_newList ?_ (Nat.zero_le _))
    refine wpAny_holding ?_
    refine few_rest (h₀ := h₀) (L := L) (m := m) (s := { s with heap := ((s.heap.update a (Obj.mapSeq fun _ => (#[] : Array Value))).push (seqObj "tuple" (bx.map boxR).toArray 0)).push (seqObj "list" #[] 0) }) (vs := bx.map boxR) (kS := ((s.heap.update a (Obj.mapSeq fun _ => (#[] : Array Value))).push (seqObj "tuple" (bx.map boxR).toArray 0)).objs.size) (Heap.get?_push_size _ rfl) (by rw [List.length_map]; omega) ?_
    refine keys_go (s₀ := s) hkey (fun kd e h2' tk ek F2 N2 off2 => ?_) bx [] [] 0 _ s.toks rfl rfl ((F1.push _).push _) (e1 := e1) (fun p hp => ?_) (hoff _ (by rw [hsz]; exact Nat.lt_succ_of_lt ha) fun q hq => by rw [hsz]; exact Nat.lt_succ_of_lt (Heap.lt_size (N₀ q hq).1))
    · refine KatFin.intro F2 N2 (UpdF.head fun p hp => ?_) fun h3 c3 F3 N3 => ?_
      · rcases List.mem_cons.mp hp with rfl | hp
        · exact off2.1
        · exact (off2.2 p hp).1
      refine KasFin.intro F3 N3 (UpdF.tail off2.1.symm (UpdF.head fun p hp => (off2.2 p hp).2)) fun h4 c4 F4 N4 => ⟨_, rfl, ?_⟩
      refine h h4 tk c4 bx (List.Perm.refl _) (fun i j hij hj => ?_) F4 fun p hp => N4 p ?_
      · rw [List.length_map] at hj; omega
      · rcases List.mem_cons.mp hp with rfl | hp
        · exact .tail _ (.head _)
        · exact .tail _ (.tail _ (List.mem_append_right _ hp))
    · rcases List.mem_cons.mp hp with rfl | hp
      · exact ⟨Heap.get?_push_size _ rfl, Nat.ne_of_gt hLk, Heap.get?_none_of_le (Nat.le_trans F.above (Nat.le_of_lt hLk))⟩
      rcases List.mem_cons.mp hp with rfl | hp
      · exact ⟨Heap.get?_push_of_some _ (Heap.get?_push_of_some _ ho1), na.2⟩
      · exact ⟨Heap.get?_push_of_some _ (Heap.get?_push_of_some _ (N1 p hp).1), (N1 p hp).2⟩
end
end Mine
namespace Mine
open_top hd03 for PySem.Challenge.rw_cy0003_03
end Mine
namespace Mine
theorem fillK03a : (∀ p : Program, p = PySem.Challenge.rw_cy0003_03.prog → p = p) ∧ hd03.heap_39 = hd03.heap_39 := by
  k_fill
  exact ⟨fun _ _ => rfl, rfl⟩

theorem bisL_call {w : World} {A : Around} {E : Value → Shared → Prop} {s : Shared} {Q : Value → Shared → Prop} {mg mb : Str → Option Value} {p : Program} {loose : List Str} {l : Addr} {vs : List Value} {ns : List Int} {x : Int} {t : Tok}
    (X : (hd03.heap_39 w.params).In s.heap) (T : TopRead p loose mg mb s.heap) (hroom : A.depth + 10 < recursionLimit)
    (hl : s.heap.IsList l vs.toArray) (hi₀ : IntsAre vs ns) (hlen : ns.length < 2 ^ 60)
    (hQ : ∀ h' tk t', Kept s.heap h' → Q (.int (bs (fun i => !decide (ns.getD i 0 < x)) 0 ns.length : Nat) t') { s with heap := h', toks := tk }) :
    wpAny (model PySem.Challenge.rw_cy0003_03.prog w) A (call (.ref 23) [.ref l, .int x t] []) Q E s := by
  refine' enter0 (K := hd03.heap_39 w.params) (binds := [(Str.ofString "a", .ref l), (Str.ofString "x", .int x t), (Str.ofString "lo", .int 0 189), (Str.ofString "hi", .none), (Str.ofString "key", .none)]) X T.nolimit (by omega) ?ho ?hcd ?hb ?hl ?_ ?c1 ?c2 ?c3 ?c4
  case ho => exact rfl
  case hcd => exact rfl
  case hb =>
    refine' binds_kw (T := 15) (D := 16) (X _ _ rfl) rfl (X _ _ rfl) ?h1 ?h2 ?h3
    case h1 => exact rfl
    case h2 => exact rfl
    case h3 => exact rfl
  case hl => exact locs rfl
  case c1 => exact rfl
  case c2 => exact rfl
  case c3 => exact rfl
  case c4 => decide
  intro h₁ tk F
  have N : News s.heap s.heap.objs.size h₁ [] := News.nil
  w_on
  iterate 39 (first | walk1 | (dsimp only; walk1))
  have hsz : vs.length = ns.length := hi₀.length
  (rename Fr _ _ _ _ => F2); (rename News _ _ _ _ => N2)
  refine While_inv (J := fun n m' news => news = [] ∧ ∃ (lo hi : Nat) (t1 t2 : Tok), lo ≤ hi ∧ hi ≤ ns.length ∧ n = hi - lo ∧ m' (Str.ofString "a") = some (.ref l) ∧ m' (Str.ofString "x") = some (.int x t) ∧ m' (Str.ofString "lo") = some (.int lo t1) ∧ m' (Str.ofString "hi") = some (.int hi t2) ∧ bs (fun i => !decide (ns.getD i 0 < x)) lo hi = bs (fun i => !decide (ns.getD i 0 < x)) 0 ns.length) (n₀ := ns.length) F2 N2 ?_ ?_
  · exact ⟨rfl, 0, ns.length, _, _, Nat.zero_le _, Nat.le_refl _, rfl, rfl, rfl, rfl, rfl, rfl⟩
  · rintro n m₁ news₁ h₁ tk₁ F₁ N₁ ⟨rfl, lo, hi, t1, t2, hle, hhi, rfl, ha, hx, hlo, hhi', hbs⟩
    replace F₁ := fr_put (Str.ofString "hi") (fr_put (Str.ofString "lo") (fr_put (Str.ofString "x") (fr_put (Str.ofString "a") F₁ ha) hx) hlo) hhi'
    iterate 5 (first | walk1 | (dsimp only; walk1))
    have hmid : (lo + hi) / 2 < ns.length ∨ ¬ lo < hi := by omega
    by_cases hlt : lo < hi
    · rw [if_pos (by simpa using hlt)]
      iterate 16 (first | walk1 | (dsimp only; walk1))
      rw [fdiv2 lo hi]
      (rename Fr _ _ _ _ => F3); (rename News _ _ _ _ => N3)
      refine item_anyK (F3.lst hl) hi₀ (by omega) (by omega) (by omega) (fun t4 => ?_) (by with_unfolding_all rfl)
      rw [Int.toNat_natCast]
      iterate 3 (first | walk1 | (dsimp only; walk1))
      by_cases hc : ns.getD ((lo + hi) / 2) 0 < x
      · rw [if_pos (by simpa using hc)]
        iterate 10 (first | walk1 | (dsimp only; walk1))
        (rename Fr _ _ _ _ => F4); (rename News _ _ _ _ => N4)
        refine WhileStep.intro F4 N4 ?_ ⟨rfl, (lo + hi) / 2 + 1, hi, _, _, by omega, by omega, rfl, rfl, rfl, (congrArg (fun z => some (Value.int (z + 1) _)) (fdiv2 lo hi)), rfl, (bs_right hlt (by simpa using hc)).symm.trans hbs⟩
        omega
      · rw [if_neg (by simpa using hc)]
        iterate 7 (first | walk1 | (dsimp only; walk1))
        (rename Fr _ _ _ _ => F4); (rename News _ _ _ _ => N4)
        refine WhileStep.intro F4 N4 ?_ ⟨rfl, lo, (lo + hi) / 2, _, _, by omega, by omega, rfl, rfl, rfl, rfl, (congrArg (fun z => some (Value.int z _)) (fdiv2 lo hi)), (bs_left hlt (by simpa using hc)).symm.trans hbs⟩
        omega
    · rw [if_neg (by simpa using hlt)]
      iterate 4 (first | walk1 | (dsimp only; walk1))
      dsimp only
      (rename Fr _ _ _ _ => F4)
      rw [← hbs, bs_done hlt] at hQ
      exact hQ _ _ _ F4.keep
end Mine
namespace Mine
theorem fillK03e : (∀ p : Program, p = PySem.Challenge.rw_cy0003_03.prog → p = p) ∧ hd03.heap_39 = hd03.heap_39 := by
  k_fill
  exact ⟨fun _ _ => rfl, rfl⟩

def fdBody : Stmt → List Stmt
  | .FunctionDef _ _ b _ _ _ _ _ _ _ => b
  | _ => []
def fdScope : Stmt → Option Scope
  | .FunctionDef _ _ _ _ _ _ sc _ _ _ => some sc
  | _ => none
def lawBody : List Stmt := (PySem.Challenge.pw_cy0003_03.main.body.getLast?.map fdBody).getD []
def lawScope : Scope := ((PySem.Challenge.pw_cy0003_03.main.body.getLast?.bind fdScope)).getD default

theorem ne_data {h₀ h : Heap} {L : Addr} {news : List (Addr × Obj)} {p q : Addr × Obj} (N : News h₀ L h news) (hp : p ∈ news) (hq : q ∈ news) (hd : p.2.data ≠ q.2.data) : p.1 ≠ q.1 := fun e => by
  have a1 := (N p hp).1
  have a2 := (N q hq).1
  rw [e, a2] at a1
  exact hd (congrArg (·.data) (Option.some.inj a1)).symm
theorem ne_obj {h₀ h : Heap} {L : Addr} {news : List (Addr × Obj)} {p q : Addr × Obj} (N : News h₀ L h news) (hp : p ∈ news) (hq : q ∈ news) (hd : p.2 ≠ q.2) : p.1 ≠ q.1 := fun e => by
  have a1 := (N p hp).1
  have a2 := (N q hq).1
  rw [e, a2] at a1
  exact hd (Option.some.inj a1).symm
theorem tup_item {prog : Program} {w : World} {A : Around} {E : Value → Shared → Prop} {s : Shared} {value slice : PySem.Expr} {l : Addr} {vs : List Value} {k : Int} {u : Tok} {x : Value} {Q : Value → Shared → Prop} (hg : s.heap.get? l = some (tupO vs))
    (h0 : 0 ≤ k) (h1 : k < vs.length) (hfit : k < 2 ^ 63) (hx : vs[k.toNat]? = some x) (h : Q x s)
    (hs : subscripted slice false (.ref l) (.int k u) = operate [.ref l, .int k u] (getItem (.ref l) (.int k u)) := by with_unfolding_all rfl) :
    wpAny (model prog w) A (subscriptTail value slice (.ref l) (.int k u)) Q E s := by
  have ht : IsTup s.heap l vs.toArray := ⟨_, hg, rfl, _, rfl⟩
  exact tail_any ht.typeIs slot_tuple_getitem.lookup (getItem_tuple ht (by omega) hfit (seqIndex_of h0 (by rw [List.size_toArray]; exact h1)) (by simpa using hx) h) hs
theorem box_data {bx : List BoxD} {p : Addr × Obj} (hp : p ∈ bx.map boxE) : ∃ xs n, p.2.data = .seq xs n := by
  obtain ⟨b, _, rfl⟩ := List.mem_map.mp hp
  exact ⟨_, _, rfl⟩
theorem ad1 {L : Nat} : L + 1 + 1 + 1 + 1 ≠ L + 1 + 1 + 1 ∧ L + 1 + 1 + 1 + 1 ≠ L + 1 + 1 ∧ L + 1 + 1 + 1 + 1 ≠ L + 1 ∧ L + 1 + 1 + 1 ≠ L + 1 + 1 ∧ L + 1 + 1 + 1 ≠ L + 1 ∧ L + 1 + 1 ≠ L + 1 := by omega
theorem ad2 {L : Nat} (h : 25 < L) : 25 ≠ L + 1 ∧ 25 ≠ L + 1 + 1 ∧ 25 ≠ L + 1 + 1 + 1 ∧ 25 ≠ L + 1 + 1 + 1 + 1 := by omega

end Mine
namespace Mine
theorem fillK03f : (∀ p : Program, p = PySem.Challenge.rw_cy0003_03.prog → p = p) ∧ hd03.heap_39 = hd03.heap_39 := by
  k_fill
  exact ⟨fun _ _ => rfl, rfl⟩
def lawRest : List Stmt := lawBody.drop 2
def lawRest2 : List Stmt := lawBody.drop 4
theorem tabAll_len : ∀ hs : List Int, (tabAll hs).length ≤ hs.length := by
  have h : ∀ (hs T : List Int), (hs.foldl tabStep T).length ≤ T.length + hs.length := by
    intro hs
    induction hs with
    | nil => intro T; simp
    | cons x r ih =>
      intro T
      have := ih (tabStep T x)
      have e := tabStep_len (T := T) (h := x)
      have := bisLt_le T x
      simp only [List.foldl_cons, List.length_cons]
      omega
  intro hs
  simpa [tabAll] using h hs []
theorem law_tab {w : World} {s : Shared} {Q : Flow → Shared → Prop} {mg mb : Str → Option Value} {p : Program} {loose : List Str} {base : Heap} {L fa D5 : Addr} {bx : List BoxD} {m₀ : Str → Option Value} {o2 : Obj} {ep : Nat} {R : List (Addr × Obj)}
    (X : (hd03.heap_39 w.params).In base) (T : TopRead p loose mg mb base) (hbl : bx.length ≤ 31)
    (F : Fr base L s.heap m₀) (N : News base L s.heap R) (hD : (D5, listOf (bx.map boxR).toArray ep) ∈ R) (hb : ∀ b ∈ bx, boxE b ∈ R) (h2 : (L + 1 + 1, o2) ∈ R) (ho2 : o2.data = .cell (some (.ref D5)))
    (hQ : ∀ h' tk m' Tb tv ept, Fr base L h' m' → m' (Str.ofString "table") = some (.ref Tb) → News base L h' ((Tb, listOf (List.toArray tv) ept) :: R) → (∀ p ∈ R, p.1 ≠ Tb) → IntsAre tv (tabAll ((bx.map boxP).map (·.2))) →
      wpAny (model PySem.Challenge.rw_cy0003_03.prog w) (callerA.deeper (envOfC (Str.ofString "law") lawScope L fa (.ref 27))) (execs lawRest2 (envOfC (Str.ofString "law") lawScope L fa (.ref 27))) Q (fun _ _ => False) { s with heap := h', toks := tk }) :
    wpAny (model PySem.Challenge.rw_cy0003_03.prog w) (callerA.deeper (envOfC (Str.ofString "law") lawScope L fa (.ref 27))) (execs lawRest (envOfC (Str.ofString "law") lawScope L fa (.ref 27))) Q (fun _ _ => False) s := by
  dsimp only [lawRest, List.drop, lawBody, lawScope, PySem.Challenge.pw_cy0003_03, List.getLast?, List.getLast, Option.map, Option.bind, Option.getD, fdBody, fdScope]
  w_on
  iterate 6 (first | walk1 | (dsimp only; walk1))
  (rename Fr _ _ _ _ => F1); (rename News _ _ _ _ => N1)
  (rename (∀ p ∈ R, _) => hlt); rename_i Tb _ h1
  have hTb : ∀ p ∈ R, p.1 ≠ Tb := fun p hp => Nat.ne_of_lt (hlt p hp)
  clear hlt
  iterate 1 (first | walk1 | (dsimp only; walk1))
  refine for_gen ?_
  refine ldCN (c := L + 1 + 1) N1 rfl (.tail _ h2) ho2 ?_
  refine iter_listT (fun i m nx => ∃ tv ept, nx = (Tb, listOf (List.toArray tv) ept) :: R ∧ IntsAre tv (tabAll (((bx.take i).map boxP).map (·.2))) ∧ m (Str.ofString "table") = some (.ref Tb)) (l := D5) (vs := bx.map boxR) rfl ?_ rfl rfl rfl (N1 _ (.tail _ hD)).1 F1 N1 ?_ ?_ ?_ ?_
  · intro i v hv
    obtain ⟨b, _, rfl⟩ := List.mem_map.mp (List.mem_of_getElem? hv)
    exact ⟨_, rfl⟩
  · exact ⟨[], 0, rfl, .nil, rfl⟩
  · rintro i m nx ⟨tv, ept, rfl, _⟩
    exact .inl (.tail _ hD)
  · rintro i v m₁ nx h tk₁ I oI hv ⟨tv, ept, rfl, htv, hmt⟩ hoff hIlt F₁ N₁
    obtain ⟨b, hbi, rfl⟩ : ∃ b, bx[i]? = some b ∧ v = boxR b := by
      rw [List.getElem?_map] at hv
      cases e : bx[i]? with
      | none => rw [e] at hv; cases hv
      | some b => rw [e] at hv; exact ⟨b, rfl, (Option.some.inj hv).symm⟩
    have hbm : b ∈ bx := List.mem_of_getElem? hbi
    replace F₁ := fr_put (Str.ofString "table") F₁ hmt
    refine unpackN_ F₁ N₁ (t := b.a) (items := (boxV b).toArray) ⟨_, (N₁ _ (.tail _ (List.mem_append_left _ (hb b hbm)))).1, rfl, _, rfl⟩ rfl rfl rfl ?_
    intro h2' F2 N2
    clear F₁ N₁
    iterate 13 (first | walk1 | (dsimp only; walk1))
    (rename Fr _ _ _ _ => F3); (rename News _ _ _ _ => N3)
    have htl : (tabAll (((bx.take i).map boxP).map (·.2))).length ≤ 31 := by
      have := tabAll_len (((bx.take i).map boxP).map (·.2))
      simp only [List.length_map, List.length_take] at this
      omega
    have hnext : tabAll (((bx.take (i + 1)).map boxP).map (·.2)) = tabStep (tabAll (((bx.take i).map boxP).map (·.2))) b.h := by
      rw [List.take_add_one, hbi]
      simp only [tabAll, List.map_append, List.foldl_append, Option.toList, List.map_cons, List.map_nil, List.foldl_cons, List.foldl_nil, boxP]
    rw [hnext]
    generalize tabAll (((bx.take i).map boxP).map (·.2)) = ts at htv htl
    iterate 5 (first | walk1 | (dsimp only; walk1))
    refine ⟨X.keeps F3.keep, ?_⟩
    refine bisL_call (X.keeps F3.keep) (T.keeps F3.keep) (by rw [depth_deeper, depth_caller]; decide) (News.isList N3 (.head _)) htv (by omega) ?_
    intro h4 tk4 t4 hk4
    have F4 := frKept F3 hk4
    have N4 := newsKept N3 hk4
    clear hk4 F3 N3
    iterate 12 (first | walk1 | (dsimp only; walk1))
    (rename Fr _ _ _ _ => F5); (rename News _ _ _ _ => N5)
    replace N5 : News base L _ ((Tb, listOf (List.toArray tv) ept) :: (R ++ [(I, oI)])) := N5
    refine len_ints_fit (News.isList N5 (.head _)) htv (by omega) ?_
    iterate 2 (first | walk1 | (dsimp only; walk1))
    have hkle := bisLt_le ts b.h
    change (bs (fun i => !decide (ts.getD i 0 < b.h)) 0 ts.length) ≤ ts.length at hkle
    have hRI : ∀ p ∈ R ++ [(I, oI)], p.1 ≠ Tb := fun p hp => (List.mem_append.mp hp).elim (hTb p) fun hp => by rw [List.mem_singleton.mp hp]; exact (hoff (Tb, _) (List.Mem.head _)).symm
    have hTI : Tb ≠ I := hoff (Tb, _) (List.Mem.head _)
    by_cases hc : bs (fun i => !decide (ts.getD i 0 < b.h)) 0 ts.length = ts.length
    · rw [if_pos (by rw [hc]; simp)]
      iterate 5 (first | walk1 | (dsimp only; walk1))
      refine kl_method N5 (.head _) PySem.F.slot_list_append PySem.F.type_list_append ?_
      iterate 4 (first | walk1 | (dsimp only; walk1))
      refine append_K F5 N5 (.head hRI) ?_ (by rw [List.size_toArray, htv.length, sizeLine_eq]; omega)
      intro h6 F6 N6
      iterate 3 (first | walk1 | (dsimp only; walk1))
      refine ⟨h6, _, _, (Tb, listOf (List.toArray (tv ++ [.int b.h b.u])) (ept + 1)) :: R, rfl, F6, ?_, ?_, tv ++ [.int b.h b.u], ept + 1, rfl, ?_, rfl⟩
      · simpa using N6
      · intro p hp
        rcases List.mem_cons.mp hp with rfl | hp
        · exact hTI
        · exact hoff p (.tail _ hp)
      · rw [tabStep, if_pos (by exact hc)]
        exact htv.append (.cons _ _ .nil)
    · have hc' : bs (fun i => !decide (ts.getD i 0 < b.h)) 0 ts.length < ts.length := Nat.lt_of_le_of_ne hkle hc
      rw [if_neg (by simpa using fun q => hc (Int.ofNat.inj q))]
      iterate 6 (first | walk1 | (dsimp only; walk1))
      refine ksa_set (vs := tv) (ns := ts) F5 N5 (.head hRI) htv (by omega) (by exact Int.ofNat_lt.mpr hc') (by omega) ?_
      intro h7 F7 N7 hi7 hl7 _
      iterate 2 (first | walk1 | (dsimp only; walk1))
      rw [Int.toNat_natCast] at N7 hi7
      refine ⟨h7, _, _, (Tb, listOf (List.toArray (tv.set (bs (fun i => !decide (ts.getD i 0 < b.h)) 0 ts.length) (.int b.h b.u))) ept) :: R, rfl, F7, ?_, ?_, _, ept, rfl, ?_, rfl⟩
      · simpa using N7
      · intro p hp
        rcases List.mem_cons.mp hp with rfl | hp
        · exact hTI
        · exact hoff p (.tail _ hp)
      · rw [tabStep, if_neg (by exact hc)]
        exact hi7
  · rintro m₁ nx h tk₁ ⟨tv, ept, rfl, htv, hmt⟩ F₁ N₁
    rw [List.length_map, List.take_length] at htv
    exact hQ h tk₁ m₁ Tb tv ept F₁ hmt N₁ hTb htv
end Mine
namespace Mine
theorem fillK03g : (∀ p : Program, p = PySem.Challenge.rw_cy0003_03.prog → p = p) ∧ hd03.heap_39 = hd03.heap_39 := by
  k_fill
  exact ⟨fun _ _ => rfl, rfl⟩
/-- the sizes that the inner comprehension keeps -/
def insL (P : List (Int × Int)) (ss : List Int) (i n : Nat) : List Int :=
  ((List.range n).filter (fun j => decide ((P.getD j (0, 0)).1 < (P.getD i (0, 0)).1) && decide ((P.getD j (0, 0)).2 < (P.getD i (0, 0)).2))).map (fun j => ss.getD j 0)

theorem insL_yes {P : List (Int × Int)} {ss : List Int} {i j : Nat} (h : (decide ((P.getD j (0, 0)).1 < (P.getD i (0, 0)).1) && decide ((P.getD j (0, 0)).2 < (P.getD i (0, 0)).2)) = true) : insL P ss i (j + 1) = insL P ss i j ++ [ss.getD j 0] := by
  unfold insL
  rw [List.range_succ, List.filter_append, List.map_append, List.filter_cons, if_pos h]
  rfl
theorem insL_no {P : List (Int × Int)} {ss : List Int} {i j : Nat} (h : (decide ((P.getD j (0, 0)).1 < (P.getD i (0, 0)).1) && decide ((P.getD j (0, 0)).2 < (P.getD i (0, 0)).2)) = false) : insL P ss i (j + 1) = insL P ss i j := by
  unfold insL
  rw [List.range_succ, List.filter_append, List.map_append, List.filter_cons, if_neg (by rw [h]; decide)]
  simp
theorem size_next {P : List (Int × Int)} {ss : List Int} {i : Nat} {M : Int} (hl : ss.length = i) (hok : ∀ k, k < i → SizeOk P ss k) (hM : M ∈ [0] ++ insL P ss i i) (hle : ∀ a, a ∈ [0] ++ insL P ss i i → a ≤ M) : ∀ k, k < i + 1 → SizeOk P (ss ++ [1 + M]) k := by
  have e1 : ∀ j, j < i → (ss ++ [1 + M]).getD j 0 = ss.getD j 0 := fun j hj => by rw [List.getD, List.getD, List.getElem?_append_left (by omega)]
  have e2 : (ss ++ [1 + M]).getD i 0 = 1 + M := by rw [List.getD, List.getElem?_append_right (by omega), hl]; simp
  intro k hk
  by_cases q : k < i
  · obtain ⟨a, b, c⟩ := hok k q
    unfold SizeOk
    rw [e1 k q]
    refine ⟨fun j hj h1 h2 => by rw [e1 j (by omega)]; exact a j hj h1 h2, b, c.imp id ?_⟩
    rintro ⟨j, hj, h1, h2, h3⟩
    exact ⟨j, hj, h1, h2, by rw [e1 j (by omega)]; exact h3⟩
  · obtain rfl : k = i := by omega
    unfold SizeOk
    rw [e2]
    refine ⟨fun j hj h1 h2 => ?_, ?_, ?_⟩
    · rw [e1 j hj]
      have := hle (ss.getD j 0) (List.mem_append_right _ (List.mem_map_of_mem (f := fun j => ss.getD j 0) (List.mem_filter.mpr ⟨List.mem_range.mpr hj, by simp only [h1, h2, decide_true, Bool.and_self]⟩)))
      omega
    · have := hle 0 (by simp)
      omega
    · rcases List.mem_append.mp hM with h | h
      · rw [List.mem_singleton.mp h]; exact .inl (by omega)
      · obtain ⟨j, hj, e⟩ := List.mem_map.mp h
        obtain ⟨h1, h2⟩ := List.mem_filter.mp hj
        simp only [Bool.and_eq_true, decide_eq_true_eq] at h2
        have hj' := List.mem_range.mp h1
        exact .inr ⟨j, hj', h2.1, h2.2, by rw [e1 j hj']; omega⟩
theorem law_sizes {w : World} {s : Shared} {Q : Flow → Shared → Prop} {mg mb : Str → Option Value} {p : Program} {loose : List Str} {base : Heap} {L fa D5 Tb : Addr} {bx : List BoxD} {m₀ : Str → Option Value} {o2 o3 o4 : Obj} {v3 v4 : Option Value} {ep ept : Nat} {tv : List Value} {R : List (Addr × Obj)} {ps : Array Value}
    (X : (hd03.heap_39 w.params).In base) (T : TopRead p loose mg mb base) (hbl : bx.length ≤ 31) (hsrt : BoxSrt (bx.map boxP))
    (F : Fr base L s.heap m₀) (hm0 : m₀ (Str.ofString "table") = some (.ref Tb)) (N : News base L s.heap ((L + 1 + 1 + 1 + 1, o4) :: (L + 1 + 1 + 1, o3) :: R)) (hT : (Tb, listOf (List.toArray tv) ept) ∈ R) (hD : (D5, listOf (bx.map boxR).toArray ep) ∈ R) (hb : ∀ b ∈ bx, boxE b ∈ R) (h2 : (L + 1 + 1, o2) ∈ R) (h25 : (25, tabObj ps) ∈ R)
    (hR3 : ∀ p ∈ R, p.1 ≠ L + 1 + 1 + 1) (hR4 : ∀ p ∈ R, p.1 ≠ L + 1 + 1 + 1 + 1) (ho4 : o4.data = .cell v4) (ho3 : o3.data = .cell v3) (ho2 : o2.data = .cell (some (.ref D5))) (htv : IntsAre tv (tabAll ((bx.map boxP).map (·.2))))
    (hQ : ∀ h' tk m' ps, Fr base L h' m' → News base L h' [(25, tabObj ps)] → Q (.ret (.bool true)) { s with heap := h', toks := tk }) :
    wpAny (model PySem.Challenge.rw_cy0003_03.prog w) (callerA.deeper (envOfC (Str.ofString "law") lawScope L fa (.ref 27))) (execs lawRest2 (envOfC (Str.ofString "law") lawScope L fa (.ref 27))) Q (fun _ _ => False) s := by
  replace F := fr_put (Str.ofString "table") F hm0
  dsimp only [lawRest2, List.drop, lawBody, lawScope, PySem.Challenge.pw_cy0003_03, List.getLast?, List.getLast, Option.map, Option.bind, Option.getD, fdBody, fdScope]
  w_on
  iterate 5 (first | walk1 | (dsimp only; walk1))
  (rename Fr _ _ _ _ => F1); (rename News _ _ _ _ => N1); (rename _ ∧ _ ∧ AllLt _ R => l1); rename_i Sz h1
  have hS4 : Sz ≠ L + 1 + 1 + 1 + 1 := Nat.ne_of_gt l1.1
  have hS3 : Sz ≠ L + 1 + 1 + 1 := Nat.ne_of_gt l1.2.1
  have hSR : ∀ p ∈ R, p.1 ≠ Sz := tbn_neAll l1.2.2
  clear l1
  refine stCN (own := [(Sz, listOf #[] 0), (L + 1 + 1 + 1 + 1, o4)]) F1 N1 rfl ho3 ?_ hR3 ?_
  · intro p hp
    rcases List.mem_cons.mp hp with rfl | hp
    · exact hS3
    rw [List.mem_singleton.mp hp]; exact ad1.1
  intro h2' o3' F2 N2 ho3'
  replace N2 : News base L h2' ((Sz, listOf (List.toArray []) 0) :: (L + 1 + 1 + 1 + 1, o4) :: (L + 1 + 1 + 1, o3') :: R) := N2
  clear F1 N1 ho3
  dsimp only
  iterate 1 (first | walk1 | (dsimp only; walk1))
  refine for_gen ?_
  iterate 8 (first | walk1 | (dsimp only; walk1))
  refine ldCN (c := L + 1 + 1) N2 rfl (.tail _ (.tail _ (.tail _ h2))) ho2 ?_
  iterate 1 (first | walk1 | (dsimp only; walk1))
  refine call_len_list (News.isList N2 (.tail _ (.tail _ (.tail _ hD)))) (by simp; omega) ?_
  rw [List.size_toArray, List.length_map]
  iterate 2 (first | walk1 | (dsimp only; walk1))
  (rename Fr _ _ _ _ => F3); (rename News _ _ _ _ => N3); (rename IsRange _ _ _ _ _ _ _ _ => R3)
  refine iter_range (fun i m nx => ∃ sv eps ss o4' v4', nx = (Sz, listOf (List.toArray sv) eps) :: (L + 1 + 1 + 1 + 1, o4') :: (L + 1 + 1 + 1, o3') :: R ∧ o4'.data = .cell v4' ∧ IntsAre sv ss ∧ ss.length = i ∧ (∀ k, k < i → SizeOk (bx.map boxP) ss k) ∧ m (Str.ofString "table") = some (.ref Tb))
      (n := bx.length) (by intro _ _; rfl) rfl R3 (small_one (by omega) (by omega) (by omega) (by omega)) (by rw [rangeSize_nat]; omega) F3 N3 ?_ ?_ ?_
  · exact ⟨[], 0, [], o4, v4, rfl, ho4, .nil, rfl, fun k hk => absurd hk (Nat.not_lt_zero _), rfl⟩
  · rintro i t m₁ nx h tk₁ I oI hi ⟨sv, eps, ss, o4', v4', rfl, ho4', hsv, hsl, hok, hmt⟩ hoff hIlt F₁ N₁
    replace F₁ := fr_put (Str.ofString "table") F₁ hmt
    rw [Int.zero_add]
    have hSI : Sz ≠ I := hoff (Sz, _) (List.Mem.head _)
    have h4I : L + 1 + 1 + 1 + 1 ≠ I := hoff (L + 1 + 1 + 1 + 1, o4') (List.Mem.tail _ (List.Mem.head _))
    have h3I : L + 1 + 1 + 1 ≠ I := hoff (L + 1 + 1 + 1, o3') (List.Mem.tail _ (List.Mem.tail _ (List.Mem.head _)))
    have hRI : ∀ p ∈ R, p.1 ≠ I := fun p hp => hoff p (.tail _ (.tail _ (.tail _ hp)))
    iterate 1 (first | walk1 | (dsimp only; walk1))
    refine stCN (own := [(Sz, listOf (List.toArray sv) eps)]) (rest := (L + 1 + 1 + 1, o3') :: (R ++ [(I, oI)])) F₁ N₁ rfl ho4' ?_ ?_ ?_
    · intro p hp
      rw [List.mem_singleton.mp hp]; exact hS4
    · intro p hp
      rcases List.mem_cons.mp hp with rfl | hp
      · exact ad1.1.symm
      rcases List.mem_append.mp hp with hp | hp
      · exact hR4 p hp
      rw [List.mem_singleton.mp hp]; exact h4I.symm
    intro h4 o4n F4 N4 ho4n
    replace N4 : News base L h4 ((Sz, listOf (List.toArray sv) eps) :: (L + 1 + 1 + 1 + 1, o4n) :: (L + 1 + 1 + 1, o3') :: (I, oI) :: R) := fun p hp => N4 p (by
      simp only [List.mem_cons, List.mem_append, List.not_mem_nil, or_false, List.cons_append, List.nil_append] at hp ⊢
      rcases hp with hp | hp | hp | hp | hp
      · exact .inl hp
      · exact .inr (.inl hp)
      · exact .inr (.inr (.inl hp))
      · exact .inr (.inr (.inr (.inr hp)))
      · exact .inr (.inr (.inr (.inl hp))))
    clear F₁ N₁ ho4' ho4
    iterate 1 (first | walk1 | (dsimp only; walk1))
    refine LCt.Assign_ListComp_T (F₀ := F4) (by rfl) (by with_unfolding_all rfl) (by with_unfolding_all rfl) (by decide) (by rfl) (by decide) (by rfl) (by rfl) (by rfl) ?_
    iterate 4 (first | walk1 | (dsimp only; walk1))
    refine ldCN (c := L + 1 + 1 + 1 + 1) N4 rfl (.tail _ (.head _)) ho4n ?_
    iterate 2 (first | walk1 | (dsimp only; walk1))
    (rename Fr _ _ _ _ => F5); (rename News _ _ _ _ => N5); (rename IsRange _ _ _ _ _ _ _ _ => R5)
    refine LCt.CompSrcT.range (n := i) rfl F5 N5 R5 (small_one (by omega) (by omega) (by omega) (by omega)) (by rw [rangeSize_nat]; omega) (by simp [sizeLine_eq]; omega) ?_
    intro g5
    obtain ⟨bi, hbi⟩ : ∃ bi, bx[i]? = some bi := ⟨bx[i], by simp⟩
    have hbim : bi ∈ bx := List.mem_of_getElem? hbi
    have hPi : (bx.map boxP).getD i (0, 0) = (bi.w, bi.h) := by rw [List.getD, List.getElem?_map, hbi]; rfl
    refine compT_ind (fun j ys news => news = (Sz, listOf (List.toArray sv) eps) :: (L + 1 + 1 + 1 + 1, o4n) :: (L + 1 + 1 + 1, o3') :: (I, oI) :: R ∧ IntsAre ys (insL (bx.map boxP) ss i j)) ?_ ?_ _ 0 [] _ (Nat.zero_add _) ⟨rfl, .nil⟩
    · rintro j ys news v I' oI' C oC D m₃ h8 tk8 E' hj ⟨rfl, hys⟩ ⟨t8, rfl⟩ hN hxr F8 N8 off8 ne8
      rw [Int.zero_add] at hxr
      obtain ⟨bj, hbj⟩ : ∃ bj, bx[j]? = some bj := ⟨bx[j]'(by omega), by simp [show j < bx.length by omega]⟩
      have hbjm : bj ∈ bx := List.mem_of_getElem? hbj
      have hPj : (bx.map boxP).getD j (0, 0) = (bj.w, bj.h) := by rw [List.getD, List.getElem?_map, hbj]; rfl
      have mR : ∀ {p}, p ∈ R → p ∈ (I', oI') :: (C, oC) :: (D, LCg.lst ys) :: (Sz, listOf (List.toArray sv) eps) :: (L + 1 + 1 + 1 + 1, o4n) :: (L + 1 + 1 + 1, o3') :: (I, oI) :: R := fun hp => .tail _ (.tail _ (.tail _ (.tail _ (.tail _ (.tail _ (.tail _ hp))))))
      have mB : ∀ {p}, p ∈ (Sz, listOf (List.toArray sv) eps) :: (L + 1 + 1 + 1 + 1, o4n) :: (L + 1 + 1 + 1, o3') :: (I, oI) :: R → p ∈ (I', oI') :: (C, oC) :: (D, LCg.lst ys) :: (Sz, listOf (List.toArray sv) eps) :: (L + 1 + 1 + 1 + 1, o4n) :: (L + 1 + 1 + 1, o3') :: (I, oI) :: R := fun hp => .tail _ (.tail _ (.tail _ hp))
      have gj : (bx.map boxR)[(j : Int).toNat]? = some (.ref bj.a) := by rw [Int.toNat_natCast, List.getElem?_map, hbj]; rfl
      have gi : (bx.map boxR)[(i : Int).toNat]? = some (.ref bi.a) := by rw [Int.toNat_natCast, List.getElem?_map, hbi]; rfl
      have tj := (N8 _ (mR (hb bj hbjm))).1
      have ti := (N8 _ (mR (hb bi hbim))).1
      iterate 4 (first | walk1 | (dsimp only; walk1))
      refine lcf_cell N8 (c := L + 1 + 1) rfl (mR h2) ho2 ?_ rfl rfl
      refine compName_L (N8 _ (.tail _ (.head _))).1 hN hxr ?_ rfl rfl (by decide)
      refine item_val (News.isList N8 (mR hD)) (by omega) (by omega) gj ?_ (by with_unfolding_all rfl)
      iterate 1 (first | walk1 | (dsimp only; walk1))
      refine tup_item tj (by omega) (by simp [boxV]) (by omega) rfl ?_ (by with_unfolding_all rfl)
      iterate 2 (first | walk1 | (dsimp only; walk1))
      refine lcf_cell N8 (c := L + 1 + 1) rfl (mR h2) ho2 ?_ rfl rfl
      refine lcf_cell N8 (c := L + 1 + 1 + 1 + 1) rfl (mB (.tail _ (.head _))) ho4n ?_ rfl rfl
      refine item_val (News.isList N8 (mR hD)) (by omega) (by omega) gi ?_ (by with_unfolding_all rfl)
      iterate 1 (first | walk1 | (dsimp only; walk1))
      refine tup_item ti (by omega) (by simp [boxV]) (by omega) rfl ?_ (by with_unfolding_all rfl)
      iterate 2 (first | walk1 | (dsimp only; walk1))
      by_cases hw : bj.w < bi.w
      · rw [if_pos (decide_eq_true hw)]
        iterate 4 (first | walk1 | (dsimp only; walk1))
        refine lcf_cell N8 (c := L + 1 + 1) rfl (mR h2) ho2 ?_ rfl rfl
        refine compName_L (N8 _ (.tail _ (.head _))).1 hN hxr ?_ rfl rfl (by decide)
        refine item_val (News.isList N8 (mR hD)) (by omega) (by omega) gj ?_ (by with_unfolding_all rfl)
        iterate 1 (first | walk1 | (dsimp only; walk1))
        refine tup_item tj (by omega) (by simp [boxV]) (by omega) rfl ?_ (by with_unfolding_all rfl)
        iterate 2 (first | walk1 | (dsimp only; walk1))
        refine lcf_cell N8 (c := L + 1 + 1) rfl (mR h2) ho2 ?_ rfl rfl
        refine lcf_cell N8 (c := L + 1 + 1 + 1 + 1) rfl (mB (.tail _ (.head _))) ho4n ?_ rfl rfl
        refine item_val (News.isList N8 (mR hD)) (by omega) (by omega) gi ?_ (by with_unfolding_all rfl)
        iterate 1 (first | walk1 | (dsimp only; walk1))
        refine tup_item ti (by omega) (by simp [boxV]) (by omega) rfl ?_ (by with_unfolding_all rfl)
        iterate 2 (first | walk1 | (dsimp only; walk1))
        by_cases hh : bj.h < bi.h
        · rw [if_pos (decide_eq_true hh)]
          iterate 1 (first | walk1 | (dsimp only; walk1))
          rw [if_pos rfl]
          iterate 1 (first | walk1 | (dsimp only; walk1))
          refine lcf_cell N8 (c := L + 1 + 1 + 1) rfl (mB (.tail _ (.tail _ (.head _)))) ho3' ?_ rfl rfl
          refine compName_L (N8 _ (.tail _ (.head _))).1 hN hxr ?_ rfl rfl (by decide)
          refine item_anyK (News.isList N8 (mB (.head _))) hsv (by omega) (by omega) (by omega) (fun t9 => ?_) (by with_unfolding_all rfl)
          refine ⟨h8, _, _, rfl, F8, N8, off8, trivial, rfl, ?_⟩
          rw [insL_yes (by rw [hPi, hPj]; simp [hw, hh]), Int.toNat_natCast]
          exact hys.append (.cons _ _ .nil)
        · rw [if_neg (by simpa using hh), if_neg (by decide)]
          refine ⟨h8, _, _, rfl, F8, N8, off8, trivial, rfl, ?_⟩
          rw [insL_no (by rw [hPi, hPj]; simp [hh])]
          exact hys
      · rw [if_neg (by simpa using hw), if_neg (by decide)]
        refine ⟨h8, _, _, rfl, F8, N8, off8, trivial, rfl, ?_⟩
        rw [insL_no (by rw [hPi, hPj]; simp [hw])]
        exact hys
    · rintro ys news ⟨rfl, hys⟩ D9 h9 tk9 F9 N9 off9
      have off9' := off1_mem off9
      dsimp only
      iterate 3 (first | walk1 | (dsimp only; walk1))
      refine ldCN (c := L + 1 + 1 + 1) N9 rfl (.tail _ (.tail _ (.tail _ (.head _)))) ho3' ?_
      refine kl_method N9 (.tail _ (.head _)) PySem.F.slot_list_append PySem.F.type_list_append ?_
      iterate 14 (first | walk1 | (dsimp only; walk1))
      iterate 1 (first | walk1 | (dsimp only; walk1))
      (rename Fr _ _ _ _ => F10); (rename News _ _ _ _ => N10)
      have hil : (insL (bx.map boxP) ss i i).length ≤ i := by
        unfold insL
        rw [List.length_map]
        exact Nat.le_trans (List.length_filter_le _ _) (by simp)
      refine kmk_add_ints (ns := [0]) F10 N10 (News.isList N10 (.head _)) (News.isList N10 (.tail _ (.head _))) (.cons _ _ .nil) hys ?_ (by rw [sizeLine_eq]; simp; omega)
      intro D11 us11 h11 F11 N11 l11 hi11
      iterate 1 (first | walk1 | (dsimp only; walk1))
      refine kso_max F11 N11 (News.isList N11 (.head _)) hi11 (by simp) rfl ?_
      intro h12 M t12 tk12 F12 N12 hM hMle
      replace N12 : News base L h12 ((Sz, listOf (List.toArray sv) eps) :: (L + 1 + 1 + 1 + 1, o4n) :: (L + 1 + 1 + 1, o3') :: (I, oI) :: R) := fun p hp => N12 p (.tail _ (.tail _ (.tail _ hp)))
      clear F10 N10 F11 N11
      iterate 2 (first | walk1 | (dsimp only; walk1))
      refine append_K F12 N12 (.head ?_) ?_ (by rw [List.size_toArray, hsv.length, sizeLine_eq]; omega)
      · intro p hp
        rcases List.mem_cons.mp hp with rfl | hp
        · exact hS4.symm
        rcases List.mem_cons.mp hp with rfl | hp
        · exact hS3.symm
        rcases List.mem_cons.mp hp with rfl | hp
        · exact hSI.symm
        exact hSR p hp
      intro h13 F13 N13
      iterate 2 (first | walk1 | (dsimp only; walk1))
      refine ⟨h13, _, _, (Sz, listOf (List.toArray (sv ++ [.int (1 + M) tk12])) (eps + 1)) :: (L + 1 + 1 + 1 + 1, o4n) :: (L + 1 + 1 + 1, o3') :: R, rfl, F13, ?_, ?_, _, eps + 1, ss ++ [1 + M], o4n, _, rfl, ho4n, hsv.append (.cons _ _ .nil), by simp [hsl], size_next hsl hok hM hMle, rfl⟩
      · intro p hp
        refine N13 p ?_
        rcases List.mem_append.mp hp with hp | hp
        · rcases List.mem_cons.mp hp with rfl | hp
          · simp
          rcases List.mem_cons.mp hp with rfl | hp
          · exact .tail _ (.head _)
          rcases List.mem_cons.mp hp with rfl | hp
          · exact .tail _ (.tail _ (.head _))
          exact .tail _ (.tail _ (.tail _ (.tail _ hp)))
        · rw [List.mem_singleton.mp hp]
          exact .tail _ (.tail _ (.tail _ (.head _)))
      · intro p hp
        rcases List.mem_cons.mp hp with rfl | hp
        · exact hSI
        rcases List.mem_cons.mp hp with rfl | hp
        · exact h4I
        rcases List.mem_cons.mp hp with rfl | hp
        · exact h3I
        exact hRI p hp
  · rintro m₁ nx h tk₁ ⟨sv, eps, ss, o4', v4', rfl, ho4', hsv, hsl, hok, hmt⟩ F₁ N₁
    replace F₁ := fr_put (Str.ofString "table") F₁ hmt
    have htl : (tabAll ((bx.map boxP).map (·.2))).length ≤ 31 := by
      have := tabAll_len ((bx.map boxP).map (·.2))
      simp only [List.length_map] at this
      omega
    iterate 9 (first | walk1 | (dsimp only; walk1))
    refine len_ints_fit (News.isList N₁ (.tail _ (.tail _ (.tail _ hT)))) htv (by omega) ?_
    iterate 10 (first | walk1 | (dsimp only; walk1))
    (rename Fr _ _ _ _ => F2); (rename News _ _ _ _ => N2)
    refine ldCN (c := L + 1 + 1 + 1) N2 rfl (.tail _ (.tail _ (.tail _ (.head _)))) ho3' ?_
    refine kmk_add_ints (ns := [0]) F2 N2 (News.isList N2 (.head _)) (News.isList N2 (.tail _ (.head _))) (.cons _ _ .nil) hsv ?_ (by rw [sizeLine_eq]; simp; omega)
    intro D11 us11 h11 F11 N11 l11 hi11
    iterate 1 (first | walk1 | (dsimp only; walk1))
    refine kso_max F11 N11 (News.isList N11 (.head _)) hi11 (by simp) rfl ?_
    intro h12 M t12 tk12 F12 N12 hM hMle
    iterate 1 (first | walk1 | (dsimp only; walk1))
    rw [patience_len (bx := bx.map boxP) (ss := ss) (M := M) hsrt (by simpa using hsl) (fun i hi => hok i (by simpa using hi)) ?_ (hMle 0 (by simp)) (fun x hx => hMle x (List.mem_append_right _ hx))]
    · rw [beq_self_eq_true]
      exact hQ _ _ _ ps F12 (fun p hp => by rw [List.mem_singleton.mp hp]; exact N12 _ (.tail _ (.tail _ (.tail _ (.tail _ (.tail _ h25))))))
    · rcases List.mem_append.mp hM with h | h
      · exact .inl (List.mem_singleton.mp h)
      · exact .inr h
end Mine
namespace Mine
theorem law_rest {w : World} {s : Shared} {Q : Flow → Shared → Prop} {mg mb : Str → Option Value} {p : Program} {loose : List Str} {base : Heap} {L fa D5 : Addr} {bx : List BoxD} {m₀ : Str → Option Value} {o2 o3 o4 : Obj} {v3 v4 : Option Value} {ep : Nat} {ps : Array Value}
    (X : (hd03.heap_39 w.params).In base) (T : TopRead p loose mg mb base) (hbl : bx.length ≤ 31) (hsrt : BoxSrt (bx.map boxP))
    (F : Fr base L s.heap m₀) (N : News base L s.heap ((D5, listOf (bx.map boxR).toArray ep) :: (bx.map boxE ++ [(L + 1 + 1 + 1 + 1, o4), (L + 1 + 1 + 1, o3), (L + 1 + 1, o2), (25, tabObj ps)])))
    (ho4 : o4.data = .cell v4) (ho3 : o3.data = .cell v3) (ho2 : o2.data = .cell (some (.ref D5))) (h25 : 25 < L)
    (hQ : ∀ h' tk m' ps, Fr base L h' m' → News base L h' [(25, tabObj ps)] → Q (.ret (.bool true)) { s with heap := h', toks := tk }) :
    wpAny (model PySem.Challenge.rw_cy0003_03.prog w) (callerA.deeper (envOfC (Str.ofString "law") lawScope L fa (.ref 27))) (execs lawRest (envOfC (Str.ofString "law") lawScope L fa (.ref 27))) Q (fun _ _ => False) s := by
  have m4 : (L + 1 + 1 + 1 + 1, o4) ∈ (D5, listOf (bx.map boxR).toArray ep) :: (bx.map boxE ++ [(L + 1 + 1 + 1 + 1, o4), (L + 1 + 1 + 1, o3), (L + 1 + 1, o2), (25, tabObj ps)]) := .tail _ (List.mem_append_right _ (.head _))
  have m3 : (L + 1 + 1 + 1, o3) ∈ (D5, listOf (bx.map boxR).toArray ep) :: (bx.map boxE ++ [(L + 1 + 1 + 1 + 1, o4), (L + 1 + 1 + 1, o3), (L + 1 + 1, o2), (25, tabObj ps)]) := .tail _ (List.mem_append_right _ (.tail _ (.head _)))
  have m2 : (L + 1 + 1, o2) ∈ (D5, listOf (bx.map boxR).toArray ep) :: (bx.map boxE ++ [(L + 1 + 1 + 1 + 1, o4), (L + 1 + 1 + 1, o3), (L + 1 + 1, o2), (25, tabObj ps)]) := .tail _ (List.mem_append_right _ (.tail _ (.tail _ (.head _))))
  have mb' : ∀ b ∈ bx, boxE b ∈ (D5, listOf (bx.map boxR).toArray ep) :: (bx.map boxE ++ [(L + 1 + 1 + 1 + 1, o4), (L + 1 + 1 + 1, o3), (L + 1 + 1, o2), (25, tabObj ps)]) := fun b hb => .tail _ (List.mem_append_left _ (List.mem_map_of_mem (f := boxE) hb))
  refine law_tab (D5 := D5) (bx := bx) (o2 := o2) X T hbl F N (.head _) mb' m2 ho2 ?_
  intro h21 tk21 m21 Tb tv ept F21 hm21 N21 hTb htv
  have key : ∀ (c : Addr) (oc : Obj) (vc : Option Value), oc.data = .cell vc → (c, oc) ∈ (D5, listOf (bx.map boxR).toArray ep) :: (bx.map boxE ++ [(L + 1 + 1 + 1 + 1, o4), (L + 1 + 1 + 1, o3), (L + 1 + 1, o2), (25, tabObj ps)]) → L + 1 + 1 ≠ c → 25 ≠ c →
      ∀ p ∈ (Tb, listOf (List.toArray tv) ept) :: (D5, listOf (bx.map boxR).toArray ep) :: (bx.map boxE ++ [(L + 1 + 1, o2), (25, tabObj ps)]), p.1 ≠ c := by
    intro c oc vc hoc hc hc2 hc5 p hp
    rcases List.mem_cons.mp hp with rfl | hp
    · exact (hTb _ hc).symm
    rcases List.mem_cons.mp hp with rfl | hp
    · exact ne_data (q := (c, oc)) N (.head _) hc (by rw [hoc]; intro q; cases q)
    rcases List.mem_append.mp hp with hp | hp
    · refine ne_data (q := (c, oc)) N (.tail _ (List.mem_append_left _ hp)) hc ?_
      obtain ⟨xs, n, e⟩ := box_data hp
      rw [e, hoc]; intro q; cases q
    rcases List.mem_cons.mp hp with rfl | hp
    · exact hc2
    rw [List.mem_singleton.mp hp]; exact hc5
  refine law_sizes (R := (Tb, listOf (List.toArray tv) ept) :: (D5, listOf (bx.map boxR).toArray ep) :: (bx.map boxE ++ [(L + 1 + 1, o2), (25, tabObj ps)])) (ps := ps) (ep := ep) (Tb := Tb) (tv := tv) (ept := ept) (D5 := D5) (bx := bx) (o2 := o2) (o3 := o3) (o4 := o4) X T hbl hsrt F21 hm21 ?_
    (.head _) (.tail _ (.head _)) (fun b hb => .tail _ (.tail _ (List.mem_append_left _ (List.mem_map_of_mem (f := boxE) hb)))) (.tail _ (.tail _ (List.mem_append_right _ (.head _)))) (.tail _ (.tail _ (List.mem_append_right _ (.tail _ (.head _)))))
    (key _ _ _ ho3 m3 ad1.2.2.2.1.symm (ad2 h25).2.2.1) (key _ _ _ ho4 m4 ad1.2.1.symm (ad2 h25).2.2.2) ho4 ho3 ho2 htv ?_
  · intro p hp
    refine N21 p ?_
    rcases List.mem_cons.mp hp with rfl | hp
    · exact .tail _ m4
    rcases List.mem_cons.mp hp with rfl | hp
    · exact .tail _ m3
    rcases List.mem_cons.mp hp with rfl | hp
    · exact .head _
    rcases List.mem_cons.mp hp with rfl | hp
    · exact .tail _ (.head _)
    rcases List.mem_append.mp hp with hp | hp
    · exact .tail _ (.tail _ (List.mem_append_left _ hp))
    rcases List.mem_cons.mp hp with rfl | hp
    · exact .tail _ m2
    rw [List.mem_singleton.mp hp]
    exact .tail _ (.tail _ (List.mem_append_right _ (.tail _ (.tail _ (.tail _ (.head _))))))
  · intro h' tk m' ps' F' N'
    exact hQ h' tk m' ps' F' N'
end Mine
namespace Mine
theorem fillK03d : (∀ p : Program, p = PySem.Challenge.rw_cy0003_03.prog → p = p) ∧ hd03.heap_39 = hd03.heap_39 := by
  k_fill
  exact ⟨fun _ _ => rfl, rfl⟩

theorem law_body {w : World} {s : Shared} {Q : Flow → Shared → Prop} {mg mb : Str → Option Value} {p : Program} {loose : List Str} {mean : ExcName → Option Value} {base : Heap} {L fa l : Addr} {vs : List Value} {ns : List Int} {m₀ : Str → Option Value} {o1 o2 o3 o4 : Obj} {v2 v3 v4 : Option Value}
    (X : (hd03.heap_39 w.params).In base) (T : Top p loose mean mg mb base) (C : CodeHd base 27 25) (hl : base.IsList l vs.toArray) (hi : IntsAre vs ns) (hlen : ns.length ≤ 63)
    (F : Fr base L s.heap m₀) (N : News base L s.heap [(L + 1 + 1 + 1 + 1, o4), (L + 1 + 1 + 1, o3), (L + 1 + 1, o2), (L + 1, o1), (25, tabObj #[])])
    (ho4 : o4.data = .cell v4) (ho3 : o3.data = .cell v3) (ho2 : o2.data = .cell v2) (ho1 : o1.data = .cell (some (.ref l))) (h25 : 25 < L)
    (hQ : ∀ h' tk m' ps, Fr base L h' m' → News base L h' [(25, tabObj ps)] → Q (.ret (.bool true)) { s with heap := h', toks := tk }) :
    wpAny (model PySem.Challenge.rw_cy0003_03.prog w) (callerA.deeper (envOfC (Str.ofString "law") lawScope L fa (.ref 27))) (execs lawBody (envOfC (Str.ofString "law") lawScope L fa (.ref 27))) Q (fun _ _ => False) s := by
  dsimp only [lawBody, lawScope, PySem.Challenge.pw_cy0003_03, List.getLast?, List.getLast, Option.map, Option.bind, Option.getD, fdBody, fdScope]
  w_on
  have T' := topRead_of T
  iterate 2 (first | walk1 | (dsimp only; walk1))
  refine listComp_R (h₀ := base) (L := L) F (by with_unfolding_all rfl) (by decide) rfl (by decide) rfl ?_
  iterate 11 (first | walk1 | (dsimp only; walk1))
  refine ldCN N rfl (.tail _ (.tail _ (.tail _ (.head _)))) ho1 ?_
  iterate 1 (first | walk1 | (dsimp only; walk1))
  refine len_ints_fit (F.lst hl) hi (by omega) ?_
  iterate 6 (first | walk1 | (dsimp only; walk1))
  (rename Fr _ _ _ _ => F1); (rename News _ _ _ _ => N1); (rename IsRange _ _ _ _ _ _ _ _ => R1)
  have hrs : Builtin.Range.rangeSize 0 ((ns.length : Int) - 1) 2 = ((ns.length / 2 : Nat) : Int) := by
    unfold Builtin.Range.rangeSize
    simp only [show (2 : Int) > 0 from by decide, if_true]
    split <;> omega
  refine ⟨_, _, _, _, _, _, _, ns.length / 2, _, rfl, rfl, F1, N1, R1, ?_, hrs, by simp [sizeLine_eq]; omega, ?_⟩
  · unfold Builtin.Range.small
    rw [hrs]
    simp only [Builtin.Range.rangeFitsLong, Bool.and_eq_true, Bool.or_eq_true, decide_eq_true_eq, beq_iff_eq, show (2 : Int) > 0 by decide, if_true]
    omega
  intro g1
  refine compU_ind (fun i ys news => ∃ bx : List BoxD, news = bx.map boxE ++ [(L + 1 + 1 + 1 + 1, o4), (L + 1 + 1 + 1, o3), (L + 1 + 1, o2), (L + 1, o1), (25, tabObj #[])] ∧ ys = bx.map boxR ∧ bx.length = i) ?_ ?_ _ 0 [] _ (Nat.zero_add _) ⟨[], rfl, rfl, rfl⟩
  · rintro i ys news v I' oI' Cc oC D m₃ h8 tk8 E' hin ⟨bx, rfl, rfl, hbl⟩ ⟨t9, rfl⟩ hN hxr F8 N8 off8 ne8
    have hms : (L + 1, o1) ∈ (I', oI') :: (Cc, oC) :: (D, LCg.lst (bx.map boxR)) :: (bx.map boxE ++ [(L + 1 + 1 + 1 + 1, o4), (L + 1 + 1 + 1, o3), (L + 1 + 1, o2), (L + 1, o1), (25, tabObj #[])]) := .tail _ (.tail _ (.tail _ (List.mem_append_right _ (by simp))))
    have ei : (0 : Int) + (i : Nat) * 2 = ((2 * i : Nat) : Int) := by omega
    rw [ei] at hxr
    iterate 3 (first | walk1 | (dsimp only; walk1))
    refine lcf_cell N8 (c := L + 1) rfl hms ho1 ?_ rfl rfl
    refine compName_L (N8 _ (.tail _ (.head _))).1 hN hxr ?_ rfl rfl (by decide)
    refine item_anyK (F8.lst hl) hi (by omega) (by omega) (by omega) (fun t10 => ?_) (by with_unfolding_all rfl)
    iterate 2 (first | walk1 | (dsimp only; walk1))
    refine lcf_cell N8 (c := L + 1) rfl hms ho1 ?_ rfl rfl
    iterate 1 (first | walk1 | (dsimp only; walk1))
    refine compName_L (N8 _ (.tail _ (.head _))).1 hN hxr ?_ rfl rfl (by decide)
    iterate 2 (first | walk1 | (dsimp only; walk1))
    refine item_anyK (F8.lst hl) hi (by omega) (by omega) (by omega) (fun t11 => ?_) (by with_unfolding_all rfl)
    iterate 1 (first | walk1 | (dsimp only; walk1))
    refine kup_newTuple F8 N8 ?_ (by simp [sizeLine_eq])
    intro Dt h9 F9 N9 l9
    have off8' := LCg.Off3.mem off8
    let nb : BoxD := ⟨Dt, ns.getD (Int.toNat ((2 * i : Nat) : Int)) 0, ns.getD (Int.toNat (((2 * i : Nat) : Int) + 1)) 0, t10, t11⟩
    have hnb : (Dt, ({ cls := .type "tuple", data := .seq [Value.int (ns.getD (Int.toNat ((2 * i : Nat) : Int)) 0) t10, Value.int (ns.getD (Int.toNat (((2 * i : Nat) : Int) + 1)) 0) t11].toArray } : Obj)) = boxE nb := rfl
    rw [hnb] at N9
    refine ⟨h9, _, (bx ++ [nb]).map boxE ++ [(L + 1 + 1 + 1 + 1, o4), (L + 1 + 1 + 1, o3), (L + 1 + 1, o2), (L + 1, o1), (25, tabObj #[])], rfl, F9, fun p hp => N9 p ?_, LCg.Off3.of fun p hp => ?_, trivial, bx ++ [nb], rfl, ?_, by simp [hbl]⟩
    · simp only [List.map_append, List.map_cons, List.map_nil, List.append_assoc, List.mem_cons, List.mem_append, List.not_mem_nil, or_false] at hp ⊢
      rcases hp with hp | hp | hp | hp | hp | hp
      · exact .inr (.inl hp)
      · exact .inr (.inr (.inl hp))
      · exact .inr (.inr (.inr (.inl hp)))
      · exact .inr (.inr (.inr (.inr (.inl hp))))
      · exact .inl hp
      · exact .inr (.inr (.inr (.inr (.inr hp))))
    · rw [List.map_append, List.append_assoc] at hp
      rcases List.mem_append.mp hp with hp | hp
      · exact off8' p (List.mem_append_left _ hp)
      rcases List.mem_append.mp hp with hp | hp
      · rw [List.mem_singleton.mp hp]
        exact ⟨Nat.ne_of_gt (l9 (I', oI') (.head _)), Nat.ne_of_gt (l9 (Cc, oC) (.tail _ (.head _))), Nat.ne_of_gt (l9 (D, LCg.lst (bx.map boxR)) (.tail _ (.tail _ (.head _))))⟩
      · exact off8' p (List.mem_append_right _ hp)
    · simp [boxR, nb]
  · rintro ys news ⟨bx, rfl, rfl, hbl⟩ D5 h5 tk5 F5 N5 off5
    have off5' := off1_mem off5
    have hbc : ∀ p ∈ bx.map boxE, p.1 ≠ L + 1 + 1 := fun p hp => ne_data (q := (L + 1 + 1, o2)) N5 (.tail _ (List.mem_append_left _ hp)) (.tail _ (List.mem_append_right _ (by simp))) (by
      obtain ⟨xs, n, e⟩ := box_data hp
      rw [e, ho2]; intro q; cases q)
    have N5' : News base L h5 (((D5, LCg.lst (bx.map boxR)) :: (bx.map boxE ++ [(L + 1 + 1 + 1 + 1, o4), (L + 1 + 1 + 1, o3)])) ++ (L + 1 + 1, o2) :: [(L + 1, o1), (25, tabObj #[])]) := by simpa using N5
    refine stCN F5 N5' rfl ho2 ?_ ?_ ?_
    · intro p hp
      rcases List.mem_cons.mp hp with rfl | hp
      · exact (off5' (L + 1 + 1, o2) (by simp)).symm
      rcases List.mem_append.mp hp with hp | hp
      · exact hbc p hp
      rcases List.mem_cons.mp hp with rfl | hp
      · exact ad1.2.1
      rw [List.mem_singleton.mp hp]; exact ad1.2.2.2.1
    · intro p hp
      rcases List.mem_cons.mp hp with rfl | hp
      · exact ad1.2.2.2.2.2.symm
      rw [List.mem_singleton.mp hp]; exact (ad2 h25).2.1
    intro h6 o2' F6 N6 ho2'
    replace N6 : News base L h6 ((D5, LCg.lst (bx.map boxR)) :: (bx.map boxE ++ [(L + 1 + 1 + 1 + 1, o4), (L + 1 + 1 + 1, o3), (L + 1 + 1, o2'), (L + 1, o1), (25, tabObj #[])])) := by simpa using N6
    clear F5 N5 N5' F1 N1 ho2
    dsimp only
    iterate 3 (first | walk1 | (dsimp only; walk1))
    refine ldCN (c := L + 1 + 1) N6 rfl (.tail _ (List.mem_append_right _ (by simp))) ho2' ?_
    refine kl_method N6 (.head _) PySem.F.slot_list_sort PySem.F.type_list_sort ?_
    refine callWith_builtin_kwB rfl rfl (evalArgs_kw2_nil rfl ?_)
    iterate 1 (first | walk1 | (dsimp only; walk1))
    refine kla_eval rfl ?_
    refine kla_nest (ps := #[]) F6 (news := ((D5, LCg.lst (bx.map boxR)) :: (bx.map boxE ++ [(L + 1 + 1 + 1 + 1, o4), (L + 1 + 1 + 1, o3), (L + 1 + 1, o2'), (L + 1, o1)])) ++ (25, tabObj #[]) :: []) (by simpa using N6) T C rfl (updF_mid ?_ (by simp)) (by kn_triples) (by kn_among) rfl ?_
    · intro p hp
      rcases List.mem_cons.mp hp with rfl | hp
      · exact (off5' (25, tabObj #[]) (by simp)).symm
      rcases List.mem_append.mp hp with hp | hp
      · refine ne_obj (q := (25, tabObj #[])) N6 (.tail _ (List.mem_append_left _ hp)) (.tail _ (List.mem_append_right _ (by simp))) ?_
        obtain ⟨b, _, rfl⟩ := List.mem_map.mp hp
        intro e
        have := congrArg (fun o : Obj => o.cls) e
        simp [boxE, tupO, tabObj] at this
      rcases List.mem_cons.mp hp with rfl | hp
      · exact (ad2 h25).2.2.2.symm
      rcases List.mem_cons.mp hp with rfl | hp
      · exact (ad2 h25).2.2.1.symm
      rcases List.mem_cons.mp hp with rfl | hp
      · exact (ad2 h25).2.1.symm
      rw [List.mem_singleton.mp hp]; exact (ad2 h25).1.symm
    intro f13 c13 oc13 vq tq ct13 h13 tk13 F13 N13 hd13 hv13 l13 lf13
    iterate 1 (first | walk1 | (dsimp only; walk1))
    have hgf := (N13 _ (.head _)).1
    have hgc := (N13 _ (.tail _ (.head _))).1
    dsimp only at hgf hgc
    have N14 : News base L h13 ((D5, listOf (bx.map boxR).toArray (bx.map boxR).length) :: (bx.map boxE ++ [(f13, _), (c13, oc13), (L + 1 + 1 + 1 + 1, o4), (L + 1 + 1 + 1, o3), (L + 1 + 1, o2'), (L + 1, o1), (25, _)])) := fun p hp => N13 p (by
      simp only [List.cons_append, List.append_assoc, List.nil_append, List.mem_cons, List.mem_append, List.not_mem_nil, or_false] at hp ⊢
      rcases hp with hp | hp | hp | hp | hp | hp | hp | hp | hp
      · exact .inr (.inr (.inl hp))
      · exact .inr (.inr (.inr (.inl hp)))
      · exact .inl hp
      · exact .inr (.inl hp)
      · exact .inr (.inr (.inr (.inr (.inl hp))))
      · exact .inr (.inr (.inr (.inr (.inr (.inl hp)))))
      · exact .inr (.inr (.inr (.inr (.inr (.inr (.inl hp))))))
      · exact .inr (.inr (.inr (.inr (.inr (.inr (.inr (.inl hp)))))))
      · exact .inr (.inr (.inr (.inr (.inr (.inr (.inr (.inr hp))))))))
    refine sort_boxes F13 N14 ?_ (by omega) ?_ ?_
    · have lD : D5 < c13 := l13 (D5, LCg.lst (bx.map boxR)) (.head _)
      intro p hp
      rcases List.mem_append.mp hp with hp | hp
      · exact off5' p (List.mem_append_left _ hp)
      rcases List.mem_cons.mp hp with rfl | hp
      · exact Nat.ne_of_gt (Nat.lt_trans lD lf13)
      rcases List.mem_cons.mp hp with rfl | hp
      · exact Nat.ne_of_gt lD
      rcases List.mem_cons.mp hp with rfl | hp
      · exact off5' (L + 1 + 1 + 1 + 1, o4) (by simp)
      rcases List.mem_cons.mp hp with rfl | hp
      · exact off5' (L + 1 + 1 + 1, o3) (by simp)
      rcases List.mem_cons.mp hp with rfl | hp
      · exact off5' (L + 1 + 1, o2) (by simp)
      rcases List.mem_cons.mp hp with rfl | hp
      · exact off5' (L + 1, o1) (by simp)
      rw [List.mem_singleton.mp hp]; exact off5' (25, tabObj #[]) (by simp)
    · intro b s' Q' hb F' N' hq'
      have T'' := T'.keeps F'.keep
      have X' := X.keeps F'.keep
      have hgb := (N' (boxE b) (List.mem_append_left _ (List.mem_map_of_mem (f := boxE) hb))).1
      have hgf' := (N' (f13, _) (List.mem_append_right _ (.head _))).1
      have hgc' := (N' (c13, oc13) (List.mem_append_right _ (.tail _ (.head _)))).1
      refine' enterLam (binds := [(Str.ofString "box", .ref b.a)]) hgf' ⟨_, _, _, _, rfl, hgc', hd13, hv13⟩ T''.nolimit (by exact Nat.le_of_ble_eq_true rfl) ?hb ?hl ?_ ?c1 ?c2 ?c3 ?c4
      case hb => exact rfl
      case hl => exact locs rfl
      case c1 => exact rfl
      case c2 => exact rfl
      case c3 => exact rfl
      case c4 => decide
      intro h15 tk15 F15
      have N15 : News s'.heap s'.heap.objs.size h15 [] := News.nil
      iterate 5 (first | walk1 | (dsimp only; walk1))
      refine tup_item (F15.keep _ _ hgb) (by omega) (by simp [boxV]) (by omega) rfl ?_ (by with_unfolding_all rfl)
      iterate 6 (first | walk1 | (dsimp only; walk1))
      refine tup_item (F15.keep _ _ hgb) (by omega) (by simp [boxV]) (by omega) rfl ?_ (by with_unfolding_all rfl)
      iterate 2 (first | walk1 | (dsimp only; walk1))
      (rename Fr _ _ _ _ => F16); (rename News _ _ _ _ => N16)
      refine kup_newTuple F16 N16 ?_ (by simp [sizeLine_eq])
      intro Dk h17 F17 N17 l17
      refine hq' h17 _ ⟨Dk, b.w, 0 - b.h, _, _⟩ F17.keep (N17 _ (.head _)).2.2 (N17 _ (.head _)).1 rfl rfl
    · intro h20 tk20 c20 bx' hperm hsrt F20 N20
      dsimp only
      have hbl' : bx'.length ≤ 31 := by rw [hperm.length_eq]; omega
      obtain ⟨ps', h25n⟩ : ∃ ps', h20.get? 25 = some (tabObj ps') ∧ (25 : Addr) ≠ L ∧ base.get? 25 = none := ⟨_, N20 (25, _) (.tail _ (List.mem_append_right _ (.tail _ (.tail _ (.tail _ (.tail _ (.tail _ (.tail _ (.head _)))))))))⟩
      have N21 : News base L h20 ((D5, listOf (bx'.map boxR).toArray c20) :: (bx'.map boxE ++ [(L + 1 + 1 + 1 + 1, o4), (L + 1 + 1 + 1, o3), (L + 1 + 1, o2'), (25, tabObj ps')])) := by
        intro p hp
        rcases List.mem_cons.mp hp with rfl | hp
        · exact N20 _ (.head _)
        rcases List.mem_append.mp hp with hp | hp
        · obtain ⟨b, hb, rfl⟩ := List.mem_map.mp hp
          exact N20 _ (.tail _ (List.mem_append_left _ (List.mem_map_of_mem (f := boxE) (hperm.mem_iff.mp hb))))
        rcases List.mem_cons.mp hp with rfl | hp
        · exact N20 _ (.tail _ (List.mem_append_right _ (.tail _ (.tail _ (.head _)))))
        rcases List.mem_cons.mp hp with rfl | hp
        · exact N20 _ (.tail _ (List.mem_append_right _ (.tail _ (.tail _ (.tail _ (.head _))))))
        rcases List.mem_cons.mp hp with rfl | hp
        · exact N20 _ (.tail _ (List.mem_append_right _ (.tail _ (.tail _ (.tail _ (.tail _ (.head _)))))))
        rw [List.mem_singleton.mp hp]
        exact h25n
      refine law_rest (D5 := D5) (bx := bx') (o2 := o2') (o3 := o3) (o4 := o4) (ps := ps') X T' hbl' hsrt F20 N21 ho4 ho3 ho2' h25 ?_
      intro h' tk m' ps'' F' N'
      exact hQ h' tk m' ps'' F' N'
end Mine
theorem PySem.Challenge.cw_cy0003_03_holds : PySem.Challenge.rw_cy0003_03.Holds := by
  refine Mine.hd03 ?_
  k_go0
  (rename IntsAre _ _ => hI); (rename Fr _ _ _ _ => hF); (rename Frag.In _ _ => hK); (rename Top _ _ _ _ _ _ => hT); (rename News _ _ _ _ => hN)
  rename_i hLt
  refine wpAny_mono (Mine.law_body hK hT codeHd lifted hI (by omega) hF hN (by assumption) (by assumption) (by assumption) (by assumption) (by assumption) ?_) (fun _ _ h => h) (fun _ _ h => h.elim)
  intro h' tk m' ps F' N'
  dsimp only
  refine ⟨?_, GrownAt.of N' (.head _), True.intro⟩
  wrow_close
