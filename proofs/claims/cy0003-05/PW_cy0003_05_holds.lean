import PyProof.Rows.All
import Wide.All
import OpenK.AllK
import Wide.FinOn
import PySem.Challenge.RW_cy0003_05
open PySem PySem.W PyProof.Rows PySem.Calls
set_option Elab.async false
set_option maxRecDepth 100000
set_option maxHeartbeats 8000000
set_option linter.unusedVariables false
namespace Mine

/-- heap kept -/
abbrev Kept (h h' : Heap) : Prop := ∀ b o, h.get? b = some o → h'.get? b = some o

theorem frKept {h₀ h h' : Heap} {L : Addr} {m : Str → Option Value} (F : Fr h₀ L h m) (k : Kept h h') : Fr h₀ L h' m :=
  ⟨F.ns.keeps k, fun b o e => k b o (F.keep b o e), F.above⟩
theorem newsKept {h₀ h h' : Heap} {L : Addr} {news : List (Addr × Obj)} (N : News h₀ L h news) (k : Kept h h') : News h₀ L h' news :=
  fun p hp => ⟨k _ _ (N p hp).1, (N p hp).2⟩

section
variable {prog : Program} {w : World} {A : Around} {E : Value → Shared → Prop} {s : Shared} {K : Frag}

/-- a call of a def that stands at the top; the frame's base is the heap at the call -/
theorem enter0 {Q : Value → Shared → Prop} {name qual : Str} {params : Arguments} {body : List Stmt} {scope : Scope} {dV kV doc pm cdv ct oc : Value} {an od : Option Addr} {osl : Array (Option Value)} {f : Addr} {pos : List Value} {kw : List (Str × Value)} {binds : List (Str × Value)}
    (X : K.In s.heap) (hlim : s.heap.NoLimit) (hroom : A.depth < recursionLimit)
    (ho : K.lookup f = some ⟨oc, od, .func (fnOf name qual params body scope dV kV doc pm an cdv ct), osl⟩) (hcd : codeIn K cdv qual = true)
    (hbind : BindsTo s (fnOf name qual params body scope dV kV doc pm an cdv ct) ⟨pos, kw⟩ binds) (hloc : ∀ y ∈ binds, scope.names.lookup y.1 = some .local)
    (h : ∀ h₁ tk, Fr s.heap s.heap.objs.size h₁ (fun y => binds.reverse.lookup y) →
      wpAny (model prog w) (A.deeper (envOf qual scope s.heap.objs.size f cdv)) (execs body (envOf qual scope s.heap.objs.size f cdv))
        (fun fl s' => Q (match fl with | .ret v => v | _ => .none) s') (fun _ _ => False)
        { s with heap := h₁, toks := tk })
    (hco : scope.isCoroutine = false) (hgen : scope.isGenerator = false) (hk : scope.kind = .function)
    (hcell : ∀ x ∈ scope.names, x.2 ≠ .cell) :
    wpAny (model prog w) A (call (.ref f) pos kw) Q E s := by
  refine wpAny_call (codeAny_call_def (fd := fnOf name qual params body scope dV kV doc pm an cdv ct) (body := body) (binds := binds) hroom (X _ _ ho) rfl hlim (codeRec_of X hcd) rfl hbind hcell hloc (fun h₁ hns hk₁ => ?_) hco hgen hk)
  exact wpAny_mono (h h₁ _ ⟨hns, hk₁, Nat.le_refl _⟩) (fun _ _ x => x) (fun _ _ x => x.elim)
end

theorem binds_kw {s : Shared} {fd : FuncData} {args : Args} {binds : List (Str × Value)} {T D : Addr} {o oD : Obj} {items : Array Value} {n : Nat} {part : Option Value}
    {k : Option (Array Value) → Sem (List (Str × Value))} {k2 : Obj → Sem (List (Str × Value))}
    (ho : s.heap.get? T = some o) (hs' : o.data = .seq items n) (hD : s.heap.get? D = some oD)
    (h₁ : bindArgs fd args = seqItems? (.ref T) >>= k) (h₂ : k (some items) = loadPart D part >>= k2) (h₃ : k2 oD = pure binds) : BindsTo s fd args binds :=
  fun _ _ _ _ hq => by
    rw [h₁]
    refine wpAny_bind (wpAny_seqItems ho hs' ?_)
    rw [h₂]
    refine wpAny_bind (wpAny_loadPart hD ?_)
    rw [h₃]
    exact wpAny_pure hq

theorem fr_put {h₀ h : Heap} {L : Addr} {m : Str → Option Value} {v : Value} (n : Str) (F : Fr h₀ L h m) (e : m n = some v) : Fr h₀ L h (fun y => if y = n then some v else m y) := by
  have : (fun y => if y = n then some v else m y) = m := by
    funext y
    by_cases q : y = n
    · subst q; simp [e]
    · simp [q]
  rw [this]; exact F

/-- the binary search, as the code runs it: p says «go left» -/
def bs (p : Nat → Bool) (lo hi : Nat) : Nat :=
  if lo < hi then
    if p ((lo + hi) / 2) then bs p lo ((lo + hi) / 2) else bs p ((lo + hi) / 2 + 1) hi
  else lo
termination_by hi - lo
decreasing_by all_goals omega

theorem bs_done {p : Nat → Bool} {lo hi : Nat} (h : ¬ lo < hi) : bs p lo hi = lo := by rw [bs, if_neg h]
theorem bs_left {p : Nat → Bool} {lo hi : Nat} (h : lo < hi) (hp : p ((lo + hi) / 2) = true) : bs p lo hi = bs p lo ((lo + hi) / 2) := by rw [bs, if_pos h, if_pos hp]
theorem bs_right {p : Nat → Bool} {lo hi : Nat} (h : lo < hi) (hp : p ((lo + hi) / 2) = false) : bs p lo hi = bs p ((lo + hi) / 2 + 1) hi := by rw [bs, if_pos h, if_neg (by simp [hp])]
theorem fdiv2 (lo hi : Nat) : Int.fdiv ((lo : Int) + (hi : Int)) 2 = (((lo + hi) / 2 : Nat) : Int) := by
  rw [Int.fdiv_eq_ediv_of_nonneg _ (by omega)]; omega

section
variable {prog : Program} {w : World} {A : Around} {E : Value → Shared → Prop} {s : Shared} {env : Env} {h₀ : Heap} {x : Str} {body : List Stmt} {Q : Flow → Shared → Prop}

/-- what a turn must leave: I is the iterator, oI what it is -/
def Turn (h₀ : Heap) (L : Addr) (s : Shared) (I : Addr) (oI : Obj) (Jn : (Str → Option Value) → List (Addr × Obj) → Prop) (Q : Flow → Shared → Prop) (f : Flow) (s₂ : Shared) : Prop :=
  match f with
  | .ret v => Q (.ret v) s₂
  | .brk => Q .next s₂
  | _ => ∃ h' tk m' nx, s₂ = { s with heap := h', toks := tk } ∧ Fr h₀ L h' m' ∧ News h₀ L h' (nx ++ [(I, oI)]) ∧ (∀ p ∈ nx, p.1 ≠ I) ∧ Jn m' nx

theorem iter_led {l : Addr} {vs : List Value} {ol : Obj} {nn : Nat} {m₀ : Str → Option Value} {news : List (Addr × Obj)} (J : Nat → (Str → Option Value) → List (Addr × Obj) → Prop)
    (hh : A.handled = none) (hoc : ol.cls = .type "list") (hod : ol.data = .seq vs.toArray nn) (hl : s.heap.get? l = some ol) (hlL : l ≠ env.locals) (F : Fr h₀ env.locals s.heap m₀) (N : News h₀ env.locals s.heap news) (hj : J 0 m₀ news)
    (hlJ : ∀ i m nx, J i m nx → (l, ol) ∈ nx ∨ h₀.get? l = some ol)
    (turn : ∀ i v m₁ nx h tk I oI, vs[i]? = some v → J i m₁ nx → (∀ p ∈ nx, p.1 ≠ I) → I < h.objs.size → Fr h₀ env.locals h (fun y => if y = x then some v else m₁ y) → News h₀ env.locals h (nx ++ [(I, oI)]) →
      wpAny (model prog w) A (execs body env) (Turn h₀ env.locals s I oI (J (i + 1)) Q) E { s with heap := h, toks := tk })
    (done : ∀ m₁ nx h tk, J vs.length m₁ nx → Fr h₀ env.locals h m₁ → News h₀ env.locals h nx → Q .next { s with heap := h, toks := tk }) :
    wpAny (model prog w) A (pyIter (.ref l)) (fun it s₂ => LoopAtV prog w A h₀ env x body Q E it s₂) E s := by
  have hls : s.heap.IsList l vs.toArray := ⟨_, hl, hoc, nn, hod⟩
  have hne : l ≠ s.heap.objs.size := Nat.ne_of_lt (Heap.lt_size hl)
  refine wpAny_pyIter_list hls ?_
  have W := Walks.list (prog := prog) (w := w) hh s.heap.objs.size l hne vs.toArray
  rw [List.size_toArray] at W
  refine ⟨_, _, _, vs.length, _, _, m₀, news, J, rfl, W, ?_, ?_, ?_, ⟨⟨_, Heap.get?_push_size _ rfl, rfl, rfl⟩, hls.at fun o e => Heap.get?_push_of_some _ e⟩, F.push _, (fun p hp => ⟨Heap.get?_push_of_some _ (N p hp).1, (N p hp).2⟩), hj, ?_, ?_⟩
  · intro hm
    rcases List.mem_cons.mp hm with e | hm
    · exact absurd F.ns.lt (e ▸ Nat.lt_irrefl _)
    · exact hlL (List.mem_singleton.mp hm).symm
  · intro b hb
    rw [List.mem_singleton.mp hb]
    exact next_is_new F
  · intro p hp hI
    exact absurd (Heap.lt_size (N p hp).1) ((List.mem_singleton.mp hI) ▸ Nat.lt_irrefl _)
  · rintro i v m₁ nx s₁ own ⟨hh', tk', rfl⟩ hin hP hJ hoff hown hget hfp hst F₁ N₁
    have hv : vs[i]? = some v := by simpa using hP
    have hoffI : ∀ p ∈ nx, p.1 ≠ s.heap.objs.size := fun p hp e => hoff p hp (by rw [e]; exact List.mem_singleton.mpr rfl)
    obtain ⟨⟨oI, hoI, _⟩, _⟩ := hst
    have hI₀ : h₀.get? s.heap.objs.size = none := next_is_new F
    have hIown : (s.heap.objs.size, oI) ∈ own := hfp _ (.head _) hI₀ _ hoI
    have NI := N₁ _ (List.mem_append_left _ hIown)
    refine wpAny_mono (turn i v m₁ nx hh' tk' _ oI hv hJ hoffI (Heap.lt_size hoI) F₁ (fun p hp => ?_)) (fun f s₂ p => ?_) fun _ _ e => e
    · rcases List.mem_append.mp hp with hp | hp
      · exact N₁ p (List.mem_append_right _ hp)
      · rw [List.mem_singleton.mp hp]; exact NI
    · have fin : (∃ h' tk m' nx, s₂ = { s with heap := h', toks := tk } ∧ Fr h₀ env.locals h' m' ∧ News h₀ env.locals h' (nx ++ [(s.heap.objs.size, oI)]) ∧ (∀ p ∈ nx, p.1 ≠ s.heap.objs.size) ∧ J (i + 1) m' nx) →
          LoopStepU h₀ env.locals [s.heap.objs.size] own (J (i + 1)) { s with heap := hh', toks := tk' } .next s₂ := by
        rintro ⟨h', tk, m', nx', rfl, F', N', hne', hJ'⟩
        refine ⟨rfl, h', tk, m', nx', rfl, F', fun p hp => ?_, fun p hp e => hne' p hp (List.mem_singleton.mp e), hJ'⟩
        rcases List.mem_append.mp hp with hp | hp
        · have hpo := hown p hp
          have hpg := hget p hp
          rcases List.mem_cons.mp hpo with e | e
          · have : p = (s.heap.objs.size, oI) := Prod.ext e (by rw [e] at hpg; exact Option.some.inj (hpg.symm.trans hoI))
            rw [this]
            exact N' _ (List.mem_append_right _ (.head _))
          · have e := List.mem_singleton.mp e
            rcases hlJ _ _ _ hJ with q | q
            · have q1 := (N₁ _ (List.mem_append_right _ q)).1
              have : p = (l, ol) := Prod.ext e (by rw [e] at hpg; exact Option.some.inj (hpg.symm.trans q1))
              rcases hlJ _ _ _ hJ' with q' | q'
              · rw [this]; exact N' _ (List.mem_append_left _ q')
              · have := (N₁ _ (List.mem_append_right _ q)).2.2
                rw [q'] at this; cases this
            · have := (N₁ p (List.mem_append_left _ hp)).2.2
              rw [e, q] at this; cases this
        · exact N' _ (List.mem_append_left _ hp)
      cases f with
      | ret v => exact .ret p
      | brk => exact .brk p
      | next => exact .next (fin p)
      | cont => exact .cont (fin p)
  · rintro h' tk m' nx' F' N' _ hJ
    exact done m' nx' h' tk hJ F' N'
end

section
variable {prog : Program} {w : World} {A : Around} {E : Value → Shared → Prop} {s : Shared} {K : Frag}
/-- a call of a def that stands at the top and may change the objects at as -/
theorem enterH {Q : Value → Shared → Prop} {name qual : Str} {params : Arguments} {body : List Stmt} {scope : Scope} {dV kV doc pm cdv ct oc : Value} {an od : Option Addr} {osl : Array (Option Value)} {f : Addr} {pos : List Value} {kw : List (Str × Value)} {binds : List (Str × Value)} (as : List Addr)
    (X : K.In (hideAll s.heap as)) (hlim : (hideAll s.heap as).NoLimit) (hroom : A.depth < recursionLimit)
    (ho : K.lookup f = some ⟨oc, od, .func (fnOf name qual params body scope dV kV doc pm an cdv ct), osl⟩) (hcd : codeIn K cdv qual = true)
    (hbind : BindsTo s (fnOf name qual params body scope dV kV doc pm an cdv ct) ⟨pos, kw⟩ binds) (hloc : ∀ y ∈ binds, scope.names.lookup y.1 = some .local)
    (h : ∀ h₁ tk, Fr (hideAll s.heap as) s.heap.objs.size h₁ (fun y => binds.reverse.lookup y) → Kept s.heap h₁ →
      wpAny (model prog w) (A.deeper (envOf qual scope s.heap.objs.size f cdv)) (execs body (envOf qual scope s.heap.objs.size f cdv))
        (fun fl s' => Q (match fl with | .ret v => v | _ => .none) s') (fun _ _ => False)
        { s with heap := h₁, toks := tk })
    (hco : scope.isCoroutine = false) (hgen : scope.isGenerator = false) (hk : scope.kind = .function)
    (hcell : ∀ x ∈ scope.names, x.2 ≠ .cell) :
    wpAny (model prog w) A (call (.ref f) pos kw) Q E s := by
  have X' : K.In s.heap := X.keeps fun b o e => of_hideAll as e
  refine wpAny_call (codeAny_call_def (fd := fnOf name qual params body scope dV kV doc pm an cdv ct) (body := body) (binds := binds) hroom (X' _ _ ho) rfl (hlim.keeps fun b o e => of_hideAll as e) (codeRec_of X' hcd) rfl hbind hcell hloc (fun h₁ hns hk₁ => ?_) hco hgen hk)
  exact wpAny_mono (h h₁ _ ⟨hns, fun b o e => hk₁ b o (of_hideAll as e), Nat.le_of_eq (hideAll_size _ _)⟩ hk₁) (fun _ _ x => x) (fun _ _ x => x.elim)
end

theorem upd_mid {d : Addr} {o o' : Obj} {post : List (Addr × Obj)} : ∀ {pre : List (Addr × Obj)}, (∀ p ∈ pre, p.1 ≠ d) → (∀ p ∈ post, p.1 ≠ d) → Upd d o o' (pre ++ (d, o) :: post) (pre ++ (d, o') :: post)
  | [], _, h2 => .head h2
  | p :: _, h1, h2 => .tail (h1 p (.head _)) (upd_mid (fun q hq => h1 q (.tail _ hq)) h2)

/-- a row of a tableau, as it lies in the heap -/
structure RowD where
  a : Addr
  vs : List Value
  ns : List Int
  ep : Nat
def rowE (r : RowD) : Addr × Obj := (r.a, listOf r.vs.toArray r.ep)
def tabL (R : Addr) (ep : Nat) (rows : List RowD) : List (Addr × Obj) := (R, listOf ((rows.map (·.a)).map Value.ref).toArray ep) :: rows.map rowE
theorem tabL_mid (R : Addr) (ep : Nat) (pre : List RowD) (r : RowD) (post : List RowD) (more : List (Addr × Obj)) :
    tabL R ep (pre ++ r :: post) ++ more = ((R, listOf (((pre ++ r :: post).map (·.a)).map Value.ref).toArray ep) :: pre.map rowE) ++ (r.a, listOf r.vs.toArray r.ep) :: (post.map rowE ++ more) := by
  simp [tabL, rowE]
def bisR (r : List Int) (x : Int) : Nat := bs (fun i => decide (x < r.getD i 0)) 0 r.length
def insT : List (List Int) → Int → List (List Int)
  | [], x => [[x]]
  | r :: rs, x => if bisR r x = r.length then (r ++ [x]) :: rs else (r.set (bisR r x) x) :: insT rs (r.getD (bisR r x) 0)
theorem bs_le {p : Nat → Bool} {lo hi : Nat} (h : lo ≤ hi) : lo ≤ bs p lo hi ∧ bs p lo hi ≤ hi := by
  induction lo, hi using bs.induct p with
  | case1 lo hi h1 h2 ih => rw [bs_left h1 h2]; have := ih (by omega); omega
  | case2 lo hi h1 h2 ih => rw [bs_right h1 (by simpa using h2)]; have := ih (by omega); omega
  | case3 lo hi h1 => rw [bs_done h1]; omega
theorem bisR_le (r : List Int) (x : Int) : bisR r x ≤ r.length := (bs_le (Nat.zero_le _)).2

theorem insT_len : ∀ (T : List (List Int)) (x : Int), (insT T x).length ≤ T.length + 1
  | [], x => by simp [insT]
  | r :: T, x => by
    have ih := insT_len T (r.getD (bisR r x) 0)
    unfold insT
    split
    · simp
    · simp only [List.length_cons]; omega
theorem insT_lens {n : Nat} : ∀ (T : List (List Int)) (x : Int), (∀ r ∈ T, r.length ≤ n) → ∀ r ∈ insT T x, r.length ≤ n + 1
  | [], x, _ => by simp [insT]
  | r :: T, x, h => by
    have ih := insT_lens T (r.getD (bisR r x) 0) (fun q hq => h q (.tail _ hq))
    have hr := h r (.head _)
    unfold insT
    split
    · intro q hq
      rcases List.mem_cons.mp hq with rfl | hq
      · simp; omega
      · have := h q (.tail _ hq); omega
    · intro q hq
      rcases List.mem_cons.mp hq with rfl | hq
      · simp; omega
      · exact ih q hq

theorem fr_but {h₀ h h' : Heap} {L : Addr} {m : Str → Option Value} {as : List Addr} (F : Fr h₀ L h m) (k : ∀ b o, h.get? b = some o → b ∉ as → h'.get? b = some o) (hL : L ∉ as) (ha : ∀ a ∈ as, h₀.get? a = none) : Fr h₀ L h' m := by
  obtain ⟨⟨oL, es, epo, hg, r⟩, kp, ab⟩ := F
  refine ⟨⟨oL, es, epo, k _ _ hg hL, r⟩, fun b o e => k b o (kp b o e) fun q => ?_, ab⟩
  have := ha b q
  rw [e] at this; cases this

section
open PySem.Spec PyProof.V
def rowDat (r : List Int) : PyData := .list (r.map PyData.int)
theorem tab_canLay : ∀ T : List (List Int), PyData.canLayAll0 (T.map rowDat) = true
  | [] => rfl
  | r :: T => by simp [rowDat, PyData.canLayAll0, PyData.canLay0, ke_canLayAll0 r]; exact tab_canLay T
theorem tab_depth : ∀ T : List (List Int), PyData.depthAll (T.map rowDat) ≤ 1
  | [] => by simp [PyData.depthAll]
  | r :: T => by
    have := tab_depth T
    simp only [List.map_cons, PyData.depthAll]
    simp only [rowDat, PyData.depth, ke_depthAll] at *
    omega
theorem tab_shaped (T : List (List Int)) : SeqAt.shaped (.list (T.map rowDat)) = true := by
  have := tab_depth T
  simp [SeqAt.shaped, PyData.canLay0, PyData.depth, tab_canLay]
  omega
theorem tab_eqv : ∀ T S : List (List Int), PyData.eqvAll (T.map rowDat) (S.map rowDat) = decide (T = S)
  | [], [] => by simp [PyData.eqvAll]
  | [], _ :: _ => by simp [PyData.eqvAll]
  | _ :: _, [] => by simp [PyData.eqvAll]
  | a :: r, b :: t => by
    simp only [List.map_cons, PyData.eqvAll, tab_eqv r t]
    simp only [rowDat, PyData.eqv, ked_eqvAll]
    by_cases h : a = b <;> by_cases h' : r = t <;> simp [h, h']
theorem tab_readsAll {h : Heap} : ∀ {rows : List RowD}, (∀ r ∈ rows, h.get? r.a = some (listOf r.vs.toArray r.ep) ∧ IntsAre r.vs r.ns) → ∃ as, ReadsAll h ((rows.map (·.a)).map Value.ref) ((rows.map (·.ns)).map rowDat) as
  | [], _ => ⟨[], .nil⟩
  | r :: rows, hr => by
    obtain ⟨as, ih⟩ := tab_readsAll (rows := rows) fun q hq => hr q (.tail _ hq)
    have h1 := hr r (.head _)
    exact ⟨_, .cons (reads_of_ints ⟨_, h1.1, rfl, r.ep, rfl⟩ h1.2) ih⟩
theorem tab_reads {h : Heap} {R : Addr} {ep : Nat} {rows : List RowD} (hT : ∀ p ∈ tabL R ep rows, h.get? p.1 = some p.2) (hi : ∀ r ∈ rows, IntsAre r.vs r.ns) : ∃ as, Reads h (.ref R) (.list ((rows.map (·.ns)).map rowDat)) as := by
  obtain ⟨as, ih⟩ := tab_readsAll (h := h) (rows := rows) fun r hr => ⟨hT (rowE r) (.tail _ (List.mem_map_of_mem (f := rowE) hr)), hi r hr⟩
  exact ⟨_, Reads.list (hT _ (.head _)) rfl rfl (by simpa using ih)⟩
variable {prog : Program} {w : World} {A : Around} {E : Value → Shared → Prop} {s : Shared} {Q : Value → Shared → Prop}
theorem tab_ne {R R' : Addr} {ep ep' : Nat} {rows rows' : List RowD} (hT : ∀ p ∈ tabL R ep rows, s.heap.get? p.1 = some p.2) (hi : ∀ r ∈ rows, IntsAre r.vs r.ns) (hT' : ∀ p ∈ tabL R' ep' rows', s.heap.get? p.1 = some p.2) (hi' : ∀ r ∈ rows', IntsAre r.vs r.ns)
    (hu : A.units + 64 < cLine) (h : Q (.bool (!decide (rows.map (·.ns) = rows'.map (·.ns)))) s) : wpAny (model prog w) A (compareOp .NotEq (.ref R) (.ref R')) Q E s := by
  obtain ⟨as, h1⟩ := tab_reads hT hi
  obtain ⟨as', h2⟩ := tab_reads hT' hi'
  refine ne_dataH h1 h2 (tab_shaped _) (tab_shaped _) hu ?_
  simp only [PyData.eqv, tab_eqv]
  exact h
theorem tab_eq {R R' : Addr} {ep ep' : Nat} {rows rows' : List RowD} (hT : ∀ p ∈ tabL R ep rows, s.heap.get? p.1 = some p.2) (hi : ∀ r ∈ rows, IntsAre r.vs r.ns) (hT' : ∀ p ∈ tabL R' ep' rows', s.heap.get? p.1 = some p.2) (hi' : ∀ r ∈ rows', IntsAre r.vs r.ns)
    (hu : A.units + 64 < cLine) (h : Q (.bool (decide (rows.map (·.ns) = rows'.map (·.ns)))) s) : wpAny (model prog w) A (compareOp .Eq (.ref R) (.ref R')) Q E s := by
  obtain ⟨as, h1⟩ := tab_reads hT hi
  obtain ⟨as', h2⟩ := tab_reads hT' hi'
  refine eq_dataH h1 h2 (tab_shaped _) (tab_shaped _) hu ?_
  simp only [PyData.eqv, tab_eqv]
  exact h
end

section
variable {prog : Program} {w : World} {A : Around} {E : Value → Shared → Prop} {s : Shared} {env : Env} {h₀ : Heap} {x : Str} {body : List Stmt} {Q : Flow → Shared → Prop}
theorem iter_range_led {r : Addr} {a₀ b₀ : Int} {t₀ u₀ v₀ : Tok} {n : Nat} {m₀ : Str → Option Value} {news : List (Addr × Obj)} (J : Nat → (Str → Option Value) → List (Addr × Obj) → Prop)
    (hh : A.handled = none) (hr : IsRange s.heap r a₀ b₀ 1 t₀ u₀ v₀) (hsmall : Builtin.Range.small a₀ b₀ 1 = true) (hn : Builtin.Range.rangeSize a₀ b₀ 1 = (n : Int)) (F : Fr h₀ env.locals s.heap m₀) (N : News h₀ env.locals s.heap news) (hj : J 0 m₀ news)
    (turn : ∀ (i : Nat) t m₁ nx h tk I oI, i < n → J i m₁ nx → (∀ p ∈ nx, p.1 ≠ I) → I < h.objs.size → Fr h₀ env.locals h (fun y => if y = x then some (.int (a₀ + i) t) else m₁ y) → News h₀ env.locals h (nx ++ [(I, oI)]) →
      wpAny (model prog w) A (execs body env) (Turn h₀ env.locals s I oI (J (i + 1)) Q) E { s with heap := h, toks := tk })
    (done : ∀ m₁ nx h tk, J n m₁ nx → Fr h₀ env.locals h m₁ → News h₀ env.locals h nx → Q .next { s with heap := h, toks := tk }) :
    wpAny (model prog w) A (pyIter (.ref r)) (fun it s₂ => LoopAtV prog w A h₀ env x body Q E it s₂) E s := by
  refine wpAny_pyIter_range hr hsmall ?_
  have W : Walks prog w A s.heap.objs.size [s.heap.objs.size] [s.heap.objs.size] n (fun i v => i < n ∧ ∃ t, v = .int (a₀ + i * 1) t)
      (fun i h => IsRangeIter h s.heap.objs.size (a₀ + (i : Nat) * 1) ((n : Int) - (i : Nat)) 1) := (Walks.range hh _ a₀ 1 n).bound
  refine ⟨_, _, _, n, _, _, m₀, news, J, rfl, W, ?_, ?_, ?_, (by show IsRangeIter _ _ _ _ _; rw [hn]; simpa using Heap.get?_push_size _ rfl), F.push _, (fun p hp => ⟨Heap.get?_push_of_some _ (N p hp).1, (N p hp).2⟩), hj, ?_, ?_⟩
  · intro hm
    exact absurd F.ns.lt ((List.mem_singleton.mp hm) ▸ Nat.lt_irrefl _)
  · intro b hb
    rw [List.mem_singleton.mp hb]
    exact next_is_new F
  · intro p hp hI
    exact absurd (Heap.lt_size (N p hp).1) ((List.mem_singleton.mp hI) ▸ Nat.lt_irrefl _)
  · rintro i v m₁ nx s₁ own ⟨hh', tk', rfl⟩ hin ⟨_, t, rfl⟩ hJ hoff hown hget hfp hst F₁ N₁
    have hoffI : ∀ p ∈ nx, p.1 ≠ s.heap.objs.size := fun p hp e => hoff p hp (by rw [e]; exact List.mem_singleton.mpr rfl)
    obtain ⟨oI, hst'⟩ : ∃ oI, hh'.get? s.heap.objs.size = some oI := ⟨_, hst⟩
    have hI₀ : h₀.get? s.heap.objs.size = none := next_is_new F
    have hIown := hfp _ (.head _) hI₀ _ hst'
    have NI := N₁ _ (List.mem_append_left _ hIown)
    rw [Int.mul_one] at F₁
    refine wpAny_mono (turn i t m₁ nx hh' tk' _ oI hin hJ hoffI (Heap.lt_size hst') F₁ (fun p hp => ?_)) (fun f s₂ p => ?_) fun _ _ e => e
    · exact (List.mem_append.mp hp).elim (fun hp => N₁ p (List.mem_append_right _ hp)) fun hp => by rw [List.mem_singleton.mp hp]; exact NI
    · have fin : (∃ h' tk m' nx', s₂ = { s with heap := h', toks := tk } ∧ Fr h₀ env.locals h' m' ∧ News h₀ env.locals h' (nx' ++ [(s.heap.objs.size, oI)]) ∧ (∀ p ∈ nx', p.1 ≠ s.heap.objs.size) ∧ J (i + 1) m' nx') →
          LoopStepU h₀ env.locals [s.heap.objs.size] own (J (i + 1)) { s with heap := hh', toks := tk' } .next s₂ := by
        rintro ⟨h', tk, m', nx', rfl, F', N', hne', hJ'⟩
        refine ⟨rfl, h', tk, m', nx', rfl, F', fun p hp => ?_, fun p hp e => hne' p hp (List.mem_singleton.mp e), hJ'⟩
        rcases List.mem_append.mp hp with hp | hp
        · have e := List.mem_singleton.mp (hown p hp)
          have hpg := hget p hp
          rw [e] at hpg
          rw [show p = (s.heap.objs.size, p.2) from Prod.ext e rfl, Option.some.inj (hpg.symm.trans hst')]
          exact N' _ (List.mem_append_right _ (.head _))
        · exact N' _ (List.mem_append_left _ hp)
      cases f with
      | ret v => exact .ret p
      | brk => exact .brk p
      | next => exact .next (fin p)
      | cont => exact .cont (fin p)
  · rintro h' tk m' nx' F' N' _ hJ
    exact done m' nx' h' tk hJ F' N'
end

theorem three_of (ns : List Int) (i : Nat) (h : i + 2 < ns.length) :
    ∃ a b c, ns[i]? = some a ∧ ns[i + 1]? = some b ∧ ns[i + 2]? = some c ∧ List.take (min ((i : Int) + 3).toNat ns.length - (i : Int).toNat) (List.drop (i : Int).toNat ns) = [a, b, c] := by
  refine ⟨ns[i], ns[i + 1], ns[i + 2], by simp, by simp, by simp, ?_⟩
  rw [show (i : Int).toNat = i by omega, show ((i : Int) + 3).toNat = i + 3 by omega, show min (i + 3) ns.length - i = 3 by omega]
  rw [List.drop_eq_getElem_cons (by omega), List.drop_eq_getElem_cons (by omega), List.drop_eq_getElem_cons (by omega)]
  rfl
theorem ints3 {ws : List Value} {a b c : Int} (h : IntsAre ws [a, b, c]) : ∃ t1 t2 t3, ws = [.int a t1, .int b t2, .int c t3] := by
  cases h with
  | cons _ t1 h => cases h with
    | cons _ t2 h => cases h with
      | cons _ t3 h => cases h; exact ⟨t1, t2, t3, rfl⟩
end Mine
namespace Mine
section
variable {prog : Program} {w : World} {A : Around} {s : Shared} {env : Env} {h₀ : Heap} {L : Addr} {target : PySem.Expr} {body : List Stmt} {Q : Flow → Shared → Prop}

/-- a for over anything that is walked, with any target; the turn begins at the target's assignment -/
theorem loop_core {I : Addr} {fp : List Addr} {n : Nat} {P : Nat → Value → Prop} {St : Nat → Heap → Prop} {src : Addr → Option Obj} {m₀ : Str → Option Value} {news : List (Addr × Obj)} {E₁ : Value → Shared → Prop}
    (J : Nat → (Str → Option Value) → List (Addr × Obj) → Prop) (W : Walks prog w A I fp [I] n P St) (hlet : ∀ it v, letOwnedTupleGo target it v = pure ())
    (hIo : ∀ i h, St i h → ∃ o, h.get? I = some o) (hsrc : ∀ b ∈ fp, b ≠ I → ∃ o, src b = some o)
    (hkeep : ∀ i m nx h, J i m nx → Fr h₀ L h m → News h₀ L h nx → ∀ b ∈ fp, b ≠ I → h.get? b = src b)
    (hIL : I ≠ L) (hI₀ : h₀.get? I = none) (hst : St 0 s.heap) (F : Fr h₀ L s.heap m₀) (N : News h₀ L s.heap news) (hnI : ∀ p ∈ news, p.1 ≠ I) (hj : J 0 m₀ news)
    (turn : ∀ i v m₁ nx h tk oI, i < n → P i v → J i m₁ nx → (∀ p ∈ nx, p.1 ≠ I) → I < h.objs.size → Fr h₀ L h m₁ → News h₀ L h (nx ++ [(I, oI)]) →
      wpAny (model prog w) A (assign target env v) (fun _ s₂ => wpAny (model prog w) A (execs body env) (Turn h₀ L s I oI (J (i + 1)) Q) (fun _ _ => False) s₂) (fun _ _ => False) { s with heap := h, toks := tk })
    (done : ∀ m₁ nx h tk, J n m₁ nx → Fr h₀ L h m₁ → News h₀ L h nx → Q .next { s with heap := h, toks := tk }) :
    codeAny (model prog w) A (.forLoop target (.ref I) body [] env) (fun r s' => match r with | .ok f => Q f s' | .error e => E₁ e s') s := by
  have hLw : L ≠ I := Ne.symm hIL
  have old : ∀ b o, h₀.get? b = some o → b ≠ I := fun b o e q => by rw [q, hI₀] at e; cases e
  refine codeAny_forLoop
    (fun k s' => ∃ h' tk m' nx i, s' = { s with heap := h', toks := tk } ∧ St i h' ∧ Fr h₀ L h' m' ∧ News h₀ L h' nx ∧ (∀ p ∈ nx, p.1 ≠ I) ∧ J i m' nx ∧ i ≤ n ∧ k = n + 1 - i) ?_ (n + 1)
    ⟨s.heap, s.toks, m₀, news, 0, rfl, hst, F, N, hnI, hj, Nat.zero_le _, rfl⟩ (hlet _)
  rintro k s' ⟨h', tk, m', nx, i, rfl, hst', F', N', hnx, hJ, hi, rfl⟩
  have next : ∀ h₁ : Heap, (∀ b o, b ∉ [I] → h'.get? b = some o → h₁.get? b = some o) → Fr h₀ L h₁ m' ∧ News h₀ L h₁ nx := fun h₁ hk₁ =>
    ⟨⟨F'.ns.at' fun o e => hk₁ _ o (by simpa using hLw) e, fun b o e => hk₁ b o (by simpa using old b o e) (F'.keep b o e), F'.above⟩, fun p hp => ⟨hk₁ _ _ (by simpa using hnx p hp) (N' p hp).1, (N' p hp).2⟩⟩
  by_cases hlt : i < n
  · refine W.item i _ _ _ hlt hst' fun v h₁ tk₁ hP hst₁ hk₁ => ?_
    obtain ⟨F₁, N₁⟩ := next h₁ hk₁
    obtain ⟨oI, hoI⟩ := hIo _ _ hst₁
    have NI : News h₀ L h₁ (nx ++ [(I, oI)]) := fun p hp => by
      rcases List.mem_append.mp hp with hp | hp
      · exact N₁ p hp
      · rw [List.mem_singleton.mp hp]; exact ⟨hoI, hIL, hI₀⟩
    refine wpAny_mono (turn i v m' nx h₁ tk₁ oI hlt hP hJ hnx (Heap.lt_size hoI) F₁ NI) (fun _ s₂ h₂ => wpAny_mono h₂ (fun f s₃ h₃ => ?_) fun _ _ e => e.elim) fun _ _ e => e.elim
    have fin : (∃ h' tk m' nx', s₃ = { s with heap := h', toks := tk } ∧ Fr h₀ L h' m' ∧ News h₀ L h' (nx' ++ [(I, oI)]) ∧ (∀ p ∈ nx', p.1 ≠ I) ∧ J (i + 1) m' nx') →
        ∃ k, k < n + 1 - i ∧ ∃ h' tk m' nx i, s₃ = { s with heap := h', toks := tk } ∧ St i h' ∧ Fr h₀ L h' m' ∧ News h₀ L h' nx ∧ (∀ p ∈ nx, p.1 ≠ I) ∧ J i m' nx ∧ i ≤ n ∧ k = n + 1 - i := by
      rintro ⟨h₄, tk₄, m₄, nx₄, rfl, F₄, N₄, hn₄, hJ₄⟩
      refine ⟨n + 1 - (i + 1), by omega, h₄, tk₄, m₄, nx₄, i + 1, rfl, ?_, F₄, fun p hp => N₄ p (List.mem_append_left _ hp), hn₄, hJ₄, hlt, rfl⟩
      refine W.frame _ _ _ hst₁ fun b hb o e => ?_
      by_cases q : b = I
      · subst q
        have := (N₄ (b, oI) (List.mem_append_right _ (.head _))).1
        rw [hoI] at e
        rw [← Option.some.inj e]; exact this
      · obtain ⟨o', ho'⟩ := hsrc b hb q
        have e1 := hk₁ b o' (by simpa using q) ((hkeep _ _ _ _ hJ F' N' b hb q).trans ho')
        rw [hkeep _ _ _ _ hJ₄ F₄ (fun p hp => N₄ p (List.mem_append_left _ hp)) b hb q, ho']
        exact e1.symm.trans e
    cases f with
    | ret v => exact h₃
    | brk => exact h₃
    | cont => exact fin h₃
    | next => exact fin h₃
  · obtain rfl : i = n := by omega
    refine W.done _ _ _ hst' fun h₁ tk₁ hk₁ => wpAny_execs_nil ?_
    obtain ⟨F₁, N₁⟩ := next h₁ hk₁
    exact done m' nx h₁ tk₁ hJ F₁ N₁

/-- over a list -/
theorem iter_list {l : Addr} {vs : List Value} {ol : Obj} {nn : Nat} {m₀ : Str → Option Value} {news : List (Addr × Obj)} {E₁ : Value → Shared → Prop} (J : Nat → (Str → Option Value) → List (Addr × Obj) → Prop)
    (hlet : ∀ it v, letOwnedTupleGo target it v = pure ()) (hh : A.handled = none) (hoc : ol.cls = .type "list") (hod : ol.data = .seq vs.toArray nn) (hl : s.heap.get? l = some ol) (F : Fr h₀ L s.heap m₀) (N : News h₀ L s.heap news) (hj : J 0 m₀ news)
    (hlJ : ∀ i m nx, J i m nx → (l, ol) ∈ nx ∨ h₀.get? l = some ol)
    (turn : ∀ i v m₁ nx h tk I oI, vs[i]? = some v → J i m₁ nx → (∀ p ∈ nx, p.1 ≠ I) → I < h.objs.size → Fr h₀ L h m₁ → News h₀ L h (nx ++ [(I, oI)]) →
      wpAny (model prog w) A (assign target env v) (fun _ s₂ => wpAny (model prog w) A (execs body env) (Turn h₀ L s I oI (J (i + 1)) Q) (fun _ _ => False) s₂) (fun _ _ => False) { s with heap := h, toks := tk })
    (done : ∀ m₁ nx h tk, J vs.length m₁ nx → Fr h₀ L h m₁ → News h₀ L h nx → Q .next { s with heap := h, toks := tk }) :
    wpAny (model prog w) A (pyIter (.ref l)) (fun it s₂ => codeAny (model prog w) A (.forLoop target it body [] env) (fun r s' => match r with | .ok f => Q f s' | .error e => E₁ e s') s₂) (fun _ _ => False) s := by
  have hls : s.heap.IsList l vs.toArray := ⟨_, hl, hoc, nn, hod⟩
  have hne : l ≠ s.heap.objs.size := Nat.ne_of_lt (Heap.lt_size hl)
  refine wpAny_pyIter_list hls ?_
  have W := Walks.list (prog := prog) (w := w) hh s.heap.objs.size l hne vs.toArray
  rw [List.size_toArray] at W
  have hlk : ∀ i m nx h, J i m nx → Fr h₀ L h m → News h₀ L h nx → h.get? l = some ol := fun i m nx h q F N => (hlJ i m nx q).elim (fun e => (N _ e).1) (fun e => F.keep _ _ e)
  refine loop_core (src := fun b => if b = l then some ol else none) J W hlet (fun i h st => by obtain ⟨o, e, _⟩ := st.1; exact ⟨o, e⟩) (fun b hb q => ?_) (fun i m nx h hJ F N b hb q => ?_)
    (Nat.ne_of_gt F.ns.lt) (next_is_new F) ⟨⟨_, Heap.get?_push_size _ rfl, rfl, rfl⟩, hls.at fun o e => Heap.get?_push_of_some _ e⟩ (F.push _) (fun p hp => ⟨Heap.get?_push_of_some _ (N p hp).1, (N p hp).2⟩) (fun p hp => Nat.ne_of_lt (Heap.lt_size (N p hp).1)) hj
    (fun i v m₁ nx h tk oI hin hP hJ hnx hlt F₁ N₁ => ?_) (fun m₁ nx h tk hJ F₁ N₁ => ?_)
  · have e : b = l := by
      rcases List.mem_cons.mp hb with e | e
      · exact absurd e q
      · exact List.mem_singleton.mp e
    exact ⟨ol, by simp [e]⟩
  · have e : b = l := by
      rcases List.mem_cons.mp hb with e | e
      · exact absurd e q
      · exact List.mem_singleton.mp e
    subst e
    simpa using hlk i m nx h hJ F N
  · exact turn i v m₁ nx h tk _ oI (by simpa using hP) hJ hnx hlt F₁ N₁
  · exact done m₁ nx h tk hJ F₁ N₁

/-- over a range by ones -/
theorem iter_range {r : Addr} {a₀ b₀ : Int} {t₀ u₀ v₀ : Tok} {n : Nat} {m₀ : Str → Option Value} {news : List (Addr × Obj)} {E₁ : Value → Shared → Prop} (J : Nat → (Str → Option Value) → List (Addr × Obj) → Prop)
    (hlet : ∀ it v, letOwnedTupleGo target it v = pure ()) (hh : A.handled = none) (hr : IsRange s.heap r a₀ b₀ 1 t₀ u₀ v₀) (hsmall : Builtin.Range.small a₀ b₀ 1 = true) (hn : Builtin.Range.rangeSize a₀ b₀ 1 = (n : Int)) (F : Fr h₀ L s.heap m₀) (N : News h₀ L s.heap news) (hj : J 0 m₀ news)
    (turn : ∀ (i : Nat) t m₁ nx h tk I oI, i < n → J i m₁ nx → (∀ p ∈ nx, p.1 ≠ I) → I < h.objs.size → Fr h₀ L h m₁ → News h₀ L h (nx ++ [(I, oI)]) →
      wpAny (model prog w) A (assign target env (.int (a₀ + i) t)) (fun _ s₂ => wpAny (model prog w) A (execs body env) (Turn h₀ L s I oI (J (i + 1)) Q) (fun _ _ => False) s₂) (fun _ _ => False) { s with heap := h, toks := tk })
    (done : ∀ m₁ nx h tk, J n m₁ nx → Fr h₀ L h m₁ → News h₀ L h nx → Q .next { s with heap := h, toks := tk }) :
    wpAny (model prog w) A (pyIter (.ref r)) (fun it s₂ => codeAny (model prog w) A (.forLoop target it body [] env) (fun r s' => match r with | .ok f => Q f s' | .error e => E₁ e s') s₂) (fun _ _ => False) s := by
  refine wpAny_pyIter_range hr hsmall ?_
  have W : Walks prog w A s.heap.objs.size [s.heap.objs.size] [s.heap.objs.size] n (fun i v => i < n ∧ ∃ t, v = .int (a₀ + i * 1) t)
      (fun i h => IsRangeIter h s.heap.objs.size (a₀ + (i : Nat) * 1) ((n : Int) - (i : Nat)) 1) := (Walks.range hh _ a₀ 1 n).bound
  refine loop_core (src := fun _ => none) J W hlet (fun i h st => ⟨_, st⟩) (fun b hb q => absurd (List.mem_singleton.mp hb) q) (fun i m nx h hJ F N b hb q => absurd (List.mem_singleton.mp hb) q)
    (Nat.ne_of_gt F.ns.lt) (next_is_new F) (by show IsRangeIter _ _ _ _ _; rw [hn]; simpa using Heap.get?_push_size _ rfl) (F.push _) (fun p hp => ⟨Heap.get?_push_of_some _ (N p hp).1, (N p hp).2⟩) (fun p hp => Nat.ne_of_lt (Heap.lt_size (N p hp).1)) hj
    (fun i v m₁ nx h tk oI hin hP hJ hnx hlt F₁ N₁ => ?_) (fun m₁ nx h tk hJ F₁ N₁ => ?_)
  · obtain ⟨_, t, rfl⟩ := hP
    rw [Int.mul_one]
    exact turn i t m₁ nx h tk _ oI hin hJ hnx hlt F₁ N₁
  · exact done m₁ nx h tk hJ F₁ N₁

/-- the statement -/
theorem for_gen {iter : PySem.Expr} {pos : Pos} (h : wpAny (model prog w) A (eval iter env) (fun xv s₁ => wpAny (model prog w) A (pyIter xv) (fun it s₂ => codeAny (model prog w) A (.forLoop target it body [] env) (fun r s' => match r with | .ok f => Q f s' | .error e => cameBackBy (model prog w) A env (fun _ _ => False) e s') s₂) (fun _ _ => False) s₁) (fun _ _ => False) s)
    (hs : ∀ x, foldedSetIterable iter env x = pure x := by intro _; rfl) : wpAny (model prog w) A (exec (.For target iter body [] pos) env) Q (fun _ _ => False) s := wpAny_For h hs
end

section
open LCg LCt
variable {prog : Program} {w : World} {A : Around} {s : Shared} {h₀ : Heap} {L : Addr} {m : Str → Option Value} {env : Env} {ct elt : PySem.Expr} {x : Str} {scope : Scope} {cl : List (Str × Addr)} {S : List (Addr × Obj) → Prop} {P : Nat → Value → Prop} {Fin : List Value → List (Addr × Obj) → Prop}

theorem compU_ind (J : Nat → List Value → List (Addr × Obj) → Prop) {n : Nat}
    (step : ∀ i ys news v I oI C oC D m₂ h tk (E' : Value → Shared → Prop), i < n → J i ys news → P i v → NsObj oC m₂ → m₂ x = some v → Fr h₀ L h m → News h₀ L h ((I, oI) :: (C, oC) :: (D, lst ys) :: news) → Off3 I C D news → ((@Ne Nat I C) ∧ (@Ne Nat I D) ∧ (@Ne Nat C D)) →
      wpAny (model prog w) A (eval elt (compEnvC scope cl C env)) (CompEnd h₀ L m { s with heap := h, toks := tk } I oI C oC D (lst ys) S (fun y news' => J (i + 1) (ys ++ [y]) news')) E' { s with heap := h, toks := tk })
    (fin : ∀ ys news, J n ys news → Fin ys news) : ∀ k i ys news, i + k = n → J i ys news → CompRest prog w A h₀ L m env elt x scope cl s S P Fin k i ys news
  | 0, i, ys, news, e, hJ => fin ys news (by rw [← e]; exact hJ)
  | k + 1, i, ys, news, e, hJ => by
    intro v I oI C oC D m₂ h tk E' hP hN hx F N off ne
    refine wpAny_mono (step i ys news v I oI C oC D m₂ h tk E' (by omega) hJ hP hN hx F N off ne) (fun y s₂ q => ?_) fun _ _ q => q
    obtain ⟨h', tk', news', e', F', N', o', S', r⟩ := q
    exact ⟨h', tk', news', e', F', N', o', S', compU_ind J step fin k (i + 1) _ _ (by omega) r⟩

theorem compT_ind (J : Nat → List Value → List (Addr × Obj) → Prop) {n : Nat}
    (step : ∀ i ys news v I oI C oC D m₂ h tk (E' : Value → Shared → Prop), i < n → J i ys news → P i v → NsObj oC m₂ → m₂ x = some v → Fr h₀ L h m → News h₀ L h ((I, oI) :: (C, oC) :: (D, lst ys) :: news) → Off3 I C D news → ((@Ne Nat I C) ∧ (@Ne Nat I D) ∧ (@Ne Nat C D)) →
      wpAny (model prog w) A (isTrue ct (compEnvC scope cl C env) (eval ct (compEnvC scope cl C env))) (fun ok s' => if ok = true then
        wpAny (model prog w) A (eval elt (compEnvC scope cl C env)) (CompEnd h₀ L m { s with heap := h, toks := tk } I oI C oC D (lst ys) S (fun y news' => J (i + 1) (ys ++ [y]) news')) E' s'
        else CompEnd h₀ L m { s with heap := h, toks := tk } I oI C oC D (lst ys) S (fun _ news' => J (i + 1) ys news') Value.none s') E' { s with heap := h, toks := tk })
    (fin : ∀ ys news, J n ys news → Fin ys news) : ∀ k i ys news, i + k = n → J i ys news → CompRestT prog w A h₀ L m env ct elt x scope cl s S P Fin k i ys news
  | 0, i, ys, news, e, hJ => fin ys news (by rw [← e]; exact hJ)
  | k + 1, i, ys, news, e, hJ => by
    intro v I oI C oC D m₂ h tk E' hP hN hx F N off ne
    refine wpAny_mono (step i ys news v I oI C oC D m₂ h tk E' (by omega) hJ hP hN hx F N off ne) (fun ok s₂ q => ?_) fun _ _ q => q
    cases ok with
    | true =>
      simp only [if_true] at q ⊢
      refine wpAny_mono q (fun y s₃ q => ?_) fun _ _ q => q
      obtain ⟨h', tk', news', e', F', N', o', S', r⟩ := q
      exact ⟨h', tk', news', e', F', N', o', S', compT_ind J step fin k (i + 1) _ _ (by omega) r⟩
    | false =>
      simp only [Bool.false_eq_true, if_false] at q ⊢
      obtain ⟨h', tk', news', e', F', N', o', S', r⟩ := q
      exact ⟨h', tk', news', e', F', N', o', S', compT_ind J step fin k (i + 1) _ _ (by omega) r⟩
end

theorem newsTab {h₀ h h' : Heap} {L R : Addr} {ep : Nat} {rows : List RowD} {m : Str → Option Value} {rest : List (Addr × Obj)} (F : Fr h₀ L h m) (N : News h₀ L h rest) (hk : Kept h h')
    (hT : ∀ p ∈ tabL R ep rows, h'.get? p.1 = some p.2 ∧ h.get? p.1 = none) : News h₀ L h' (tabL R ep rows ++ rest) := fun p hp => by
  rcases List.mem_append.mp hp with hp | hp
  · have z := hT p hp
    obtain ⟨oL, _, _, hLo, _⟩ := F.ns
    refine ⟨z.1, fun e => ?_, ?_⟩
    · rw [e, hLo] at z; cases z.2
    · cases e : h₀.get? p.1 with
      | none => rfl
      | some o => have := z.2; rw [F.keep _ _ e] at this; cases this
  · exact newsKept N hk p hp
theorem newsOff {h₀ h h' : Heap} {L R : Addr} {ep : Nat} {rows : List RowD} {rest : List (Addr × Obj)} {q : Addr × Obj} (N : News h₀ L h rest) (hq : q ∈ rest)
    (hT : ∀ p ∈ tabL R ep rows, h'.get? p.1 = some p.2 ∧ h.get? p.1 = none) : ∀ p ∈ tabL R ep rows, p.1 ≠ q.1 := fun p hp e => by
  have z := (hT p hp).2
  rw [e, (N q hq).1] at z; cases z

theorem item_val {prog : Program} {w : World} {A : Around} {E : Value → Shared → Prop} {s : Shared} {value slice : PySem.Expr} {l : Addr} {vs : List Value} {k : Int} {u : Tok} {x : Value} {Q : Value → Shared → Prop} (hl : s.heap.IsList l vs.toArray)
    (h0 : 0 ≤ k) (hfit : k < 2 ^ 63) (hx : vs[k.toNat]? = some x) (h : Q x s)
    (hs : subscripted slice false (.ref l) (.int k u) = operate [.ref l, .int k u] (getItem (.ref l) (.int k u)) := by with_unfolding_all rfl) :
    wpAny (model prog w) A (subscriptTail value slice (.ref l) (.int k u)) Q E s :=
  tail_any hl.typeIs slot_list_getitem.lookup (wpAny_getItem_list hl h0 hfit (by simpa using hx) h) hs
theorem updF_mid {d : Addr} {o : Obj} {post : List (Addr × Obj)} : ∀ {pre : List (Addr × Obj)}, (∀ p ∈ pre, p.1 ≠ d) → (∀ p ∈ post, p.1 ≠ d) → UpdF d o (pre ++ (d, o) :: post) (fun o' => pre ++ (d, o') :: post)
  | [], _, h2 => .head h2
  | p :: _, h1, h2 => .tail (h1 p (.head _)) (updF_mid (fun q hq => h1 q (.tail _ hq)) h2)

theorem fold_len : ∀ (w : List Int) (T : List (List Int)) (n : Nat), (∀ r ∈ T, r.length ≤ n) → (w.foldl insT T).length ≤ T.length + w.length ∧ ∀ r ∈ w.foldl insT T, r.length ≤ n + w.length
  | [], T, n, h => by simpa using h
  | x :: w, T, n, h => by
    have ih := fold_len w (insT T x) (n + 1) (insT_lens T x h)
    have := insT_len T x
    simp only [List.foldl_cons, List.length_cons]
    exact ⟨by omega, fun r hr => by have := ih.2 r hr; omega⟩
theorem tab_len {w : List Int} {rows : List RowD} (h : rows.map (·.ns) = w.foldl insT []) : rows.length ≤ w.length ∧ ∀ r ∈ rows, r.ns.length ≤ w.length := by
  have := fold_len w [] 0 (by simp)
  rw [← h] at this
  simp only [List.length_map, List.length_nil, Nat.zero_add] at this
  exact ⟨this.1, fun r hr => this.2 r.ns (List.mem_map_of_mem (f := fun r : RowD => r.ns) hr)⟩

section
variable {M : Model} {A : Around} {E : Value → Shared → Prop} {s : Shared} {h₀ : Heap} {L C c : Addr} {m : Str → Option Value} {scope : Scope} {cl : List (Str × Addr)} {env : Env} {x : Str} {pos : Pos} {v : Value} {o : Obj} {Q : Value → Shared → Prop} {K : Frag} {p : Program} {loose : List Str} {mg mb : Str → Option Value}
/-- a built-in's name, within a comprehension -/
theorem compName_B (hg : env.globals = mainGlobals) (hb : env.builtins = builtinsNs) (F : Fr h₀ L s.heap m) (X : K.In h₀) (T : TopRead p loose mg mb h₀) (e : nsIn K mainGlobals x = some none) (hv : bootBuiltins x = some v) (hn : x ≠ "__name__") (h : Q v s)
    (hk : (compEnvC scope cl C env).scope.kind = .function) (hx : (compEnvC scope cl C env).kindOf x = some .globalImplicit) (hd : (x == ("__debug__" : Str)) = false) :
    wpAny M A (eval (.Name x pos) (compEnvC scope cl C env)) Q E s :=
  Name_function_global hk hx (loadGlobal_builtin (env := compEnvC scope cl C env) (by show s.heap.Ns env.globals mg; rw [hg]; exact T.g.keeps F.keep) (mg_none_of X T.g e) (by show s.heap.Ns env.builtins mb; rw [hb]; exact T.b.keeps F.keep) ((T.builtins x hn).trans hv) h) hd
/-- the comprehension's own name -/
theorem compName_L (N : s.heap.get? C = some o) (hO : LCg.NsObj o m) (hv : m x = some v) (h : Q v s)
    (hk : (compEnvC scope cl C env).scope.kind = .function) (hx : (compEnvC scope cl C env).kindOf x = some .local) (hd : (x == ("__debug__" : Str)) = false) :
    wpAny M A (eval (.Name x pos) (compEnvC scope cl C env)) Q E s := wpAny_Name (wpAny_loadName_local (env := compEnvC scope cl C env) hk hx (hO.ns N) hv h) hd
end

theorem off1_mem {D : Addr} : ∀ {l : List (Addr × Obj)}, LCg.Off1 D l → ∀ p ∈ l, p.1 ≠ D
  | [], _, _, h => nomatch h
  | _ :: _, x, p, h => by
    rcases List.mem_cons.mp h with rfl | h
    · exact x.1
    · exact off1_mem x.2 p h
end Mine
namespace Mine
section
open AutoSeq1 (wpAny_loadPart')
variable {prog : Program} {w : World} {A : Around} {E : Value → Shared → Prop} {s : Shared}

/-- a call of a lambda that stands in the heap -/
theorem enterLam {Q : Value → Shared → Prop} {name qual : Str} {params : Arguments} {body : PySem.Expr} {scope : Scope} {cl : List (Str × Addr)} {pm ctv : Value} {c' f : Addr} {pos : List Value} {kw : List (Str × Value)} {binds : List (Str × Value)}
    (hf : s.heap.get? f = some (kla_obj name qual params body scope cl pm c' ctv)) (hcd : s.heap.CodeRec (.ref c') qual) (hlim : s.heap.NoLimit) (hroom : A.depth < recursionLimit)
    (hbind : bindArgs (kla_fn name qual params body scope cl pm (.ref c') ctv) ⟨pos, kw⟩ = pure binds) (hloc : ∀ y ∈ binds, scope.names.lookup y.1 = some .local)
    (h : ∀ h₁ tk, Fr s.heap s.heap.objs.size h₁ (fun y => binds.reverse.lookup y) →
      wpAny (model prog w) (A.deeper (envX qual scope s.heap.objs.size f (.ref c') cl)) (eval body (envX qual scope s.heap.objs.size f (.ref c') cl)) Q (fun _ _ => False) { s with heap := h₁, toks := tk })
    (hco : scope.isCoroutine = false) (hgen : scope.isGenerator = false) (hk : scope.kind = .function)
    (hcell : ∀ x ∈ scope.names, x.2 ≠ .cell) : wpAny (model prog w) A (call (.ref f) pos kw) Q E s := by
  refine wpAny_call ?_
  refine kla_callFunE hroom hf rfl hco hgen rfl hcd ?_
  rw [hbind]
  refine wpAny_pure (wpAny_newFunctionEnv hcell hloc (fun h₁ hns hsb => ⟨hlim.fresh _ hsb, ?_⟩) hk)
  show codeAny _ _ (.expr body (envX qual scope s.heap.objs.size f (.ref c') cl)) _ _
  have hk₁ : ∀ b o, s.heap.get? b = some o → h₁.get? b = some o := fun b o e => hsb.extBut b o (Nat.ne_of_lt (Heap.lt_size e)) (Heap.get?_push_of_some _ e)
  exact kla_codeExpr (wpAny_mono (h h₁ _ ⟨hns, hk₁, Nat.le_refl _⟩) (fun v s' x => x) fun _ _ x => x.elim)

theorem getItem_range {r : Addr} {a b : Int} {t u v tk : Tok} {k : Int} {Q : Value → Shared → Prop} (hr : IsRange s.heap r a b 1 t u v) (h0 : 0 ≤ k) (h1 : k < Builtin.Range.rangeSize a b 1)
    (h : ∀ t' tk', Q (.int (a + k) t') { s with toks := tk' }) : wpAny (model prog w) A (getItem (.ref r) (.int k tk)) Q E s := by
  have hT : s.TypeIs (.ref r) "range" := ⟨_, hr, rfl⟩
  refine wpAny_getItem_slot hT (by decide) F.slot_range_getitem ?_
  refine wpAny_call_entry F.slot_range_getitem hT F.entry_range_getitem ?_ (F.args_range_getitem_2 _ _)
  obtain ⟨hp, g, d, tk, os⟩ := s
  wp_walk using wpAny_loadPart' hr
  rw [show typeLookup (Value.type "int") (Str.ofString "__index__") = pure (some (.builtin "int.__index__")) from F.slot_int_index.lookup]
  refine wpAny_pure ?_
  dsimp only [Option.isNone]
  rw [if_neg (by decide)]
  wp_walk
  have e : (if k < 0 then k + Builtin.Range.rangeSize a b 1 else k) = k := if_neg (by omega)
  simp only [e]
  rw [if_neg (by simp; omega)]
  wp_walk
  exact ⟨_, rfl, by rw [Int.mul_one]; exact h _ _⟩

theorem range_item {value slice : PySem.Expr} {r : Addr} {a b : Int} {t u v tk : Tok} {k : Int} {Q : Value → Shared → Prop} (hr : IsRange s.heap r a b 1 t u v) (h0 : 0 ≤ k) (h1 : k < Builtin.Range.rangeSize a b 1)
    (h : ∀ t' tk', Q (.int (a + k) t') { s with toks := tk' })
    (hs : subscripted slice false (.ref r) (.int k tk) = operate [.ref r, .int k tk] (getItem (.ref r) (.int k tk)) := by with_unfolding_all rfl) :
    wpAny (model prog w) A (subscriptTail value slice (.ref r) (.int k tk)) Q E s :=
  tail_any ⟨_, hr, rfl⟩ F.slot_range_getitem.lookup (getItem_range hr h0 h1 h) hs

theorem freeX {x : Str} {pos : Pos} {qual : Str} {scope : Scope} {L f c : Addr} {cd : Value} {cl : List (Str × Addr)} {o : Obj} {v : Value} {Q : Value → Shared → Prop} (hg : s.heap.get? c = some o) (hd : o.data = .cell (some v)) (h : Q v s) (hc : cl.lookup x = some c)
    (hk : (envX qual scope L f cd cl).scope.kind = .function) (hx : (envX qual scope L f cd cl).kindOf x = some .free) (hb : (x == ("__debug__" : Str)) = false := by decide) (hn : (x == ("__classdict__" : Str)) = false := by decide) :
    wpAny (model prog w) A (eval (.Name x pos) (envX qual scope L f cd cl)) Q E s := wpAny_Name (wpAny_loadName_free hk hx hc ⟨o, hg, hd⟩ h hn) hb
end
def rgO (a b : Int) (t u v : Tok) : Obj := { cls := .type "range", dict := none, data := .fields #[.int a t, .int b u, .int 1 v], slots := #[] }
section
variable {prog : Program} {w : World} {A : Around} {E : Value → Shared → Prop} {s : Shared} {h₀ : Heap} {L : Addr} {m : Str → Option Value}
theorem range1_led {Q : Value → Shared → Prop} {n : Int} {t : Tok} {news : List (Addr × Obj)} (F : Fr h₀ L s.heap m) (N : News h₀ L s.heap news)
    (h : ∀ R h' tk t₁ u₁ v₁, Fr h₀ L h' m → News h₀ L h' ((R, rgO 0 n t₁ u₁ v₁) :: news) → (∀ p ∈ news, p.1 < R) → Q (.ref R) { s with heap := h', toks := tk }) :
    wpAny (model prog w) A (call (.type "range") [.int n t]) Q E s :=
  range1_rows F N fun h' tk t₁ u₁ v₁ hr F' N' hk => h _ h' tk t₁ u₁ v₁ F' (fun p hp => by
    rcases List.mem_cons.mp hp with rfl | hp
    · exact ⟨hr, Nat.ne_of_gt F.ns.lt, next_is_new F⟩
    · exact N' p hp) fun p hp => Heap.lt_size (N p hp).1
end
theorem binds_kw1 {s : Shared} {fd : FuncData} {args : Args} {binds : List (Str × Value)} {T : Addr} {o : Obj} {items : Array Value} {n : Nat}
    {k : Option (Array Value) → Sem (List (Str × Value))}
    (ho : s.heap.get? T = some o) (hs' : o.data = .seq items n)
    (h₁ : bindArgs fd args = seqItems? (.ref T) >>= k) (h₂ : k (some items) = pure binds) : BindsTo s fd args binds :=
  fun _ _ _ _ hq => by
    rw [h₁]
    refine wpAny_bind (wpAny_seqItems ho hs' ?_)
    rw [h₂]
    exact wpAny_pure hq
end Mine
namespace Mine
def cellO : Obj := { cls := .type "cell", data := .cell none }
def dictO : Obj := { cls := .type "dict", data := .dict #[] }
section
variable {prog : Program} {w : World} {A : Around} {E : Value → Shared → Prop} {s : Shared}
theorem newEnvC {scope : Scope} {globals : Addr} {closure : List (Str × Addr)} {qual : Str} {func : Option Addr} {code : Value} {env : Env} {builtins : Addr} {x : Str} {Q : Env → Shared → Prop}
    (hc : ∀ n acc, cellsFrom n scope.names acc = (x, n) :: acc) (hp : ∀ h, pushCells h scope.names = h.push cellO)
    (hQ : Q (newEnv scope s.heap.objs.size globals ((x, s.heap.objs.size + 1) :: closure) qual func code (some env) builtins) { s with heap := (s.heap.push dictO).push cellO }) :
    wpAny (model prog w) A (newFunctionEnv scope globals closure [] qual func code (some env) builtins) Q E s := by
  simp only [newFunctionEnv, Option.isSome_some, if_true]
  refine wpAny_bind (wpAny_alloc ?_)
  refine wpAny_bind (wpAny_layCells _ (fun name kind cells => by cases hkc : kind == NameKind.cell <;> simp [hkc]) _ _ _ _ ?_)
  rw [hc, hp]
  refine wpAny_bind (wpAny_pure (wpAny_pure ?_))
  rw [show ({ s with heap := s.heap.push { cls := .type "dict", data := .dict #[] } } : Shared).heap.objs.size = s.heap.objs.size + 1 from Heap.size_push ..]
  exact hQ

open LCg in
theorem listComp_C {h₀ : Heap} {L : Addr} {m : Str → Option Value} {env : Env} {elt iter : PySem.Expr} {x : Str} {px pos : Pos} {scope : Scope} {cl : List (Str × Addr)} {Q : Value → Shared → Prop} (J : Nat → List Value → List (Addr × Obj) → Prop) (_F₀ : Fr h₀ L s.heap m)
    (hclos : closureFor scope env = pure cl) (hkind : scope.kind = .function) (hnames : ∀ y ∈ scope.names, y.2 = .local → scope.names.lookup y.1 = some .local)
    (hc : ∀ n acc, cellsFrom n scope.names acc = (x, n) :: acc) (hp : ∀ h, pushCells h scope.names = h.push cellO) (hkx : ∀ C K, (compEnvC scope ((x, K) :: cl) C env).kindOf x = some .cell) (hxx : (x == x) = true)
    (h : wpAny (model prog w) A (eval iter env) (fun xv s₁ => ∃ r a b t u v n news, xv = .ref r ∧ A.handled = none ∧ Fr h₀ L s₁.heap m ∧ News h₀ L s₁.heap news ∧ IsRange s₁.heap r a b 1 t u v ∧ Builtin.Range.small a b 1 = true ∧ Builtin.Range.rangeSize a b 1 = ((n : Nat) : Int) ∧ n ≤ sizeLine ∧ J 0 [] news ∧
      (∀ i ys news' t I oI C oC K oK D h tk (E' : Value → Shared → Prop), i < n → J i ys news' → oK.data = .cell (some (.int (a + (i : Nat)) t)) → Fr h₀ L h m → News h₀ L h ((I, oI) :: (C, oC) :: (K, oK) :: (D, lst ys) :: news') → (∀ p ∈ news', p.1 ≠ I ∧ p.1 ≠ C ∧ p.1 ≠ K ∧ p.1 ≠ D) →
        wpAny (model prog w) A (eval elt (compEnvC scope ((x, K) :: cl) C env)) (fun y s₂ => ∃ h' tk' news'', s₂ = { s₁ with heap := h', toks := tk' } ∧ Fr h₀ L h' m ∧ News h₀ L h' ((I, oI) :: (C, oC) :: (K, oK) :: (D, lst ys) :: news'') ∧ (∀ p ∈ news'', p.1 ≠ I ∧ p.1 ≠ C ∧ p.1 ≠ K ∧ p.1 ≠ D) ∧ J (i + 1) (ys ++ [y]) news'') E' { s₁ with heap := h, toks := tk }) ∧
      (∀ ys news' D h tk, J n ys news' → Fr h₀ L h m → News h₀ L h ((D, lst ys) :: news') → (∀ p ∈ news', p.1 ≠ D) → Q (.ref D) { s₁ with heap := h, toks := tk })) E s)
    (hs : ∀ x, foldedSetIterable iter env x = pure x := by intro _; rfl) :
    wpAny (model prog w) A (eval (.ListComp elt [⟨.Name x px, iter, [], 0⟩] scope pos) env) Q E s := by
  rw [eval_ListComp]
  refine wpAny_comprehension_free (use := none) rfl hs hclos hkind hnames (wpAny_mono h (fun xv s₁ h₁ => ?_) fun _ _ e => e)
  obtain ⟨r, a, b, t, u, v, n, news, rfl, hh, F, N, hr, hsm, hn, hsz, hJ0, step, fin⟩ := h₁
  refine wpAny_pyIter_range hr hsm ?_
  have W := range_walks (prog := prog) (w := w) (A := A) (I := s₁.heap.objs.size) hh a n
  have hst0 : IsRangeIter (s₁.heap.push { cls := .type "range_iterator", data := .fields #[rawInt a, rawInt (Builtin.Range.rangeSize a b 1), rawInt 1] }) s₁.heap.objs.size (a + ((0 : Nat) : Int) * 1) ((n : Int) - ((0 : Nat) : Int)) 1 := by
    show IsRangeIter _ _ _ _ _; rw [hn]; simpa using Heap.get?_push_size _ rfl
  generalize hI : s₁.heap.objs.size = I at *
  have F2 : Fr h₀ L (s₁.heap.push { cls := .type "range_iterator", data := .fields #[rawInt a, rawInt (Builtin.Range.rangeSize a b 1), rawInt 1] }) m := F.push _
  have N2 : News h₀ L (s₁.heap.push { cls := .type "range_iterator", data := .fields #[rawInt a, rawInt (Builtin.Range.rangeSize a b 1), rawInt 1] }) news := fun p hp => ⟨Heap.get?_push_of_some _ (N p hp).1, (N p hp).2⟩
  have hIL : I ≠ L := by rw [← hI]; exact Nat.ne_of_gt F.ns.lt
  have hI0 : h₀.get? I = none := by rw [← hI]; exact next_is_new F
  have hnI : ∀ p ∈ news, p.1 ≠ I := fun p hp => by rw [← hI]; exact Nat.ne_of_lt (Heap.lt_size (N p hp).1)
  have hH : ∀ g : Heap, g = s₁.heap.push { cls := .type "range_iterator", data := .fields #[rawInt a, rawInt (Builtin.Range.rangeSize a b 1), rawInt 1] } → IsRangeIter g I (a + ((0 : Nat) : Int) * 1) ((n : Int) - ((0 : Nat) : Int)) 1 ∧ Fr h₀ L g m ∧ News h₀ L g news := fun g e => by rw [e]; exact ⟨hst0, F2, N2⟩
  generalize s₁.heap.push { cls := .type "range_iterator", data := .fields #[rawInt a, rawInt (Builtin.Range.rangeSize a b 1), rawInt 1] } = g at *
  clear hH
  have hIg : I < g.objs.size := Heap.lt_size hst0
  refine wpAny_newObj_type (newEnvC hc hp ?_)
  dsimp only
  generalize hD : g.objs.size = D at *
  have hgl : ∀ b o, g.get? b = some o → b < D := fun b o e => by rw [← hD]; exact Heap.lt_size e
  have sz1 : (g.push { cls := .type "list", dict := none, data := .seq ([] : List Value).toArray }).objs.size = D + 1 := by rw [Heap.size_push, hD]
  have sz2 : ((g.push { cls := .type "list", dict := none, data := .seq ([] : List Value).toArray }).push dictO).objs.size = D + 1 + 1 := by rw [Heap.size_push, sz1]
  have gD : ((g.push { cls := .type "list", dict := none, data := .seq ([] : List Value).toArray }).push dictO |>.push cellO).get? D = some (lst []) := Heap.get?_push_of_some _ (Heap.get?_push_of_some _ (by rw [← hD]; exact Heap.get?_push_size _ rfl))
  have gC : ((g.push { cls := .type "list", dict := none, data := .seq ([] : List Value).toArray }).push dictO |>.push cellO).get? (D + 1) = some dictO := Heap.get?_push_of_some _ (by rw [← sz1]; exact Heap.get?_push_size _ rfl)
  have gK : ((g.push { cls := .type "list", dict := none, data := .seq ([] : List Value).toArray }).push dictO |>.push cellO).get? (D + 1 + 1) = some cellO := by rw [← sz2]; exact Heap.get?_push_size _ rfl
  have gold : ∀ b o, g.get? b = some o → ((g.push { cls := .type "list", dict := none, data := .seq ([] : List Value).toArray }).push dictO |>.push cellO).get? b = some o := fun b o e => Heap.get?_push_of_some _ (Heap.get?_push_of_some _ (Heap.get?_push_of_some _ e))
  rw [sz1]
  generalize ((g.push { cls := .type "list", dict := none, data := .seq ([] : List Value).toArray }).push dictO).push cellO = g1 at *
  have hLD : L < D := by rw [← hD]; exact F2.ns.lt
  have fresh : ∀ b, D ≤ b → h₀.get? b = none := fun b hb => by
    cases e : h₀.get? b with
    | none => rfl
    | some o => exact absurd (hgl b o (F2.keep b o e)) (Nat.not_lt.mpr hb)
  generalize hCdef : D + 1 = C at *
  generalize hKdef : C + 1 = K at *
  have dCD : C ≠ D ∧ K ≠ D ∧ K ≠ C ∧ D ≠ C ∧ D ≠ K ∧ C ≠ K := by subst hCdef; subst hKdef; exact (by omega : D + 1 ≠ D ∧ D + 1 + 1 ≠ D ∧ D + 1 + 1 ≠ D + 1 ∧ D ≠ D + 1 ∧ D ≠ D + 1 + 1 ∧ D + 1 ≠ D + 1 + 1)
  have hDC : D ≤ C := by subst hCdef; exact Nat.le_succ _
  have hDK : D ≤ K := by subst hKdef; exact Nat.le_trans hDC (Nat.le_succ _)
  have apart : ∀ b, b < D → b ≠ C ∧ b ≠ K ∧ b ≠ D := fun b hb => ⟨Nat.ne_of_lt (Nat.lt_of_lt_of_le hb hDC), Nat.ne_of_lt (Nat.lt_of_lt_of_le hb hDK), Nat.ne_of_lt hb⟩
  have hIa := apart I hIg
  have hLa := apart L hLD
  have loop : ∀ s₃ : Shared, s₃ = { s₁ with heap := g1 } →
      codeAny (model prog w) A (.compLoop (.ListComp elt [⟨.Name x px, iter, [], 0⟩] scope pos) 0 (.ref I) (.ref D) (compEnvC scope ((x, K) :: cl) C env)) (compPost (model prog w) A E none Q (.ref D) C) s₃ := by
    rintro s₃ rfl
    refine codeAny_compLoop_tests
      (fun k s' => ∃ h' tk i ys news' oK vK, s' = { s₁ with heap := h', toks := tk } ∧ i ≤ n ∧ k = n + 1 - i ∧ ys.length = i ∧ IsRangeIter h' I (a + (i : Nat) * 1) ((n : Int) - (i : Nat)) 1 ∧ Fr h₀ L h' m ∧ oK.data = .cell vK ∧ News h₀ L h' ((C, dictO) :: (K, oK) :: (D, lst ys) :: news') ∧
        (∀ p ∈ news', p.1 ≠ I ∧ p.1 ≠ C ∧ p.1 ≠ K ∧ p.1 ≠ D) ∧ J i ys news') ?_ (n + 1)
      ⟨g1, s₁.toks, 0, [], news, cellO, none, rfl, Nat.zero_le _, rfl, rfl, gold _ _ hst0, F2.keeps gold, rfl, fun p hp => ?_, fun p hp => ⟨hnI p hp, apart _ (hgl _ _ (N2 p hp).1)⟩, hJ0⟩
    · rintro k s' ⟨h', tk, i, ys, news', oK, vK, rfl, hi, rfl, hyl, hst', F', hoK, N', off', hJ⟩
      by_cases hlt : i < n
      · refine W.item i _ _ _ hlt hst' fun v h₂ tk₂ hPv hst₂ hk₂ => ?_
        obtain ⟨tv, rfl⟩ := hPv
        have F₂ : Fr h₀ L h₂ m := LCg.fr_but F' hk₂ hIL.symm hI0
        have N₂ : News h₀ L h₂ ((C, dictO) :: (K, oK) :: (D, lst ys) :: news') := LCg.news_but N' hk₂ fun p hp => by
          rcases List.mem_cons.mp hp with rfl | hp
          · exact hIa.1.symm
          rcases List.mem_cons.mp hp with rfl | hp
          · exact hIa.2.1.symm
          rcases List.mem_cons.mp hp with rfl | hp
          · exact hIa.2.2.symm
          · exact (off' p hp).1
        refine wpAny_assign_Name (wpAny_storeName_cell (c := K) (by simp [compEnvC, relabel, hkind]) (hkx _ _) (by simp [compEnvC, List.lookup, hxx]) ⟨oK, (N₂ _ (.tail _ (.head _))).1, hoK⟩ fun h₃ hv₃ hs₃ => ?_)
        obtain ⟨oK', hK', hoK'⟩ := hv₃
        refine wpAny_tests_nil ?_
        simp only [if_true]
        have hst₃ : IsRangeIter h₃ I (a + ((i + 1 : Nat) : Int) * 1) ((n : Int) - ((i + 1 : Nat) : Int)) 1 := hs₃.extBut _ _ hIa.2.1 hst₂
        have F₃ : Fr h₀ L h₃ m := F₂.change hs₃ hLa.2.1.symm (fresh K hDK)
        have NI : ∃ oI, h₃.get? I = some oI := ⟨_, hst₃⟩
        obtain ⟨oI, hoI⟩ := NI
        have N₃ : News h₀ L h₃ ((I, oI) :: (C, dictO) :: (K, oK') :: (D, lst ys) :: news') := fun p hp => by
          rcases List.mem_cons.mp hp with rfl | hp
          · exact ⟨hoI, hIL, hI0⟩
          rcases List.mem_cons.mp hp with rfl | hp
          · have z := N₂ (C, dictO) (.head _)
            exact ⟨hs₃.extBut _ _ dCD.2.2.2.2.2 z.1, z.2⟩
          rcases List.mem_cons.mp hp with rfl | hp
          · exact ⟨hK', hLa.2.1.symm, fresh K hDK⟩
          rcases List.mem_cons.mp hp with rfl | hp
          · have z := N₂ (D, lst ys) (.tail _ (.tail _ (.head _)))
            exact ⟨hs₃.extBut _ _ dCD.2.2.2.2.1 z.1, z.2⟩
          · have z := N₂ p (.tail _ (.tail _ (.tail _ hp)))
            exact ⟨hs₃.extBut _ _ (off' p hp).2.2.1 z.1, z.2⟩
        refine wpAny_mono (step i ys news' tv I oI C dictO K oK' D h₃ tk₂ _ hlt hJ hoK' F₃ N₃ off') (fun y s₄ h₄ => ?_) fun _ _ e => e
        obtain ⟨h₄, tk₄, news₄, rfl, F₄, N₄, off₄, hJ₄⟩ := h₄
        have zI := (N₄ (I, oI) (.head _)).1
        have zD := (N₄ (D, lst ys) (.tail _ (.tail _ (.tail _ (.head _))))).1
        refine append_at (hsz := by show ys.toArray.size ≤ sizeLine; rw [List.size_toArray, hyl]; exact Nat.le_trans hi hsz) zD fun h₅ hs₅ hD₅ => ?_
        refine ⟨n + 1 - (i + 1), by omega, h₅, tk₄, i + 1, ys ++ [y], news₄, oK', _, rfl, hlt, rfl, by rw [List.length_append, List.length_singleton, hyl], ?_, F₄.change hs₅ hLa.2.2.symm (fresh D (Nat.le_refl _)), hoK', fun p hp => ?_, off₄, hJ₄⟩
        · show h₅.get? I = _
          rw [hs₅.2 I hIa.2.2, zI, ← hoI]
          exact hst₃
        · rcases List.mem_cons.mp hp with rfl | hp
          · have z := N₄ (C, dictO) (.tail _ (.head _))
            exact ⟨hs₅.extBut _ _ dCD.1 z.1, z.2⟩
          rcases List.mem_cons.mp hp with rfl | hp
          · have z := N₄ (K, oK') (.tail _ (.tail _ (.head _)))
            exact ⟨hs₅.extBut _ _ dCD.2.1 z.1, z.2⟩
          rcases List.mem_cons.mp hp with rfl | hp
          · exact ⟨hD₅.trans (congrArg some (lst_snoc ys y)), hLa.2.2.symm, fresh D (Nat.le_refl _)⟩
          · have z := N₄ p (.tail _ (.tail _ (.tail _ (.tail _ hp))))
            exact ⟨hs₅.extBut _ _ (off₄ p hp).2.2.2 z.1, z.2⟩
      · obtain rfl : i = n := Nat.le_antisymm hi (Nat.not_lt.mp hlt)
        refine W.done _ _ _ hst' fun h₂ tk₂ hk₂ => ?_
        have F₂ : Fr h₀ L h₂ m := LCg.fr_but F' hk₂ hIL.symm hI0
        have zC := hk₂ C dictO (by simpa using hIa.1.symm) (N' (C, dictO) (.head _)).1
        refine ⟨fun _ => none, ⟨dictO, #[], 0, zC, rfl, fun _ he => by simp at he, fun _ => rfl⟩, fun h'' hs'' => ?_⟩
        refine fin ys news' D h'' tk₂ hJ (F₂.change hs'' hLa.1.symm (fresh C hDC)) (fun p hp => ?_) (fun p hp => (off' p hp).2.2.2)
        rcases List.mem_cons.mp hp with rfl | hp
        · have z := N' (D, lst ys) (.tail _ (.tail _ (.head _)))
          exact ⟨hs''.extBut _ _ dCD.2.2.2.1 (hk₂ _ _ (by simpa using hIa.2.2.symm) z.1), z.2⟩
        · have z := N' p (.tail _ (.tail _ (.tail _ hp)))
          exact ⟨hs''.extBut _ _ (off' p hp).2.1 (hk₂ _ _ (by simpa using (off' p hp).1) z.1), z.2⟩
    · rcases List.mem_cons.mp hp with rfl | hp
      · exact ⟨gC, hLa.1.symm, fresh C hDC⟩
      rcases List.mem_cons.mp hp with rfl | hp
      · exact ⟨gK, hLa.2.1.symm, fresh K hDK⟩
      rcases List.mem_cons.mp hp with rfl | hp
      · exact ⟨gD, hLa.2.2.symm, fresh D (Nat.le_refl _)⟩
      · exact ⟨gold _ _ (N2 p hp).1, (N2 p hp).2⟩
  exact codeAny_compStart_list (loop _ rfl) (W.self 0 _ _ _ (gold _ _ hst0) (loop _ rfl))
end
end Mine
namespace Mine

/-! the plain law: Knuth's exchanges leave the rows as they are -/
abbrev Srt (r : List Int) : Prop := r.Pairwise (· ≤ ·)

theorem bs_spec {p : Nat → Bool} {n : Nat} (mono : ∀ i j, i ≤ j → j < n → p i = true → p j = true) {lo hi : Nat} (hle : lo ≤ hi) (hn : hi ≤ n)
    (h1 : ∀ i, i < lo → p i = false) (h2 : ∀ i, hi ≤ i → i < n → p i = true) :
    (∀ i, i < bs p lo hi → p i = false) ∧ (∀ i, bs p lo hi ≤ i → i < n → p i = true) := by
  induction lo, hi using bs.induct p with
  | case1 lo hi h hp ih =>
    rw [bs_left h hp]
    exact ih (by omega) (by omega) h1 (fun i q q' => mono _ i q q' hp)
  | case2 lo hi h hp ih =>
    rw [bs_right h (by simpa using hp)]
    refine ih (by omega) (by omega) (fun i q => ?_) h2
    cases e : p i with
    | false => rfl
    | true => exact absurd (mono i ((lo + hi) / 2) (by omega) (by omega) e) (by simpa using hp)
  | case3 lo hi h =>
    rw [bs_done h]
    exact ⟨h1, fun i q q' => h2 i (by omega) q'⟩

def rowIns : List Int → Int → List Int × Option Int
  | [], x => ([x], none)
  | a :: r, x => if x < a then (x :: r, some a) else (a :: (rowIns r x).1, (rowIns r x).2)

theorem rowIns_at : ∀ (r : List Int) (x : Int) (k : Nat), k ≤ r.length → (∀ i, i < k → r.getD i 0 ≤ x) → (k < r.length → x < r.getD k 0) →
    rowIns r x = if k = r.length then (r ++ [x], none) else (r.set k x, some (r.getD k 0))
  | [], x, k, hk, _, _ => by
    have : k = 0 := by simpa using hk
    subst this
    simp [rowIns]
  | a :: r, x, 0, hk, h1, h2 => by
    have := h2 (by simp)
    simp at this
    simp [rowIns, this]
  | a :: r, x, k + 1, hk, h1, h2 => by
    have ha : ¬ x < a := by have := h1 0 (by omega); simp at this; omega
    have ih := rowIns_at r x k (by simpa using hk) (fun i hi => by simpa using h1 (i + 1) (by omega)) (fun h => by simpa using h2 (by simpa using h))
    unfold rowIns
    rw [if_neg ha, ih]
    by_cases e : k = r.length
    · simp [e]
    · simp [e]

theorem srt_getD {r : List Int} (h : Srt r) {i j : Nat} (hij : i ≤ j) (hj : j < r.length) : r.getD i 0 ≤ r.getD j 0 := by
  have e1 : r.getD i 0 = r[i] := by simp [List.getD, List.getElem?_eq_getElem (show i < r.length by omega)]
  have e2 : r.getD j 0 = r[j] := by simp [List.getD, List.getElem?_eq_getElem hj]
  rw [e1, e2]
  by_cases e : i = j
  · subst e; exact Int.le_refl _
  · exact List.pairwise_iff_getElem.mp h i j (by omega) hj (by omega)

theorem rowIns_bis {r : List Int} (h : Srt r) (x : Int) : rowIns r x = if bisR r x = r.length then (r ++ [x], none) else (r.set (bisR r x) x, some (r.getD (bisR r x) 0)) := by
  have sp := bs_spec (p := fun i => decide (x < r.getD i 0)) (n := r.length) (fun i j hij hj hp => by
    have := srt_getD h hij hj
    simp only [decide_eq_true_eq] at hp ⊢
    omega) (lo := 0) (hi := r.length) (Nat.zero_le _) (Nat.le_refl _) (fun i hi => absurd hi (Nat.not_lt_zero _)) (fun i q q' => by omega)
  refine rowIns_at r x (bisR r x) (bisR_le r x) (fun i hi => ?_) (fun hk => ?_)
  · have := sp.1 i hi
    simp only [decide_eq_false_iff_not] at this
    omega
  · have := sp.2 (bisR r x) (Nat.le_refl _) hk
    simpa using this

def insP : List (List Int) → Int → List (List Int)
  | [], x => [[x]]
  | r :: rs, x => match (rowIns r x).2 with
    | none => (rowIns r x).1 :: rs
    | some y => (rowIns r x).1 :: insP rs y

theorem insT_insP : ∀ (T : List (List Int)) (x : Int), (∀ r ∈ T, Srt r) → insT T x = insP T x
  | [], x, _ => rfl
  | r :: T, x, h => by
    unfold insT insP
    rw [rowIns_bis (h r (.head _)) x]
    by_cases e : bisR r x = r.length
    · simp [e]
    · simp only [e, if_false]
      rw [insT_insP T _ (fun q hq => h q (.tail _ hq))]

/-- what stands in a row behind an insertion, and what is pushed out -/
theorem rowIns_mem : ∀ {r : List Int} {x : Int} {e : Int}, e ∈ (rowIns r x).1 → e = x ∨ e ∈ r
  | [], x, e, h => by simp [rowIns] at h; exact .inl h
  | a :: r, x, e, h => by
    unfold rowIns at h
    split at h
    · rcases List.mem_cons.mp h with h | h
      · exact .inl h
      · exact .inr (.tail _ h)
    · rcases List.mem_cons.mp h with h | h
      · exact .inr (by rw [h]; exact .head _)
      · exact (rowIns_mem h).imp id (fun q => .tail _ q)
theorem rowIns_self : ∀ (r : List Int) (x : Int), x ∈ (rowIns r x).1
  | [], x => by simp [rowIns]
  | a :: r, x => by
    unfold rowIns
    split
    · exact .head _
    · exact .tail _ (rowIns_self r x)
theorem rowIns_out : ∀ {r : List Int} {x y : Int}, (rowIns r x).2 = some y → y ∈ r ∧ x < y
  | [], x, y, h => by simp [rowIns] at h
  | a :: r, x, y, h => by
    unfold rowIns at h
    split at h
    · rename_i hx
      simp only [Option.some.injEq] at h
      subst h
      exact ⟨.head _, hx⟩
    · have := rowIns_out h
      exact ⟨.tail _ this.1, this.2⟩
theorem rowIns_srt : ∀ {r : List Int} (x : Int), Srt r → Srt (rowIns r x).1
  | [], x, _ => by simp [rowIns]
  | a :: r, x, h => by
    have h' := List.pairwise_cons.mp h
    unfold rowIns
    split
    · refine List.pairwise_cons.mpr ⟨fun e he => ?_, h'.2⟩
      have := h'.1 e he
      omega
    · refine List.pairwise_cons.mpr ⟨fun e he => ?_, rowIns_srt x h'.2⟩
      rcases rowIns_mem he with rfl | he
      · omega
      · exact h'.1 e he
/-- where something greater stands, something is pushed out, and it is the least such -/
theorem rowIns_some : ∀ {r : List Int} {x e : Int}, Srt r → e ∈ r → x < e → ∃ y, (rowIns r x).2 = some y ∧ y ≤ e
  | a :: r, x, e, h, he, hx => by
    have h' := List.pairwise_cons.mp h
    unfold rowIns
    split
    · refine ⟨a, rfl, ?_⟩
      rcases List.mem_cons.mp he with rfl | he
      · exact Int.le_refl _
      · exact h'.1 e he
    · rcases List.mem_cons.mp he with rfl | he
      · omega
      · exact rowIns_some h'.2 he hx
/-- two in rising order: nothing behind nothing; and what is pushed out rises -/
theorem rowIns_two : ∀ {r : List Int} {y z : Int}, Srt r → y ≤ z →
    ((rowIns r y).2 = none → (rowIns (rowIns r y).1 z).2 = none) ∧ (∀ y' z', (rowIns r y).2 = some y' → (rowIns (rowIns r y).1 z).2 = some z' → y' ≤ z')
  | [], y, z, _, hyz => by
    have : ¬ z < y := by omega
    simp [rowIns, this]
  | a :: r, y, z, h, hyz => by
    have h' := List.pairwise_cons.mp h
    by_cases hy : y < a
    · have hz : ¬ z < y := by omega
      refine ⟨fun q => by simp [rowIns, hy] at q, fun y' z' q1 q2 => ?_⟩
      simp only [rowIns, if_pos hy, Option.some.injEq] at q1
      subst q1
      simp only [rowIns, if_pos hy, if_neg hz] at q2
      exact h'.1 z' (rowIns_out q2).1
    · have hz : ¬ z < a := by omega
      have ih := rowIns_two (r := r) h'.2 hyz
      simp only [rowIns, if_neg hy, if_neg hz]
      exact ih

/-- a word put into one row: the row, and what is pushed out, in order -/
def rowW : List Int → List Int → List Int × List Int
  | r, [] => (r, [])
  | r, x :: w => ((rowW (rowIns r x).1 w).1, (rowIns r x).2.toList ++ (rowW (rowIns r x).1 w).2)

inductive Kn : List Int → List Int → Prop
  | refl (u : List Int) : Kn u u
  | k1 (x y z : Int) : x < y → y ≤ z → Kn [y, z, x] [y, x, z]
  | k2 (x y z : Int) : x ≤ y → y < z → Kn [x, z, y] [z, x, y]

theorem row_k1 : ∀ {r : List Int} {x y z : Int}, Srt r → x < y → y ≤ z → (rowW r [y, z, x]).1 = (rowW r [y, x, z]).1 ∧ Kn (rowW r [y, z, x]).2 (rowW r [y, x, z]).2
  | [], x, y, z, _, hxy, hyz => by
    have h1 : ¬ z < y := by omega
    have h2 : ¬ z < x := by omega
    simp [rowW, rowIns, hxy, h1, h2]
    exact .refl _
  | a :: r, x, y, z, h, hxy, hyz => by
    have h' := List.pairwise_cons.mp h
    by_cases hy : y < a
    · have h1 : ¬ z < y := by omega
      have h2 : ¬ z < x := by omega
      simp only [rowW, rowIns, if_pos hy, if_neg h1, if_pos hxy, if_neg h2, Option.toList]
      refine ⟨by trivial, ?_⟩
      cases e : (rowIns r z).2 with
      | none => exact .refl _
      | some z' =>
        exact .k1 y a z' hy (h'.1 z' (rowIns_out e).1)
    · have hz : ¬ z < a := by omega
      by_cases hx : x < a
      · have h2 : ¬ z < x := by omega
        simp only [rowW, rowIns, if_neg hy, if_neg hz, if_pos hx, if_neg h2, Option.toList]
        refine ⟨by trivial, ?_⟩
        have two := rowIns_two (r := r) h'.2 hyz
        cases e1 : (rowIns r y).2 with
        | none =>
          rw [two.1 e1]
          exact .refl _
        | some y' =>
          cases e2 : (rowIns (rowIns r y).1 z).2 with
          | none => exact .refl _
          | some z' =>
            have := (rowIns_out e1).2
            exact .k1 a y' z' (by omega) (two.2 y' z' e1 e2)
      · have ih := row_k1 (r := r) h'.2 hxy hyz
        simp only [rowW, rowIns, if_neg hy, if_neg hz, if_neg hx] at ih ⊢
        exact ⟨by rw [ih.1], ih.2⟩

theorem row_k2 : ∀ {r : List Int} {x y z : Int}, Srt r → x ≤ y → y < z → (rowW r [x, z, y]).1 = (rowW r [z, x, y]).1 ∧ (Kn (rowW r [x, z, y]).2 (rowW r [z, x, y]).2)
  | [], x, y, z, _, hxy, hyz => by
    have h1 : ¬ z < x := by omega
    have h2 : x < z := by omega
    have h3 : ¬ y < x := by omega
    simp [rowW, rowIns, h1, h2, h3, hyz]
    exact .refl _
  | a :: r, x, y, z, h, hxy, hyz => by
    have h' := List.pairwise_cons.mp h
    have hzx : ¬ z < x := by omega
    have hyx : ¬ y < x := by omega
    have hxz : x < z := by omega
    by_cases hz : z < a
    · have hx : x < a := by omega
      cases r with
      | nil =>
        simp [rowW, rowIns, hz, hx, hzx, hyx, hxz, hyz]
        exact .refl _
      | cons b r =>
        have hab := h'.1 b (.head _)
        have hzb : z < b := by omega
        have hyb : y < b := by omega
        simp only [rowW, rowIns, if_pos hz, if_pos hx, if_neg hzx, if_neg hyx, if_pos hxz, if_pos hyz, if_pos hzb, if_pos hyb, Option.toList]
        exact ⟨by trivial, .k1 z a b hz hab⟩
    · by_cases hx : x < a
      · simp only [rowW, rowIns, if_neg hz, if_pos hx, if_neg hzx, if_neg hyx, Option.toList]
        refine ⟨by trivial, ?_⟩
        obtain ⟨y', ey, hy'⟩ := rowIns_some (rowIns_srt z h'.2) (rowIns_self r z) hyz
        rw [ey]
        cases e : (rowIns r z).2 with
        | none => exact .refl _
        | some z' =>
          have h1 := rowIns_out e
          have h2 := rowIns_out ey
          refine .k2 a y' z' ?_ (by omega)
          rcases rowIns_mem h2.1 with q | q
          · omega
          · exact h'.1 y' q
      · have hy : ¬ y < a := by omega
        have ih := row_k2 (r := r) h'.2 hxy hyz
        simp only [rowW, rowIns, if_neg hy, if_neg hz, if_neg hx] at ih ⊢
        exact ⟨by rw [ih.1], ih.2⟩

theorem foldl_row : ∀ (w : List Int) (r : List Int) (T : List (List Int)), w.foldl insP (r :: T) = (rowW r w).1 :: (rowW r w).2.foldl insP T
  | [], r, T => rfl
  | x :: w, r, T => by
    simp only [List.foldl_cons, rowW]
    conv => lhs; arg 2; unfold insP
    cases e : (rowIns r x).2 with
    | none => simp [foldl_row w]
    | some y => simp [foldl_row w]

theorem kn_fold : ∀ (T : List (List Int)) {u v : List Int}, (∀ r ∈ T, Srt r) → Kn u v → u.foldl insP T = v.foldl insP T
  | _, _, _, _, .refl u => rfl
  | [], _, _, _, .k1 x y z h1 h2 => by
    have a1 : ¬ z < y := by omega
    have a2 : ¬ z < x := by omega
    simp [insP, rowIns, h1, a1, a2]
  | [], _, _, _, .k2 x y z h1 h2 => by
    have a1 : ¬ z < x := by omega
    have a2 : x < z := by omega
    have a3 : ¬ y < x := by omega
    simp [insP, rowIns, a1, a2, a3, h2]
  | r :: T, _, _, h, .k1 x y z h1 h2 => by
    rw [foldl_row, foldl_row]
    have k := row_k1 (h r (.head _)) h1 h2
    rw [k.1, kn_fold T (fun q hq => h q (.tail _ hq)) k.2]
  | r :: T, _, _, h, .k2 x y z h1 h2 => by
    rw [foldl_row, foldl_row]
    have k := row_k2 (h r (.head _)) h1 h2
    rw [k.1, kn_fold T (fun q hq => h q (.tail _ hq)) k.2]

theorem insP_srt : ∀ {T : List (List Int)} (x : Int), (∀ r ∈ T, Srt r) → ∀ r ∈ insP T x, Srt r
  | [], x, _ => by simp [insP]
  | r :: T, x, h => by
    have h1 := rowIns_srt x (h r (.head _))
    unfold insP
    intro q hq
    split at hq
    · rcases List.mem_cons.mp hq with rfl | hq
      · exact h1
      · exact h q (.tail _ hq)
    · rcases List.mem_cons.mp hq with rfl | hq
      · exact h1
      · exact insP_srt _ (fun q hq => h q (.tail _ hq)) q hq

theorem fold_srt : ∀ (w : List Int) {T : List (List Int)}, (∀ r ∈ T, Srt r) → (∀ r ∈ w.foldl insP T, Srt r) ∧ w.foldl insT T = w.foldl insP T
  | [], T, h => ⟨h, rfl⟩
  | x :: w, T, h => by
    simp only [List.foldl_cons]
    rw [insT_insP T x h]
    exact fold_srt w (insP_srt x h)

theorem fold_kn (u v p q : List Int) (h : Kn p q) : (u ++ p ++ v).foldl insT [] = (u ++ q ++ v).foldl insT [] := by
  rw [(fold_srt _ (by simp)).2, (fold_srt _ (by simp)).2]
  simp only [List.foldl_append]
  rw [kn_fold _ (fold_srt u (by simp)).1 h]

theorem three_split (ns : List Int) (i : Nat) (a b c : Int) (h0 : ns[i]? = some a) (h1 : ns[i+1]? = some b) (h2 : ns[i+2]? = some c) : ns = ns.take i ++ [a, b, c] ++ ns.drop (i + 3) := by
  have l2 := (List.getElem?_eq_some_iff.mp h2).1
  have e0 : ns.drop i = a :: b :: c :: ns.drop (i + 3) := by
    rw [List.drop_eq_getElem_cons (by omega), List.drop_eq_getElem_cons (by omega), List.drop_eq_getElem_cons (by omega)]
    have q0 := (List.getElem?_eq_some_iff.mp h0).2
    have q1 := (List.getElem?_eq_some_iff.mp h1).2
    have q2 := (List.getElem?_eq_some_iff.mp h2).2
    rw [q0, q1, q2]
  have := List.take_append_drop i ns
  rw [e0] at this
  simpa using this.symm

theorem knuth1 (ns : List Int) (i : Nat) (a b c : Int) (h0 : ns[i]? = some a) (h1 : ns[i+1]? = some b) (h2 : ns[i+2]? = some c) (hm : min b c < a) (hM : a ≤ max b c) :
    (ns.take i ++ [a, c, b] ++ ns.drop (i + 3)).foldl insT [] = ns.foldl insT [] := by
  conv => rhs; rw [three_split ns i a b c h0 h1 h2]
  by_cases hbc : b < c
  · exact fold_kn _ _ _ _ (.k1 b a c (by omega) (by omega))
  · exact (fold_kn _ _ _ _ (.k1 c a b (by omega) (by omega))).symm
theorem knuth2 (ns : List Int) (i : Nat) (a b c : Int) (h0 : ns[i]? = some a) (h1 : ns[i+1]? = some b) (h2 : ns[i+2]? = some c) (hm : min a b ≤ c) (hM : c < max a b) :
    (ns.take i ++ [b, a, c] ++ ns.drop (i + 3)).foldl insT [] = ns.foldl insT [] := by
  conv => rhs; rw [three_split ns i a b c h0 h1 h2]
  by_cases hab : a < b
  · exact (fold_kn _ _ _ _ (.k2 a c b (by omega) (by omega))).symm
  · exact fold_kn _ _ _ _ (.k2 b c a (by omega) (by omega))
end Mine
namespace Mine

/-- the greedy bearer's turn -/
def gStep (m : Int) (q : Int × Int) (w : Int) : Int × Int := if m < q.2 + w then (q.1 + 1, w) else (q.1, q.2 + w)
def gAll (m : Int) (ws : List Int) : Int × Int := ws.foldl (gStep m) (1, 0)
/-- t closed loads of at most m, then an open one of at most x -/
def Rr (ws : List Int) (m : Int) : Nat → Nat → Int → Prop
  | 0, k, x => (ws.take k).sum ≤ x
  | t + 1, k, x => ∃ j, j ≤ k ∧ Rr ws m t j m ∧ ((ws.take k).drop j).sum ≤ x

def NonNeg (ws : List Int) : Prop := ∀ w ∈ ws, 0 ≤ w

theorem sum_nn {ws : List Int} (h : NonNeg ws) : 0 ≤ ws.sum := by
  induction ws with
  | nil => simp
  | cons w r ih =>
    have := ih fun x hx => h x (.tail _ hx)
    have := h w (.head _)
    simp only [List.sum_cons]; omega
theorem nn_take {ws : List Int} (h : NonNeg ws) (k : Nat) : NonNeg (ws.take k) := fun w hw => h w (List.mem_of_mem_take hw)
theorem nn_drop {ws : List Int} (h : NonNeg ws) (k : Nat) : NonNeg (ws.drop k) := fun w hw => h w (List.mem_of_mem_drop hw)
theorem le_sum {ws : List Int} (h : NonNeg ws) {w : Int} (hw : w ∈ ws) : w ≤ ws.sum := by
  induction ws with
  | nil => cases hw
  | cons v r ih =>
    have hr : NonNeg r := fun x hx => h x (.tail _ hx)
    have := sum_nn hr
    have hv := h v (.head _)
    simp only [List.sum_cons]
    rcases List.mem_cons.mp hw with rfl | hw
    · omega
    · have := ih hr hw; omega

theorem take_succ_sum {ws : List Int} {k : Nat} (hk : k < ws.length) : (ws.take (k + 1)).sum = (ws.take k).sum + ws[k] := by
  rw [List.take_succ_eq_append_getElem hk, List.sum_append]; simp
theorem take_drop_sum {ws : List Int} {k j : Nat} (hk : k < ws.length) (hj : j ≤ k) : ((ws.take (k + 1)).drop j).sum = ((ws.take k).drop j).sum + ws[k] := by
  rw [List.take_succ_eq_append_getElem hk, List.drop_append_of_le_length (by rw [List.length_take]; omega), List.sum_append]; simp

theorem Rr_neg {ws : List Int} (h : NonNeg ws) {m x : Int} (t k : Nat) (hx : x < 0) : ¬ Rr ws m t k x := by
  cases t with
  | zero =>
    intro r
    have := sum_nn (nn_take h k)
    simp only [Rr] at r; omega
  | succ t =>
    rintro ⟨j, _, _, r⟩
    have := sum_nn (nn_drop (nn_take h k) j)
    omega

theorem Rr_zero {ws : List Int} {m x : Int} {k : Nat} (hk : k < ws.length) : Rr ws m 0 (k + 1) x ↔ Rr ws m 0 k (x - ws[k]) := by
  simp only [Rr, take_succ_sum hk]; omega
theorem Rr_succ {ws : List Int} {m x : Int} {t k : Nat} (hk : k < ws.length) (hx : 0 ≤ x) : Rr ws m (t + 1) (k + 1) x ↔ Rr ws m t (k + 1) m ∨ Rr ws m (t + 1) k (x - ws[k]) := by
  constructor
  · rintro ⟨j, hj, r, s⟩
    by_cases q : j = k + 1
    · subst q; exact .inl r
    · refine .inr ⟨j, by omega, r, ?_⟩
      rw [take_drop_sum hk (by omega)] at s; omega
  · rintro (r | ⟨j, hj, r, s⟩)
    · refine ⟨k + 1, Nat.le_refl _, r, ?_⟩
      rw [List.drop_eq_nil_of_le (by rw [List.length_take]; omega)]
      simpa using hx
    · refine ⟨j, by omega, r, ?_⟩
      rw [take_drop_sum hk hj]; omega

theorem greedy_inv {ws : List Int} (h : NonNeg ws) {m : Int} (hm : ∀ w ∈ ws, w ≤ m) (h0 : 0 ≤ m) : ∀ k, k ≤ ws.length →
    (1 ≤ (gAll m (ws.take k)).1 ∧ 0 ≤ (gAll m (ws.take k)).2 ∧ (gAll m (ws.take k)).2 ≤ m) ∧
    ∀ (t : Nat) (x : Int), 0 ≤ x → x ≤ m → (Rr ws m t k x ↔ (gAll m (ws.take k)).1 ≤ t ∨ ((gAll m (ws.take k)).1 = t + 1 ∧ (gAll m (ws.take k)).2 ≤ x))
  | 0, _ => by
    refine ⟨by simp [gAll, h0], fun t x hx hxm => ?_⟩
    have hg : gAll m (ws.take 0) = (1, 0) := by simp [gAll]
    rw [hg]
    constructor
    · intro _
      dsimp only
      omega
    · intro _
      have all : ∀ (t : Nat) (x : Int), 0 ≤ x → Rr ws m t 0 x := by
        intro t
        induction t with
        | zero => intro x hx; simpa [Rr] using hx
        | succ t ih => intro x hx; exact ⟨0, Nat.le_refl _, ih m h0, by simpa using hx⟩
      exact all t x hx
  | k + 1, hk => by
    have hk' : k < ws.length := by omega
    obtain ⟨⟨i1, i2, i3⟩, ih⟩ := greedy_inv h hm h0 k (by omega)
    have hw0 := h ws[k] (List.getElem_mem hk')
    have hwm := hm ws[k] (List.getElem_mem hk')
    have hg : gAll m (ws.take (k + 1)) = gStep m (gAll m (ws.take k)) ws[k] := by
      unfold gAll
      rw [List.take_succ_eq_append_getElem hk', List.foldl_append]
      rfl
    rw [hg]
    generalize gAll m (ws.take k) = q at *
    obtain ⟨many, load⟩ := q
    generalize hw : ws[k] = w at *
    dsimp only at i1 i2 i3 ih
    have neg : ∀ (t : Nat) (x : Int), x < 0 → ¬ Rr ws m t k x := fun t x hx => Rr_neg h t k hx
    by_cases ho : m < load + w
    · have e : gStep m (many, load) w = (many + 1, w) := if_pos ho
      rw [e]
      dsimp only
      refine ⟨by omega, fun t => ?_⟩
      induction t with
      | zero =>
        intro x hx hxm
        rw [Rr_zero hk', hw]
        by_cases q : x < w
        · have := neg 0 (x - w) (by omega)
          constructor
          · intro r; exact absurd r this
          · intro r; omega
        · rw [ih 0 (x - w) (by omega) (by omega)]
          omega
      | succ t iht =>
        intro x hx hxm
        rw [Rr_succ hk' hx, hw, iht m h0 (Int.le_refl _)]
        by_cases q : x < w
        · have := neg (t + 1) (x - w) (by omega)
          constructor
          · rintro (r | r)
            · omega
            · exact absurd r this
          · intro r; omega
        · rw [ih (t + 1) (x - w) (by omega) (by omega)]
          omega
    · have e : gStep m (many, load) w = (many, load + w) := if_neg ho
      rw [e]
      dsimp only
      refine ⟨by omega, fun t => ?_⟩
      induction t with
      | zero =>
        intro x hx hxm
        rw [Rr_zero hk', hw]
        by_cases q : x < w
        · have := neg 0 (x - w) (by omega)
          constructor
          · intro r; exact absurd r this
          · intro r; omega
        · rw [ih 0 (x - w) (by omega) (by omega)]
          omega
      | succ t iht =>
        intro x hx hxm
        rw [Rr_succ hk' hx, hw, iht m h0 (Int.le_refl _)]
        by_cases q : x < w
        · have := neg (t + 1) (x - w) (by omega)
          constructor
          · rintro (r | r)
            · omega
            · exact absurd r this
          · intro r; omega
        · rw [ih (t + 1) (x - w) (by omega) (by omega)]
          omega

theorem Rr_top {ws : List Int} (h : NonNeg ws) : ∀ t, Rr ws ws.sum t ws.length ws.sum
  | 0 => by simp [Rr]
  | t + 1 => ⟨ws.length, Nat.le_refl _, Rr_top h t, by simpa using sum_nn h⟩
theorem Rr_bound {ws : List Int} (h : NonNeg ws) {m : Int} : ∀ (t k : Nat), Rr ws m t k m → 0 ≤ m ∧ ∀ w ∈ ws.take k, w ≤ m
  | 0, k, r => by
    have := sum_nn (nn_take h k)
    simp only [Rr] at r
    exact ⟨by omega, fun w hw => by have := le_sum (nn_take h k) hw; omega⟩
  | t + 1, k, ⟨j, hj, r, s⟩ => by
    obtain ⟨b0, b⟩ := Rr_bound h t j r
    refine ⟨b0, fun w hw => ?_⟩
    rw [← List.take_append_drop j (ws.take k)] at hw
    rcases List.mem_append.mp hw with hw | hw
    · rw [List.take_take, Nat.min_eq_left hj] at hw
      exact b w hw
    · have := le_sum (nn_drop (nn_take h k) j) hw
      omega

/-- what the table of all beginnings holds after t turns -/
def DueOk (ws : List Int) (t : Nat) (ds : List Int) : Prop := ds.length = ws.length + 1 ∧ ∀ k, k ≤ ws.length → ∀ m, ds.getD k 0 ≤ m ↔ Rr ws m t k m

theorem greedy_dp {ws ds : List Int} {t lo S : Nat} {mx : Int} (h : NonNeg ws) (hd : DueOk ws t ds) (hS : (S : Int) = ws.sum) (hlo : (lo : Int) = mx) (hmx : 0 ≤ mx) (hall : ∀ w ∈ ws, w ≤ mx) (hin : mx = 0 ∨ mx ∈ ws) :
    ((bs (fun i => decide ((gAll (i : Int) ws).1 ≤ (t : Int) + 1)) lo S : Nat) : Int) = ds.getD ws.length 0 := by
  have hD := hd.2 ws.length (Nat.le_refl _)
  generalize ds.getD ws.length 0 = D at hD
  have r := (hD D).mp (Int.le_refl _)
  have hb := Rr_bound h t ws.length r
  rw [List.take_length] at hb
  have hDS : D ≤ ws.sum := (hD ws.sum).mpr (Rr_top h t)
  have hDm : mx ≤ D := by
    rcases hin with e | e
    · omega
    · exact hb.2 _ e
  have key : ∀ i : Nat, lo ≤ i → (decide ((gAll (i : Int) ws).1 ≤ (t : Int) + 1)) = decide (D ≤ i) := by
    intro i hi
    have g := greedy_inv h (m := (i : Int)) (fun w hw => by have := hall w hw; omega) (by omega) ws.length (Nat.le_refl _)
    rw [List.take_length] at g
    have e1 := hD i
    have e2 := g.2 t i (by omega) (Int.le_refl _)
    have e3 := g.1
    rw [decide_eq_decide]
    rw [e1, e2]
    omega
  have hle : lo ≤ S := by omega
  -- the search by the right test
  have srch : ∀ (p : Nat → Bool) (lo hi : Nat), lo ≤ hi → (lo : Int) ≤ D → D ≤ hi → (∀ i, lo ≤ i → p i = decide (D ≤ (i : Int))) → ((bs p lo hi : Nat) : Int) = D := by
    intro p lo hi
    induction lo, hi using bs.induct p with
    | case1 lo hi h1 h2 ih =>
      intro hl hD1 hD2 hp
      rw [bs_left h1 h2]
      have := hp ((lo + hi) / 2) (by omega)
      rw [h2] at this
      have := of_decide_eq_true this.symm
      exact ih (by omega) hD1 this hp
    | case2 lo hi h1 h2 ih =>
      intro hl hD1 hD2 hp
      rw [bs_right h1 (by simpa using h2)]
      have := hp ((lo + hi) / 2) (by omega)
      rw [show p ((lo + hi) / 2) = false by simpa using h2] at this
      have := of_decide_eq_false this.symm
      exact ih (by omega) (by omega) hD2 (fun i hi => hp i (by omega))
    | case3 lo hi h1 =>
      intro hl hD1 hD2 hp
      rw [bs_done h1]
      omega
  exact srch _ lo S hle (by omega) (by omega) key
end Mine
namespace Mine
open_top hd05 for PySem.Challenge.rw_cy0003_05
end Mine
namespace Mine
theorem fillK05a : (∀ p : Program, p = PySem.Challenge.rw_cy0003_05.prog → p = p) ∧ hd05.heap_39 = hd05.heap_39 := by
  k_fill
  exact ⟨fun _ _ => rfl, rfl⟩

theorem fits_call {w : World} {A : Around} {E : Value → Shared → Prop} {s : Shared} {Q : Value → Shared → Prop} {mg mb : Str → Option Value} {p : Program} {loose : List Str} {l : Addr} {ol : Obj} {nn : Nat} {vs : List Value} {ws : List Int} {ways most : Int} {tw tm : Tok}
    (X : (hd05.heap_39 w.params).In s.heap) (T : TopRead p loose mg mb s.heap) (hh : A.handled = none) (hroom : A.depth + 10 < recursionLimit)
    (hl : s.heap.get? l = some ol) (hoc : ol.cls = .type "list") (hod : ol.data = .seq vs.toArray nn) (hi₀ : IntsAre vs ws)
    (hQ : ∀ h' tk, Kept s.heap h' → Q (.bool (decide ((gAll most ws).1 ≤ ways))) { s with heap := h', toks := tk }) :
    wpAny (model PySem.Challenge.rw_cy0003_05.prog w) A (call (.ref 30) [.ref l, .int ways tw, .int most tm] []) Q E s := by
  refine' enter0 (K := hd05.heap_39 w.params) (binds := [(Str.ofString "weights", .ref l), (Str.ofString "ways", .int ways tw), (Str.ofString "most", .int most tm)]) X T.nolimit (by omega) ?ho ?hcd ?hb ?hl ?_ ?c1 ?c2 ?c3 ?c4
  case ho => exact rfl
  case hcd => exact rfl
  case hb => exact BindsTo.of_eq rfl
  case hl => exact locs rfl
  case c1 => exact rfl
  case c2 => exact rfl
  case c3 => exact rfl
  case c4 => decide
  intro h₁ tk F
  have N : News s.heap s.heap.objs.size h₁ [] := News.nil
  w_on
  iterate 9 (first | walk1 | (dsimp only; walk1))
  (rename Fr _ _ _ _ => F1); (rename News _ _ _ _ => N1)
  refine unpackN_ F1 N1 (News.isTup N1 (.head _)) hh rfl rfl ?_
  intro h2 F2 N2
  replace N2 : News s.heap s.heap.objs.size h2 [] := News.nil
  clear F1 N1
  iterate 9 (first | walk1 | (dsimp only; walk1))
  (rename Fr _ _ _ _ => F3); (rename News _ _ _ _ => N3)
  have hsz : vs.length = ws.length := hi₀.length
  refine For_invVF F3 rfl rfl ?_
  iterate 1 (first | walk1 | (dsimp only; walk1))
  refine iter_led (fun i m nx => nx = [] ∧ ∃ t1 t2, m (Str.ofString "many") = some (.int (gAll most (ws.take i)).1 t1) ∧ m (Str.ofString "load") = some (.int (gAll most (ws.take i)).2 t2) ∧ m (Str.ofString "ways") = some (.int ways tw) ∧ m (Str.ofString "most") = some (.int most tm)) (l := l) (vs := vs) (nn := nn) hh hoc hod (F3.keep _ _ hl) (Nat.ne_of_lt (Heap.lt_size hl)) F3 N3 ?_ ?_ ?_ ?_
  · exact ⟨rfl, _, _, rfl, rfl, rfl, rfl⟩
  · exact fun _ _ _ _ => .inr hl
  · rintro i v m₁ nx h tk₁ I oI hv ⟨rfl, t1, t2, hmany, hload, hways, hmost⟩ hoff hIlt F₁ N₁
    have hil : i < ws.length := by rw [← hsz]; exact (List.getElem?_eq_some_iff.mp hv).1
    obtain ⟨t, rfl⟩ : ∃ t, v = .int ws[i] t := by
      obtain ⟨t, ht⟩ := hi₀.get i ws[i] (by simp [hil])
      rw [ht] at hv
      exact ⟨t, (Option.some.inj hv).symm⟩
    have hg : gAll most (ws.take (i + 1)) = gStep most (gAll most (ws.take i)) ws[i] := by
      unfold gAll
      rw [List.take_succ_eq_append_getElem hil, List.foldl_append]
      rfl
    generalize gAll most (ws.take i) = q at *
    obtain ⟨many, load⟩ := q
    dsimp only at hmany hload
    replace F₁ := fr_put (Str.ofString "most") (fr_put (Str.ofString "ways") (fr_put (Str.ofString "load") (fr_put (Str.ofString "many") F₁ hmany) hload) hways) hmost
    iterate 10 (first | walk1 | (dsimp only; walk1))
    by_cases ho : most < load + ws[i]
    · rw [if_pos (by simpa using ho)]
      have e : gStep most (many, load) ws[i] = (many + 1, ws[i]) := if_pos ho
      rw [e] at hg
      iterate 12 (first | walk1 | (dsimp only; walk1))
      (rename Fr _ _ _ _ => F4); (rename News _ _ _ _ => N4)
      refine unpackItemsN_ F4 N4 (News.isTup N4 (.head _)) hh rfl ?_
      intro h5 F5 N5
      replace N5 : News s.heap s.heap.objs.size h5 [(I, oI)] := fun p hp => N5 p (.tail _ hp)
      clear F4 N4
      dsimp only [List.reverse_cons, List.reverse_nil, List.nil_append, List.cons_append, List.map]
      iterate 17 (first | walk1 | (dsimp only; walk1))
      (rename Fr _ _ _ _ => F6); (rename News _ _ _ _ => N6)
      exact ⟨_, _, _, [], rfl, F6, N6, by simp, rfl, _, _, by rw [hg]; rfl, by rw [hg]; exact congrArg (fun z => some (Value.int z _)) (Int.zero_add _), rfl, rfl⟩
    · rw [if_neg (by simpa using ho)]
      have e : gStep most (many, load) ws[i] = (many, load + ws[i]) := if_neg ho
      rw [e] at hg
      iterate 9 (first | walk1 | (dsimp only; walk1))
      (rename Fr _ _ _ _ => F6); (rename News _ _ _ _ => N6)
      exact ⟨_, _, _, [], rfl, F6, N6, by simp, rfl, _, _, by rw [hg]; rfl, by rw [hg]; rfl, rfl, rfl⟩
  · rintro m₁ nx h tk₁ ⟨rfl, t1, t2, hmany, hload, hways, hmost⟩ F₁ N₁
    rw [hsz, List.take_length] at hmany
    replace F₁ := fr_put (Str.ofString "ways") (fr_put (Str.ofString "many") F₁ hmany) hways
    iterate 6 (first | walk1 | (dsimp only; walk1))
    exact hQ _ _ F₁.keep
end Mine
namespace Mine
theorem fillK05b : (∀ p : Program, p = PySem.Challenge.rw_cy0003_05.prog → p = p) ∧ hd05.heap_39 = hd05.heap_39 := by
  k_fill
  exact ⟨fun _ _ => rfl, rfl⟩

theorem bisB_call {w : World} {A : Around} {E : Value → Shared → Prop} {s : Shared} {Q : Value → Shared → Prop} {mg mb : Str → Option Value} {p : Program} {loose : List Str} {r f : Addr} {N lo₀ hi₀ : Nat} {t₀ u₀ v₀ tl th : Tok} {g : Nat → Bool}
    (X : (hd05.heap_39 w.params).In s.heap) (T : TopRead p loose mg mb s.heap) (hroom : A.depth + 30 < recursionLimit)
    (hr : IsRange s.heap r 0 (N : Int) 1 t₀ u₀ v₀) (hN : N < 2 ^ 60) (hfn : FnAt f s.heap) (hle₀ : lo₀ ≤ hi₀) (hhi₀ : hi₀ ≤ N)
    (hkey : ∀ (i : Nat) (t : Tok) (A' : Around) (s' : Shared) (Q' : Value → Shared → Prop), i < N → A'.handled = A.handled → A'.depth ≤ A.depth + 5 → Kept s.heap s'.heap →
      (∀ h' tk, Kept s'.heap h' → Q' (.bool (g i)) { s' with heap := h', toks := tk }) → wpAny (model PySem.Challenge.rw_cy0003_05.prog w) A' (call (.ref f) [.int i t] []) Q' (fun _ _ => False) s')
    (hQ : ∀ h' tk t', Kept s.heap h' → Q (.int (bs g lo₀ hi₀ : Nat) t') { s with heap := h', toks := tk }) :
    wpAny (model PySem.Challenge.rw_cy0003_05.prog w) A (call (.ref 23) [.ref r, .bool true, .int lo₀ tl, .int hi₀ th] [(Str.ofString "key", .ref f)]) Q E s := by
  refine' enter0 (K := hd05.heap_39 w.params) (binds := [(Str.ofString "a", .ref r), (Str.ofString "x", .bool true), (Str.ofString "lo", .int lo₀ tl), (Str.ofString "hi", .int hi₀ th), (Str.ofString "key", .ref f)]) X T.nolimit (by omega) ?ho ?hcd ?hb ?hl ?_ ?c1 ?c2 ?c3 ?c4
  case ho => exact rfl
  case hcd => exact rfl
  case hb =>
    refine' binds_kw1 (T := 15) (X _ _ rfl) rfl ?h1 ?h2
    case h1 => exact rfl
    case h2 => exact rfl
  case hl => exact locs rfl
  case c1 => exact rfl
  case c2 => exact rfl
  case c3 => exact rfl
  case c4 => decide
  intro h₁ tk F
  have N' : News s.heap s.heap.objs.size h₁ [] := News.nil
  w_on
  iterate 7 (first | walk1 | (dsimp only; walk1))
  rw [if_neg (by simp)]
  iterate 20 (first | walk1 | (dsimp only; walk1))
  (rename Fr _ _ _ _ => F2); (rename News _ _ _ _ => N2)
  refine While_inv (J := fun n m' news => news = [] ∧ ∃ (lo hi : Nat) (t1 t2 : Tok), lo ≤ hi ∧ hi ≤ N ∧ n = hi - lo ∧ m' (Str.ofString "a") = some (.ref r) ∧ m' (Str.ofString "x") = some (.bool true) ∧ m' (Str.ofString "key") = some (.ref f) ∧ m' (Str.ofString "lo") = some (.int lo t1) ∧ m' (Str.ofString "hi") = some (.int hi t2) ∧ bs g lo hi = bs g lo₀ hi₀) (n₀ := hi₀ - lo₀) F2 N2 ?_ ?_
  · exact ⟨rfl, lo₀, hi₀, _, _, hle₀, hhi₀, rfl, rfl, rfl, rfl, rfl, rfl, rfl⟩
  · rintro n m₁ news₁ h₁ tk₁ F₁ N₁ ⟨rfl, lo, hi, t1, t2, hle, hhi, rfl, ha, hx, hk, hlo, hhi', hbs⟩
    replace F₁ := fr_put (Str.ofString "hi") (fr_put (Str.ofString "lo") (fr_put (Str.ofString "key") (fr_put (Str.ofString "x") (fr_put (Str.ofString "a") F₁ ha) hx) hk) hlo) hhi'
    iterate 5 (first | walk1 | (dsimp only; walk1))
    by_cases hlt : lo < hi
    · rw [if_pos (by simpa using hlt)]
      iterate 15 (first | walk1 | (dsimp only; walk1))
      (rename Fr _ _ _ _ => F3)
      have fnK : ∀ h' : Heap, Kept s.heap h' → FnAt f h' := fun h' k => by
        obtain ⟨a1, a2, a3, a4, e⟩ := hfn
        exact ⟨a1, a2, a3, a4, k _ _ e⟩
      refine callWith_F (fnK _ F3.keep) ?_
      iterate 4 (first | walk1 | (dsimp only; walk1))
      rw [fdiv2 lo hi]
      refine range_item (F3.keep _ _ hr) (by omega) (by rw [rangeSize_nat]; omega) (fun t4 tk4 => ?_) (by with_unfolding_all rfl)
      rw [Int.zero_add]
      iterate 1 (first | walk1 | (dsimp only; walk1))
      refine ⟨fnK _ F3.keep, ?_⟩
      refine hkey ((lo + hi) / 2) t4 _ _ _ (by omega) rfl (by rw [depth_deeper]; omega) F3.keep ?_
      intro h5 tk5 hk5
      have F5 := frKept F3 hk5
      (rename News _ _ _ _ => N3)
      have N5 := newsKept N3 hk5
      clear N3 F3
      iterate 3 (first | walk1 | (dsimp only; walk1))
      cases hc : g ((lo + hi) / 2) with
      | false =>
        rw [if_pos (by decide)]
        iterate 9 (first | walk1 | (dsimp only; walk1))
        (rename Fr _ _ _ _ => F4); (rename News _ _ _ _ => N4)
        refine WhileStep.intro F4 N4 ?_ ⟨rfl, (lo + hi) / 2 + 1, hi, _, _, by omega, by omega, rfl, rfl, rfl, rfl, (congrArg (fun z => some (Value.int (z + 1) _)) (fdiv2 lo hi)), rfl, (bs_right hlt hc).symm.trans hbs⟩
        omega
      | true =>
        rw [if_neg (by decide)]
        iterate 6 (first | walk1 | (dsimp only; walk1))
        (rename Fr _ _ _ _ => F4); (rename News _ _ _ _ => N4)
        refine WhileStep.intro F4 N4 ?_ ⟨rfl, lo, (lo + hi) / 2, _, _, by omega, by omega, rfl, rfl, rfl, rfl, rfl, (congrArg (fun z => some (Value.int z _)) (fdiv2 lo hi)), (bs_left hlt hc).symm.trans hbs⟩
        omega
    · rw [if_neg (by simpa using hlt)]
      iterate 4 (first | walk1 | (dsimp only; walk1))
      dsimp only
      (rename Fr _ _ _ _ => F4)
      rw [← hbs, bs_done hlt] at hQ
      exact hQ _ _ _ F4.keep
end Mine
namespace Mine
theorem fillK05e : (∀ p : Program, p = PySem.Challenge.rw_cy0003_05.prog → p = p) ∧ hd05.heap_39 = hd05.heap_39 := by
  k_fill
  exact ⟨fun _ _ => rfl, rfl⟩

def fdBody : Stmt → List Stmt
  | .FunctionDef _ _ b _ _ _ _ _ _ _ => b
  | _ => []
def fdScope : Stmt → Option Scope
  | .FunctionDef _ _ _ _ _ _ sc _ _ _ => some sc
  | _ => none
def lawBody : List Stmt := (PySem.Challenge.pw_cy0003_05.main.body.getLast?.map fdBody).getD []
def lawScope : Scope := ((PySem.Challenge.pw_cy0003_05.main.body.getLast?.bind fdScope)).getD default

theorem ad1 {L D : Nat} (h : L + 1 + 1 + 1 < D) : D ≠ L + 1 ∧ D ≠ L + 1 + 1 ∧ D ≠ L + 1 + 1 + 1 := by omega
theorem ad2 (L : Nat) : L + 1 + 1 + 1 ≠ L + 1 + 1 ∧ L + 1 + 1 + 1 ≠ L + 1 ∧ L + 1 + 1 ≠ L + 1 := by omega
theorem ad3 {L : Nat} (h : 32 < L) : 32 ≠ L + 1 ∧ 32 ≠ L + 1 + 1 ∧ 32 ≠ L + 1 + 1 + 1 := by omega
theorem ad4 {L D : Nat} (h : 32 < L) (h' : L + 1 + 1 + 1 < D) : D ≠ 32 := by omega
theorem ad5 {L : Nat} (h : 32 < L) : L + 1 ≠ 32 ∧ L + 1 + 1 ≠ 32 ∧ L + 1 + 1 + 1 ≠ 32 := by omega

theorem seg_eq {ws : List Int} {i : Nat} (hi : i ≤ ws.length) (j : Nat) : (ws.drop j).take (min i ws.length - j) = (ws.take i).drop j := by
  rw [List.drop_take, Nat.min_eq_left hi]
def mx2 (a b : Int) : Int := if b > a then b else a
theorem mx2_le (a b m : Int) : mx2 a b ≤ m ↔ a ≤ m ∧ b ≤ m := by
  unfold mx2; split <;> omega
theorem due_next {ws ds ds' : List Int} {t i : Nat} {M : Int} (hi : i ≤ ws.length) (hdue : DueOk ws t ds) (hdl : ds'.length = i) (hds' : ∀ k, k < i → ∀ m, ds'.getD k 0 ≤ m ↔ Rr ws m (t + 1) k m)
    (hM : M ∈ (List.range (i + 1)).map fun j => mx2 (ds.getD j 0) ((ws.take i).drop j).sum) (hle : ∀ a ∈ (List.range (i + 1)).map fun j => mx2 (ds.getD j 0) ((ws.take i).drop j).sum, M ≤ a) :
    ∀ k, k < i + 1 → ∀ m, (ds' ++ [M]).getD k 0 ≤ m ↔ Rr ws m (t + 1) k m := by
  intro k hk m
  by_cases q : k < i
  · rw [show (ds' ++ [M]).getD k 0 = ds'.getD k 0 by rw [List.getD, List.getD, List.getElem?_append_left (by omega)]]
    exact hds' k q m
  · obtain rfl : k = i := by omega
    rw [show (ds' ++ [M]).getD k 0 = M by rw [List.getD, List.getElem?_append_right (by omega), hdl]; simp]
    constructor
    · intro h
      obtain ⟨j, hj, e⟩ := List.mem_map.mp hM
      have hj' := List.mem_range.mp hj
      have := (mx2_le _ _ _).mp (by rw [e]; exact h)
      exact ⟨j, by omega, (hdue.2 j (by omega) m).mp this.1, this.2⟩
    · rintro ⟨j, hj, r, sm⟩
      have := (mx2_le (ds.getD j 0) ((ws.take k).drop j).sum m).mpr ⟨(hdue.2 j (by omega) m).mpr r, sm⟩
      have := hle _ (List.mem_map_of_mem (f := fun j => mx2 (ds.getD j 0) ((ws.take k).drop j).sum) (List.mem_range.mpr (show j < k + 1 by omega)))
      omega
def lawRest : List Stmt := lawBody.drop 4

theorem law_rest {w : World} {s : Shared} {Q : Flow → Shared → Prop} {mg mb : Str → Option Value} {p : Program} {loose : List Str} {base : Heap} {L fa D4 : Addr} {ys : List Value} {ws : List Int} {m₀ : Str → Option Value} {o1 o2 o3 : Obj} {v1 : Option Value} {W : Nat} {TD : Int} {tW tt : Tok} {ps : Array Value}
    (X : (hd05.heap_39 w.params).In base) (T : TopRead p loose mg mb base) (hys : IntsAre ys ws) (hwl : ws.length ≤ 63) (hnn : NonNeg ws) (hW6 : W < 6)
    (F : Fr base L s.heap m₀) (hm0 : m₀ (Str.ofString "told") = some (.int TD tt)) (N : News base L s.heap [(D4, LCg.lst ys), (L + 1 + 1 + 1, o3), (L + 1 + 1, o2), (L + 1, o1), (32, tabObj ps)])
    (ho3 : o3.data = .cell (some (.ref D4))) (ho2 : o2.data = .cell (some (.int ((W : Nat) + 1 : Int) tW))) (ho1 : o1.data = .cell v1) (h32 : 32 < L)
    (g4 : L + 1 + 1 + 1 ≠ D4 ∧ L + 1 + 1 ≠ D4 ∧ L + 1 ≠ D4 ∧ 32 ≠ D4) (hTD : ∀ ds, DueOk ws W ds → TD = ds.getD ws.length 0)
    (hQ : ∀ h' tk m' ps, Fr base L h' m' → News base L h' [(32, tabObj ps)] → Q (.ret (.bool true)) { s with heap := h', toks := tk }) :
    wpAny (model PySem.Challenge.rw_cy0003_05.prog w) (callerA.deeper (envOfC (Str.ofString "law") lawScope L fa (.ref 34))) (execs lawRest (envOfC (Str.ofString "law") lawScope L fa (.ref 34))) Q (fun _ _ => False) s := by
  replace F := fr_put (Str.ofString "told") F hm0
  dsimp only [lawRest, List.drop, lawBody, lawScope, PySem.Challenge.pw_cy0003_05, List.getLast?, List.getLast, Option.map, Option.bind, Option.getD, fdBody, fdScope]
  w_on
  have hyl := hys.length
  iterate 2 (first | walk1 | (dsimp only; walk1))
  refine LCg.ListComp_U (F₀ := F) (by with_unfolding_all rfl) (by decide) rfl (by decide) rfl ?_
  iterate 9 (first | walk1 | (dsimp only; walk1))
  refine ldCN N rfl (.tail _ (.head _)) ho3 ?_
  iterate 1 (first | walk1 | (dsimp only; walk1))
  refine len_ints_fit (News.isList N (.head _)) hys (by omega) ?_
  iterate 4 (first | walk1 | (dsimp only; walk1))
  (rename Fr _ _ _ _ => F1); (rename News _ _ _ _ => N1); (rename IsRange _ _ _ _ _ _ _ _ => R1)
  refine LCg.CompSrc.range (n := ws.length + 1) rfl F1 N1 R1 (small_one (by omega) (by omega) (by omega) (by omega)) (by rw [rangeSize_nat]; omega) (by simp [sizeLine_eq]; omega) ?_
  intro g1
  refine compU_ind (fun i ys' news => news = [(D4, LCg.lst ys), (L + 1 + 1 + 1, o3), (L + 1 + 1, o2), (L + 1, o1), (32, tabObj ps)] ∧ IntsAre ys' ((List.range i).map fun k => (ws.take k).sum)) ?_ ?_ _ 0 [] _ (Nat.zero_add _) ⟨rfl, .nil⟩
  · rintro i ys' news v I' oI' Cc oC D m₃ h8 tk8 E' hin ⟨rfl, hys'⟩ ⟨t9, rfl⟩ hN hxr F8 N8 off8 ne8
    rw [Int.zero_add] at hxr
    iterate 1 (first | walk1 | (dsimp only; walk1))
    refine compName_B rfl rfl F8 X T (by k_is) (by boot_by_name) (by decide) ?_ rfl rfl (by decide)
    iterate 3 (first | walk1 | (dsimp only; walk1))
    refine lcf_cell N8 (c := L + 1 + 1 + 1) rfl (.tail _ (.tail _ (.tail _ (.tail _ (.head _))))) ho3 ?_ rfl rfl
    iterate 3 (first | walk1 | (dsimp only; walk1))
    refine compName_L (N8 _ (.tail _ (.head _))).1 hN hxr ?_ rfl rfl (by decide)
    iterate 1 (first | walk1 | (dsimp only; walk1))
    refine kmk_slice_ints F8 N8 (News.isList N8 (.tail _ (.tail _ (.tail _ (.head _))))) .none (.int _ _) hys (kmk_upto hys (by omega)) rfl ?_ (by with_unfolding_all rfl) (by intro _; with_unfolding_all rfl) (by rw [List.size_toArray, hys.length, sizeLine_eq]; omega)
    intro D9 vs9 h9 F9 N9 l9 hi9 hl9 hle9
    iterate 1 (first | walk1 | (dsimp only; walk1))
    refine LSm.sum_ints F9 N9 rfl (News.isList N9 (.head _)) hi9 ?_
    intro h10 tk10 t10 F10 N10
    refine ⟨h10, _, _, rfl, F10, (fun p hp => N10 p (.tail _ hp)), off8, trivial, rfl, ?_⟩
    rw [List.range_succ, List.map_append]
    exact hys'.append (.cons _ _ .nil)
  · rintro ys' news ⟨rfl, hys'⟩ D5 h5 tk5 F5 N5 off5
    have off5' := off1_mem off5
    have g5 : L + 1 ≠ D5 := off5' (L + 1, o1) (by simp)
    have hdue0 : DueOk ws 0 ((List.range (ws.length + 1)).map fun k => (ws.take k).sum) := by
      refine ⟨by simp, fun k hk m => ?_⟩
      have e : ((List.range (ws.length + 1)).map fun k => (ws.take k).sum).getD k 0 = (ws.take k).sum := by
        rw [List.getD, List.getElem?_map, List.getElem?_range (by omega)]; rfl
      rw [e]; exact Iff.rfl
    refine stCN (own := [(D5, LCg.lst ys'), (D4, LCg.lst ys), (L + 1 + 1 + 1, o3), (L + 1 + 1, o2)]) F5 N5 rfl ho1 ?_ ?_ ?_
    · intro p hp
      rcases List.mem_cons.mp hp with rfl | hp
      · exact g5.symm
      rcases List.mem_cons.mp hp with rfl | hp
      · exact g4.2.2.1.symm
      rcases List.mem_cons.mp hp with rfl | hp
      · exact (ad2 L).2.1
      rw [List.mem_singleton.mp hp]; exact (ad2 L).2.2
    · intro p hp
      rw [List.mem_singleton.mp hp]; exact (ad3 h32).1
    intro h6 o1' F6 N6 ho1'
    dsimp only [List.cons_append, List.nil_append] at N6
    clear F5 N5 F1 N1 ho1
    iterate 2 (first | walk1 | (dsimp only; walk1))
    refine For_invVF F6 rfl rfl ?_
    iterate 5 (first | walk1 | (dsimp only; walk1))
    refine ldCN N6 rfl (.tail _ (.tail _ (.tail _ (.head _)))) ho2 ?_
    iterate 4 (first | walk1 | (dsimp only; walk1))
    (rename Fr _ _ _ _ => F7); (rename News _ _ _ _ => N7); (rename IsRange _ _ _ _ _ _ _ _ => R7)
    refine iter_range_led (fun t m nx => ∃ o1' Dd vsd ds, nx = [(Dd, LCg.lst vsd), (D4, LCg.lst ys), (L + 1 + 1 + 1, o3), (L + 1 + 1, o2), (L + 1, o1'), (32, tabObj ps)] ∧ o1'.data = .cell (some (.ref Dd)) ∧ IntsAre vsd ds ∧ DueOk ws t ds ∧ m (Str.ofString "told") = some (.int TD tt)) (n := W) rfl R7 (small_one (by omega) (by omega) (by omega) (by omega)) (by rw [rangeSize_nat]; omega) F7 N7 ?_ ?_ ?_
    · exact ⟨o1', D5, ys', _, rfl, ho1', hys', hdue0, rfl⟩
    · rintro t tt' m₁ nx h tk₁ I oI ht ⟨o1q, Dd, vsd, ds, rfl, ho1q, hvd, hdue, hmt⟩ hoff hIlt F₁ N₁
      replace F₁ := fr_put (Str.ofString "told") F₁ hmt
      iterate 2 (first | walk1 | (dsimp only; walk1))
      have N₂ : News base L h [(Dd, LCg.lst vsd), (D4, LCg.lst ys), (L + 1 + 1 + 1, o3), (L + 1 + 1, o2), (L + 1, o1q), (32, tabObj ps), (I, oI)] := N₁
      have F₂ : Fr base L h _ := F₁
      clear F₁ N₁
      refine listComp_C (h₀ := base) (L := L) (fun i ys' news => news = [(Dd, LCg.lst vsd), (D4, LCg.lst ys), (L + 1 + 1 + 1, o3), (L + 1 + 1, o2), (L + 1, o1q), (32, tabObj ps), (I, oI)] ∧ ∃ ds', IntsAre ys' ds' ∧ ds'.length = i ∧ ∀ k, k < i → ∀ m, ds'.getD k 0 ≤ m ↔ Rr ws m (t + 1) k m) F₂ (by with_unfolding_all rfl) rfl (by decide) (fun _ _ => rfl) (fun _ => rfl) (fun _ _ => rfl) rfl ?_
      iterate 9 (first | walk1 | (dsimp only; walk1))
      refine ldCN N₂ rfl (.tail _ (.tail _ (.head _))) ho3 ?_
      iterate 1 (first | walk1 | (dsimp only; walk1))
      refine len_ints_fit (News.isList N₂ (.tail _ (.head _))) hys (by omega) ?_
      iterate 4 (first | walk1 | (dsimp only; walk1))
      (rename Fr _ _ _ _ => F8); (rename News _ _ _ _ => N8); (rename IsRange _ _ _ _ _ _ _ _ => R8)
      refine ⟨_, _, _, _, _, _, ws.length + 1, _, rfl, rfl, F8, N8, R8, small_one (by omega) (by omega) (by omega) (by omega), by rw [rangeSize_nat]; omega, by simp [sizeLine_eq]; omega, ⟨rfl, [], .nil, rfl, by simp⟩, ?_, ?_⟩
      · rintro i ys2 news2 t2 I2 oI2 C2 oC2 K2 oK2 D2 h9 tk9 E9 hi9 ⟨rfl, ds', hys2, hdl, hds'⟩ hoK2 F9 N9 off9
        rw [Int.zero_add] at hoK2
        iterate 1 (first | walk1 | (dsimp only; walk1))
        refine compName_B rfl rfl F9 X T (by k_is) (by boot_by_name) (by decide) ?_ rfl rfl (by decide)
        iterate 2 (first | walk1 | (dsimp only; walk1))
        refine LCg.ListComp_U (F₀ := F9) (by with_unfolding_all rfl) (by decide) rfl (by decide) rfl ?_
        iterate 1 (first | walk1 | (dsimp only; walk1))
        refine compName_B rfl rfl F9 X T (by k_is) (by boot_by_name) (by decide) ?_ rfl rfl (by decide)
        iterate 3 (first | walk1 | (dsimp only; walk1))
        refine lcf_cell N9 (c := K2) rfl (.tail _ (.tail _ (.head _))) hoK2 ?_ rfl rfl
        iterate 4 (first | walk1 | (dsimp only; walk1))
        (rename Fr _ _ _ _ => F10); (rename News _ _ _ _ => N10); (rename IsRange _ _ _ _ _ _ _ _ => R10)
        refine LCg.CompSrc.range (n := i + 1) rfl F10 N10 R10 (small_one (by omega) (by omega) (by omega) (by omega)) (by rw [rangeSize_nat]; omega) (by simp [sizeLine_eq]; omega) ?_
        intro g10
        refine compU_ind (fun j ys3 news => news = (I2, oI2) :: (C2, oC2) :: (K2, oK2) :: (D2, LCg.lst ys2) :: [(Dd, LCg.lst vsd), (D4, LCg.lst ys), (L + 1 + 1 + 1, o3), (L + 1 + 1, o2), (L + 1, o1q), (32, tabObj ps), (I, oI)] ∧ IntsAre ys3 ((List.range j).map fun j => mx2 (ds.getD j 0) ((ws.take i).drop j).sum)) ?_ ?_ _ 0 [] _ (Nat.zero_add _) ⟨rfl, .nil⟩
        · rintro j ys3 news3 v3 I3 oI3 C3 oC3 D3 m₃ h11 tk11 E11 hj ⟨rfl, hys3⟩ ⟨t11, rfl⟩ hN hxr F11 N11 off11 ne11
          rw [Int.zero_add] at hxr
          have hdl2 := hdue.1
          iterate 1 (first | walk1 | (dsimp only; walk1))
          refine compName_B rfl rfl F11 X T (by k_is) (by boot_by_name) (by decide) ?_ rfl rfl (by decide)
          iterate 3 (first | walk1 | (dsimp only; walk1))
          refine lcf_cell N11 (c := L + 1) rfl (by simp) ho1q ?_ rfl rfl
          refine compName_L (N11 _ (.tail _ (.head _))).1 hN hxr ?_ rfl rfl (by decide)
          refine item_anyK (News.isList N11 (List.Mem.tail _ (List.Mem.tail _ (List.Mem.tail _ (List.Mem.tail _ (List.Mem.tail _ (List.Mem.tail _ (List.Mem.tail _ (List.Mem.head _))))))))) hvd (by omega) (by omega) (by omega) (fun t12 => ?_) (by with_unfolding_all rfl)
          rw [Int.toNat_natCast]
          iterate 2 (first | walk1 | (dsimp only; walk1))
          refine compName_B rfl rfl F11 X T (by k_is) (by boot_by_name) (by decide) ?_ rfl rfl (by decide)
          iterate 3 (first | walk1 | (dsimp only; walk1))
          refine lcf_cell N11 (c := L + 1 + 1 + 1) rfl (by simp) ho3 ?_ rfl rfl
          iterate 2 (first | walk1 | (dsimp only; walk1))
          refine compName_L (N11 _ (.tail _ (.head _))).1 hN hxr ?_ rfl rfl (by decide)
          iterate 1 (first | walk1 | (dsimp only; walk1))
          refine lcf_cell N11 (c := K2) rfl (by simp) hoK2 ?_ rfl rfl
          iterate 1 (first | walk1 | (dsimp only; walk1))
          refine kmk_slice_ints F11 N11 (News.isList N11 (List.Mem.tail _ (List.Mem.tail _ (List.Mem.tail _ (List.Mem.tail _ (List.Mem.tail _ (List.Mem.tail _ (List.Mem.tail _ (List.Mem.tail _ (List.Mem.head _)))))))))) (.int _ _) (.int _ _) hys (kmk_run hys (by omega) (by omega)) rfl ?_ (by with_unfolding_all rfl) (by intro _; with_unfolding_all rfl) (by rw [List.size_toArray, hys.length, sizeLine_eq]; omega)
          intro D13 vs13 h13 F13 N13 l13 hi13 hl13 hle13
          rw [Int.toNat_natCast, Int.toNat_natCast, seg_eq (by omega)] at hi13
          iterate 1 (first | walk1 | (dsimp only; walk1))
          refine LSm.sum_ints F13 N13 rfl (News.isList N13 (.head _)) hi13 ?_
          intro h14 tk14 t14 F14 N14
          iterate 1 (first | walk1 | (dsimp only; walk1))
          refine max_two_N rfl F14 N14 ?_
          intro h15 tk15 F15 N15
          refine ⟨h15, _, _, rfl, F15, (fun p hp => N15 p (.tail _ hp)), off11, trivial, rfl, ?_⟩
          rw [List.range_succ, List.map_append]
          exact hys3.append (.cons _ _ .nil)
        · rintro ys3 news3 ⟨rfl, hys3⟩ D3 h11 tk11 F11 N11 off11
          iterate 1 (first | walk1 | (dsimp only; walk1))
          refine kso_min F11 N11 (News.isList N11 (.head _)) hys3 (by simp) rfl ?_
          intro h12 M t12 tk12 F12 N12 hM hMle
          refine ⟨h12, _, _, rfl, F12, (fun p hp => N12 p (.tail _ hp)), off9, rfl, ds' ++ [M], hys2.append (.cons _ _ .nil), by simp [hdl], due_next (by omega) hdue hdl hds' hM hMle⟩
      · rintro ys2 news2 D2 h9 tk9 ⟨rfl, ds', hys2, hdl, hds'⟩ F9 N9 off9
        have hDd : Dd ≠ L + 1 := fun e => by
          have a1 := (N9 (Dd, LCg.lst vsd) (by simp)).1
          have a2 := (N9 (L + 1, o1q) (by simp)).1
          dsimp only at a1 a2
          rw [e, a2] at a1
          have := congrArg (fun o => o.data) (Option.some.inj a1)
          rw [ho1q] at this; cases this
        have hD2 : D2 ≠ L + 1 := (off9 (L + 1, o1q) (by simp)).symm
        have hIq : I ≠ L + 1 := (hoff (L + 1, o1q) (by simp)).symm
        refine stCN (own := [(D2, LCg.lst ys2), (Dd, LCg.lst vsd), (D4, LCg.lst ys), (L + 1 + 1 + 1, o3), (L + 1 + 1, o2)]) F9 N9 rfl ho1q ?_ ?_ ?_
        · intro p hp
          rcases List.mem_cons.mp hp with rfl | hp
          · exact hD2
          rcases List.mem_cons.mp hp with rfl | hp
          · exact hDd
          rcases List.mem_cons.mp hp with rfl | hp
          · exact g4.2.2.1.symm
          rcases List.mem_cons.mp hp with rfl | hp
          · exact (ad2 L).2.1
          rw [List.mem_singleton.mp hp]; exact (ad2 L).2.2
        · intro p hp
          rcases List.mem_cons.mp hp with rfl | hp
          · exact (ad3 h32).1
          rw [List.mem_singleton.mp hp]; exact hIq
        intro h10 o1n F10 N10 ho1n
        dsimp only [List.cons_append, List.nil_append] at N10
        iterate 2 (first | walk1 | (dsimp only; walk1))
        refine ⟨h10, _, _, [(D2, LCg.lst ys2), (D4, LCg.lst ys), (L + 1 + 1 + 1, o3), (L + 1 + 1, o2), (L + 1, o1n), (32, tabObj ps)], rfl, F10, ?_, ?_, o1n, D2, ys2, ds', rfl, ho1n, hys2, ⟨hdl, fun k hk m => hds' k (by omega) m⟩, rfl⟩
        · intro p hp
          exact N10 p (by rcases List.mem_cons.mp hp with rfl | hp; exact .head _; exact .tail _ (.tail _ hp))
        · intro p hp
          rcases List.mem_cons.mp hp with rfl | hp
          · exact (off9 (I, oI) (by simp)).symm
          rcases List.mem_cons.mp hp with rfl | hp
          · exact hoff (D4, LCg.lst ys) (by simp)
          rcases List.mem_cons.mp hp with rfl | hp
          · exact hoff (L + 1 + 1 + 1, o3) (by simp)
          rcases List.mem_cons.mp hp with rfl | hp
          · exact hoff (L + 1 + 1, o2) (by simp)
          rcases List.mem_cons.mp hp with rfl | hp
          · exact hIq.symm
          rw [List.mem_singleton.mp hp]; exact hoff (32, tabObj ps) (by simp)
    · rintro m₁ nx h tk₁ ⟨o1q, Dd, vsd, ds, rfl, ho1q, hvd, hdue, hmt⟩ F₁ N₁
      replace F₁ := fr_put (Str.ofString "told") F₁ hmt
      iterate 5 (first | walk1 | (dsimp only; walk1))
      have hdl := hdue.1
      refine ldCN N₁ rfl (.tail _ (.tail _ (.tail _ (.tail _ (.head _))))) ho1q ?_
      iterate 3 (first | walk1 | (dsimp only; walk1))
      refine item_list_ints_negR (News.isList N₁ (.head _)) hvd (by omega) (by omega) (by omega) (fun t11 => ?_) (by with_unfolding_all rfl)
      iterate 1 (first | walk1 | (dsimp only; walk1))
      rw [show ((-1 : Int) + (ds.length : Int)).toNat = ws.length by omega, hTD ds hdue, beq_self_eq_true]
      exact hQ _ _ _ _ F₁ (fun p hp => (List.mem_singleton.mp hp) ▸ N₁ _ (.tail _ (.tail _ (.tail _ (.tail _ (.tail _ (.head _)))))))
end Mine
namespace Mine
theorem fillK05d : (∀ p : Program, p = PySem.Challenge.rw_cy0003_05.prog → p = p) ∧ hd05.heap_39 = hd05.heap_39 := by
  k_fill
  exact ⟨fun _ _ => rfl, rfl⟩

theorem sum_le {ws : List Int} (h : ∀ x ∈ ws, 0 ≤ x ∧ x < 1000) : ws.sum ≤ 1000 * (ws.length : Int) := by
  induction ws with
  | nil => simp
  | cons w r ih =>
    have := ih fun x hx => h x (.tail _ hx)
    have := h w (.head _)
    simp only [List.sum_cons, List.length_cons]; omega

theorem law_body {w : World} {s : Shared} {Q : Flow → Shared → Prop} {mg mb : Str → Option Value} {p : Program} {loose : List Str} {mean : ExcName → Option Value} {base : Heap} {L fa l : Addr} {vs : List Value} {ns : List Int} {m₀ : Str → Option Value} {o1 o2 o3 : Obj} {v1 v2 v3 : Option Value}
    (X : (hd05.heap_39 w.params).In base) (T : Top p loose mean mg mb base) (C : CodeHd base 34 32) (hl : base.IsList l vs.toArray) (hi : IntsAre vs ns) (hlen : ns.length ≤ 63)
    (F : Fr base L s.heap m₀) (hm0 : m₀ (Str.ofString "script") = some (.ref l)) (N : News base L s.heap [(L + 1 + 1 + 1, o3), (L + 1 + 1, o2), (L + 1, o1), (32, tabObj #[])])
    (ho3 : o3.data = .cell v3) (ho2 : o2.data = .cell v2) (ho1 : o1.data = .cell v1) (h32 : 32 < L)
    (hQ : ∀ h' tk m' ps, Fr base L h' m' → News base L h' [(32, tabObj ps)] → Q (.ret (.bool true)) { s with heap := h', toks := tk }) :
    wpAny (model PySem.Challenge.rw_cy0003_05.prog w) (callerA.deeper (envOfC (Str.ofString "law") lawScope L fa (.ref 34))) (execs lawBody (envOfC (Str.ofString "law") lawScope L fa (.ref 34))) Q (fun _ _ => False) s := by
  replace F := fr_put (Str.ofString "script") F hm0
  dsimp only [lawBody, lawScope, PySem.Challenge.pw_cy0003_05, List.getLast?, List.getLast, Option.map, Option.bind, Option.getD, fdBody, fdScope]
  w_on
  have T' := topRead_of T
  refine wpAny_execs_cons ?_
  refine wpAny_mono (Q := fun f s' => f = .next ∧ ∃ h' tk o2' W t, s' = { s with heap := h', toks := tk } ∧ Fr base L h' (fun y => if y = Str.ofString "script" then some (Value.ref l) else m₀ y) ∧ News base L h' [(L + 1 + 1 + 1, o3), (L + 1 + 1, o2'), (L + 1, o1), (32, tabObj #[])] ∧ o2'.data = .cell (some (.int ((W : Nat) + 1 : Int) t)) ∧ W < 6) ?_ ?_ (fun _ _ e => e)
  · have fin : ∀ (v : Int) (tv tk : Tok), wpAny (model PySem.Challenge.rw_cy0003_05.prog w) (callerA.deeper (envOfC (Str.ofString "law") lawScope L fa (.ref 34))) (storeName (envOfC (Str.ofString "law") lawScope L fa (.ref 34)) (Str.ofString "ways") (.int (1 + v.fmod 6) tv)) (fun _ s' => ∃ h' tk o2' W t, s' = { s with heap := h', toks := tk } ∧ Fr base L h' (fun y => if y = Str.ofString "script" then some (Value.ref l) else m₀ y) ∧ News base L h' [(L + 1 + 1 + 1, o3), (L + 1 + 1, o2'), (L + 1, o1), (32, tabObj #[])] ∧ o2'.data = .cell (some (.int ((W : Nat) + 1 : Int) t)) ∧ W < 6) (fun _ _ => False) { s with toks := tk } := by
      intro v tv tk
      have b1 := Int.fmod_nonneg_of_pos v (b := 6) (by decide)
      have b2 := Int.fmod_lt_of_pos v (b := 6) (by decide)
      refine stCN (s := { s with toks := tk }) (own := [(L + 1 + 1 + 1, o3)]) F N rfl ho2 ?_ ?_ ?_
      · intro p hp
        rw [List.mem_singleton.mp hp]; exact (ad2 L).1
      · intro p hp
        rcases List.mem_cons.mp hp with rfl | hp
        · exact (ad2 L).2.2.symm
        · rw [List.mem_singleton.mp hp]; exact (ad3 h32).2.1
      intro h3 o2' F3 N3 ho2'
      refine ⟨h3, tk, o2', (v.fmod 6).toNat, tv, rfl, F3, N3, ?_, by omega⟩
      rw [ho2', show 1 + v.fmod 6 = ((v.fmod 6).toNat : Int) + 1 by omega]
    iterate 9 (first | walk1 | (dsimp only; walk1))
    · iterate 7 (first | walk1 | (dsimp only; walk1))
      exact wpAny_mono (fin _ _ _) (fun _ _ h => ⟨trivial, h⟩) (fun _ _ h => h)
    · iterate 4 (first | walk1 | (dsimp only; walk1))
      exact wpAny_mono (fin _ _ _) (fun _ _ h => ⟨trivial, h⟩) (fun _ _ h => h)
  rintro f s₂ ⟨rfl, h2, tk2, o2', W, tW, rfl, F2, N2, ho2', hW6⟩
  dsimp only
  clear F N ho2
  iterate 2 (first | walk1 | (dsimp only; walk1))
  refine LCg.ListComp_U (F₀ := F2) (by with_unfolding_all rfl) (by decide) rfl (by decide) rfl ?_
  iterate 7 (first | walk1 | (dsimp only; walk1))
  refine kmk_slice_ints F2 N2 (F2.lst hl) (.int _ _) .none hi (kmk_from hi (by omega)) rfl ?_ (by with_unfolding_all rfl) (by intro _; with_unfolding_all rfl) (by rw [List.size_toArray, hi.length, sizeLine_eq]; omega)
  intro D3 vs3 h3 F3 N3 l3 hi3 hl3 hle3
  generalize ns.drop (Int.toNat 1) = ns3 at hi3 hl3 hle3
  refine LCg.CompSrc.ledger rfl F3 N3 (.head _) (by rw [List.size_toArray, hi3.length, sizeLine_eq]; omega) ?_
  intro g3
  refine compU_ind (fun i ys news => news = [(D3, listOf vs3.toArray 0), (L + 1 + 1 + 1, o3), (L + 1 + 1, o2'), (L + 1, o1), (32, tabObj #[])] ∧ ∃ ms, IntsAre ys ms ∧ ms.length = i ∧ ∀ x ∈ ms, 0 ≤ x ∧ x < 1000) ?_ ?_ _ 0 [] _ (Nat.zero_add _) ⟨rfl, [], .nil, rfl, by simp⟩
  · rintro i ys news v I' oI' Cc oC D m₃ h8 tk8 E' hin ⟨rfl, ms, hys, hml, hmb⟩ hP hN hxr F8 N8 off8 ne8
    have hil : i < ns3.length := by rw [List.size_toArray, hi3.length] at hin; exact hin
    obtain ⟨t9, e9⟩ := hi3.get i _ (List.getElem?_eq_getElem hil)
    obtain rfl : v = .int ns3[i] t9 := by
      rw [List.getElem?_toArray, e9] at hP
      exact (Option.some.inj hP).symm
    iterate 1 (first | walk1 | (dsimp only; walk1))
    refine compName_L (N8 _ (.tail _ (.head _))).1 hN hxr ?_ rfl rfl (by decide)
    iterate 2 (first | walk1 | (dsimp only; walk1))
    refine ⟨h8, _, _, rfl, F8, N8, off8, .inr ⟨_, .head _, rfl, _, rfl⟩, rfl, ms ++ [_], hys.append (.cons _ _ .nil), by simp [hml], ?_⟩
    intro x hx
    rcases List.mem_append.mp hx with hx | hx
    · exact hmb x hx
    · rw [List.mem_singleton.mp hx]
      exact ⟨Int.fmod_nonneg_of_pos _ (by decide), Int.fmod_lt_of_pos _ (by decide)⟩
  rintro ys news ⟨rfl, ws, hys, hwl, hwb⟩ D4 h4 tk4 F4 N4 off4
  rw [List.size_toArray, hi3.length] at hwl
  have hwl' : ws.length ≤ 63 := by omega
  have hnn : NonNeg ws := fun x hx => (hwb x hx).1
  replace N4 : News base L h4 [(D4, LCg.lst ys), (L + 1 + 1 + 1, o3), (L + 1 + 1, o2'), (L + 1, o1), (32, tabObj #[])] := fun p hp => N4 p (by rcases List.mem_cons.mp hp with rfl | hp; exact .head _; exact .tail _ (.tail _ hp))
  have off4' := off1_mem off4
  have g4 : L + 1 + 1 + 1 ≠ D4 ∧ L + 1 + 1 ≠ D4 ∧ L + 1 ≠ D4 ∧ 32 ≠ D4 := ⟨off4' (L + 1 + 1 + 1, o3) (by simp), off4' (L + 1 + 1, o2') (by simp), off4' (L + 1, o1) (by simp), off4' (32, tabObj #[]) (by simp)⟩
  clear F2 N2 F3 N3 l3 hi3 hl3 hle3 hwl off4 off4'
  refine stCN (own := [(D4, LCg.lst ys)]) F4 N4 rfl ho3 ?_ ?_ ?_
  · intro p hp
    rw [List.mem_singleton.mp hp]; exact g4.1.symm
  · intro p hp
    rcases List.mem_cons.mp hp with rfl | hp
    · exact (ad2 L).1.symm
    rcases List.mem_cons.mp hp with rfl | hp
    · exact (ad2 L).2.1.symm
    · rw [List.mem_singleton.mp hp]; exact (ad3 h32).2.2
  intro h5 o3' F5 N5 ho3'
  dsimp only [List.cons_append, List.nil_append] at N5
  clear F4 N4 ho3
  iterate 5 (first | walk1 | (dsimp only; walk1))
  iterate 6 (first | walk1 | (dsimp only; walk1))
  refine ldCN N5 rfl (.tail _ (.head _)) ho3' ?_
  iterate 1 (first | walk1 | (dsimp only; walk1))
  refine LSm.sum_ints F5 N5 rfl (News.isList N5 (.head _)) hys ?_
  intro h6 tk6 t6 F6 N6
  clear F5 N5
  have hsum0 := sum_nn hnn
  have hsum1 := sum_le hwb
  obtain ⟨S, hS⟩ : ∃ S : Nat, ws.sum = (S : Int) := ⟨ws.sum.toNat, by omega⟩
  iterate 3 (first | walk1 | (dsimp only; walk1))
  rw [show ws.sum + 1 = ((S + 1 : Nat) : Int) by omega]
  refine range1_led F6 N6 ?_
  intro R h7 tk7 ta tb tc F7 N7 l7
  have g7 : D4 < R := l7 (D4, LCg.lst ys) (.head _)
  have g7b : 32 < R := l7 (32, tabObj #[]) (by simp)
  clear F6 N6 l7
  iterate 12 (first | walk1 | (dsimp only; walk1))
  iterate 9 (first | walk1 | (dsimp only; walk1))
  (rename Fr _ _ _ _ => F8); (rename News _ _ _ _ => N8)
  refine ldCN N8 rfl (.tail _ (.tail _ (.tail _ (.head _)))) ho3' ?_
  refine kmk_add_ints F8 N8 (News.isList N8 (.head _)) (News.isList N8 (.tail _ (.tail _ (.head _)))) (.cons 0 _ .nil) hys ?_ (by simp [sizeLine_eq]; omega)
  intro D9 vs9 h9 F9 N9 l9 hi9
  iterate 1 (first | walk1 | (dsimp only; walk1))
  refine kso_max F9 N9 (News.isList N9 (.head _)) hi9 (by simp) rfl ?_
  intro h10 mx t10 tk10 F10 N10 hmx hall
  replace N10 : News base L h10 [(R, rgO 0 ((S + 1 : Nat) : Int) ta tb tc), (D4, LCg.lst ys), (L + 1 + 1 + 1, o3'), (L + 1 + 1, o2'), (L + 1, o1), (32, tabObj #[])] := fun p hp => N10 p (.tail _ (.tail _ hp))
  clear F8 N8 F9 N9 l9 hi9
  have hmx0 : 0 ≤ mx := hall 0 (by simp)
  have hmxw : ∀ w ∈ ws, w ≤ mx := fun w hw => hall w (by simp [hw])
  have hmxin : mx = 0 ∨ mx ∈ ws := by simpa using hmx
  have hmxS : mx ≤ ws.sum := by
    rcases hmxin with e | e
    · omega
    · exact le_sum hnn e
  obtain ⟨lo, hlo⟩ : ∃ lo : Nat, (lo : Int) = mx := ⟨mx.toNat, by omega⟩
  iterate 5 (first | walk1 | (dsimp only; walk1))
  refine ldCN N10 rfl (.tail _ (.tail _ (.head _))) ho3' ?_
  iterate 1 (first | walk1 | (dsimp only; walk1))
  refine LSm.sum_ints F10 N10 rfl (News.isList N10 (.tail _ (.head _))) hys ?_
  intro h11 tk11 t11 F11 N11
  clear F10 N10
  iterate 2 (first | walk1 | (dsimp only; walk1))
  subst hlo
  rw [hS]
  refine kla_eval rfl ?_
  refine kla_nest (ps := #[]) F11 N11 T C rfl (updF_mid (pre := [(R, rgO 0 ((S + 1 : Nat) : Int) ta tb tc), (D4, LCg.lst ys), (L + 1 + 1 + 1, o3'), (L + 1 + 1, o2'), (L + 1, o1)]) (post := []) ?_ (by simp)) (by kn_triples) (by kn_among) rfl ?_
  · intro p hp
    rcases List.mem_cons.mp hp with rfl | hp
    · exact Nat.ne_of_gt g7b
    rcases List.mem_cons.mp hp with rfl | hp
    · exact g4.2.2.2.symm
    rcases List.mem_cons.mp hp with rfl | hp
    · exact (ad5 h32).2.2
    rcases List.mem_cons.mp hp with rfl | hp
    · exact (ad5 h32).2.1
    rw [List.mem_singleton.mp hp]; exact (ad5 h32).1
  intro f13 c13 oc13 vq tq ct13 h13 tk13 F13 N13 hd13 hv13 l13 lf13
  dsimp only [List.cons_append, List.nil_append] at N13
  clear F11 N11
  iterate 1 (first | walk1 | (dsimp only; walk1))
  refine ⟨X.keeps F13.keep, ?_⟩
  have hgf := (N13 _ (.head _)).1
  have hgc := (N13 _ (.tail _ (.head _))).1
  have hgR := (N13 _ (.tail _ (.tail _ (.head _)))).1
  have hg4 := (N13 (D4, LCg.lst ys) (by simp)).1
  have hgo3 := (N13 (L + 1 + 1 + 1, o3') (by simp)).1
  have hgo2 := (N13 (L + 1 + 1, o2') (by simp)).1
  dsimp only at hgf hgc hgR hg4 hgo3 hgo2
  refine bisB_call (N := S + 1) (lo₀ := lo) (hi₀ := S) (g := fun i => decide ((gAll (i : Int) ws).1 ≤ (W : Int) + 1)) (X.keeps F13.keep) (T'.keeps F13.keep) (by rw [depth_deeper, depth_caller]; decide) hgR (by omega) ⟨_, _, _, _, hgf⟩ (by omega) (by omega) ?_ ?_
  · intro i ti A' s' Q' hiM hAh hA' hk' hq'
    have X' := (X.keeps F13.keep).keeps hk'
    have T'' := (T'.keeps F13.keep).keeps hk'
    rw [depth_deeper, depth_caller] at hA'
    refine' enterLam (binds := [(Str.ofString "most", .int i ti)]) (hk' _ _ hgf) ⟨_, _, _, _, rfl, hk' _ _ hgc, hd13, hv13⟩ T''.nolimit (by simp only [recursionLimit]; omega) ?hb ?hl ?_ ?c1 ?c2 ?c3 ?c4
    case hb => exact rfl
    case hl => exact locs rfl
    case c1 => exact rfl
    case c2 => exact rfl
    case c3 => exact rfl
    case c4 => decide
    intro h14 tk14 F14
    have N14 : News s'.heap s'.heap.objs.size h14 [] := News.nil
    iterate 4 (first | walk1 | (dsimp only; walk1))
    refine freeX (F14.keep _ _ (hk' _ _ hgo3)) ho3' ?_ rfl rfl rfl
    iterate 1 (first | walk1 | (dsimp only; walk1))
    refine freeX (F14.keep _ _ (hk' _ _ hgo2)) ho2' ?_ rfl rfl rfl
    iterate 3 (first | walk1 | (dsimp only; walk1))
    refine ⟨X'.keeps F14.keep, ?_⟩
    refine fits_call (X'.keeps F14.keep) (T''.keeps F14.keep) (by show A'.handled = none; rw [hAh]; rfl) (by rw [depth_deeper]; simp only [recursionLimit]; omega) (F14.keep _ _ (hk' _ _ hg4)) rfl rfl hys ?_
    intro h15 tk15 hk15
    have F15 := frKept F14 hk15
    exact hq' _ _ F15.keep
  intro h20 tk20 t20 hk20
  have F20 := frKept F13 hk20
  have N20 := newsKept N13 hk20
  clear F13 N13
  iterate 1 (first | walk1 | (dsimp only; walk1))
  (rename Fr _ _ _ _ => F21); (rename News _ _ _ _ => N21)
  dsimp only
  refine law_rest X T' hys hwl' hnn hW6 F21 rfl (fun p hp => N21 p (.tail _ (.tail _ (.tail _ hp)))) ho3' ho2' ho1 h32 g4 ?_ ?_
  · intro ds hds
    exact greedy_dp hnn hds hS.symm rfl hmx0 hmxw hmxin
  · intro h' tk m' ps F' N'
    exact hQ h' tk m' ps F' N'
end Mine
theorem PySem.Challenge.cw_cy0003_05_holds : PySem.Challenge.rw_cy0003_05.Holds := by
  refine Mine.hd05 ?_
  k_go0
  (rename IntsAre _ _ => hI); (rename Fr _ _ _ _ => hF); (rename Frag.In _ _ => hK); (rename Top _ _ _ _ _ _ => hT); (rename News _ _ _ _ => hN)
  rename_i hLt
  refine wpAny_mono (Mine.law_body hK hT codeHd lifted hI (by omega) hF rfl hN (by assumption) (by assumption) (by assumption) (by assumption) ?_) (fun _ _ h => h) (fun _ _ h => h.elim)
  intro h' tk m' ps F' N'
  dsimp only
  refine ⟨?_, GrownAt.of N' (.head _), True.intro⟩
  wrow_close
