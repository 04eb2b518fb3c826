import PyProof.Rows.All
import Wide.All
import OpenK.AllK
import Wide.FinOn
import PySem.Challenge.RW_cy0003_02
open PySem PySem.W PyProof.Rows PySem.Calls
set_option Elab.async false
set_option maxRecDepth 100000
set_option maxHeartbeats 8000000
set_option linter.unusedVariables false
namespace Mine

/-- heap kept -/
abbrev Kept (h h' : Heap) : Prop := ∀ b o, h.get? b = some o → h'.get? b = some o

theorem frKept {h₀ h h' : Heap} {L : Addr} {m : Str → Option Value} (F : Fr h₀ L h m) (k : Kept h h') : Fr h₀ L h' m :=
  ⟨F.ns.keeps k, fun b o e => k b o (F.keep b o e), F.above⟩
theorem newsKept {h₀ h h' : Heap} {L : Addr} {news : List (Addr × Obj)} (N : News h₀ L h news) (k : Kept h h') : News h₀ L h' news :=
  fun p hp => ⟨k _ _ (N p hp).1, (N p hp).2⟩

section
variable {prog : Program} {w : World} {A : Around} {E : Value → Shared → Prop} {s : Shared} {K : Frag}

/-- a call of a def that stands at the top; the frame's base is the heap at the call -/
theorem enter0 {Q : Value → Shared → Prop} {name qual : Str} {params : Arguments} {body : List Stmt} {scope : Scope} {dV kV doc pm cdv ct oc : Value} {an od : Option Addr} {osl : Array (Option Value)} {f : Addr} {pos : List Value} {kw : List (Str × Value)} {binds : List (Str × Value)}
    (X : K.In s.heap) (hlim : s.heap.NoLimit) (hroom : A.depth < recursionLimit)
    (ho : K.lookup f = some ⟨oc, od, .func (fnOf name qual params body scope dV kV doc pm an cdv ct), osl⟩) (hcd : codeIn K cdv qual = true)
    (hbind : BindsTo s (fnOf name qual params body scope dV kV doc pm an cdv ct) ⟨pos, kw⟩ binds) (hloc : ∀ y ∈ binds, scope.names.lookup y.1 = some .local)
    (h : ∀ h₁ tk, Fr s.heap s.heap.objs.size h₁ (fun y => binds.reverse.lookup y) →
      wpAny (model prog w) (A.deeper (envOf qual scope s.heap.objs.size f cdv)) (execs body (envOf qual scope s.heap.objs.size f cdv))
        (fun fl s' => Q (match fl with | .ret v => v | _ => .none) s') (fun _ _ => False)
        { s with heap := h₁, toks := tk })
    (hco : scope.isCoroutine = false) (hgen : scope.isGenerator = false) (hk : scope.kind = .function)
    (hcell : ∀ x ∈ scope.names, x.2 ≠ .cell) :
    wpAny (model prog w) A (call (.ref f) pos kw) Q E s := by
  refine wpAny_call (codeAny_call_def (fd := fnOf name qual params body scope dV kV doc pm an cdv ct) (body := body) (binds := binds) hroom (X _ _ ho) rfl hlim (codeRec_of X hcd) rfl hbind hcell hloc (fun h₁ hns hk₁ => ?_) hco hgen hk)
  exact wpAny_mono (h h₁ _ ⟨hns, hk₁, Nat.le_refl _⟩) (fun _ _ x => x) (fun _ _ x => x.elim)
end

theorem binds_kw {s : Shared} {fd : FuncData} {args : Args} {binds : List (Str × Value)} {T D : Addr} {o oD : Obj} {items : Array Value} {n : Nat} {part : Option Value}
    {k : Option (Array Value) → Sem (List (Str × Value))} {k2 : Obj → Sem (List (Str × Value))}
    (ho : s.heap.get? T = some o) (hs' : o.data = .seq items n) (hD : s.heap.get? D = some oD)
    (h₁ : bindArgs fd args = seqItems? (.ref T) >>= k) (h₂ : k (some items) = loadPart D part >>= k2) (h₃ : k2 oD = pure binds) : BindsTo s fd args binds :=
  fun _ _ _ _ hq => by
    rw [h₁]
    refine wpAny_bind (wpAny_seqItems ho hs' ?_)
    rw [h₂]
    refine wpAny_bind (wpAny_loadPart hD ?_)
    rw [h₃]
    exact wpAny_pure hq

theorem fr_put {h₀ h : Heap} {L : Addr} {m : Str → Option Value} {v : Value} (n : Str) (F : Fr h₀ L h m) (e : m n = some v) : Fr h₀ L h (fun y => if y = n then some v else m y) := by
  have : (fun y => if y = n then some v else m y) = m := by
    funext y
    by_cases q : y = n
    · subst q; simp [e]
    · simp [q]
  rw [this]; exact F

/-- the binary search, as the code runs it: p says «go left» -/
def bs (p : Nat → Bool) (lo hi : Nat) : Nat :=
  if lo < hi then
    if p ((lo + hi) / 2) then bs p lo ((lo + hi) / 2) else bs p ((lo + hi) / 2 + 1) hi
  else lo
termination_by hi - lo
decreasing_by all_goals omega

theorem bs_done {p : Nat → Bool} {lo hi : Nat} (h : ¬ lo < hi) : bs p lo hi = lo := by rw [bs, if_neg h]
theorem bs_left {p : Nat → Bool} {lo hi : Nat} (h : lo < hi) (hp : p ((lo + hi) / 2) = true) : bs p lo hi = bs p lo ((lo + hi) / 2) := by rw [bs, if_pos h, if_pos hp]
theorem bs_right {p : Nat → Bool} {lo hi : Nat} (h : lo < hi) (hp : p ((lo + hi) / 2) = false) : bs p lo hi = bs p ((lo + hi) / 2 + 1) hi := by rw [bs, if_pos h, if_neg (by simp [hp])]
theorem fdiv2 (lo hi : Nat) : Int.fdiv ((lo : Int) + (hi : Int)) 2 = (((lo + hi) / 2 : Nat) : Int) := by
  rw [Int.fdiv_eq_ediv_of_nonneg _ (by omega)]; omega

section
variable {prog : Program} {w : World} {A : Around} {E : Value → Shared → Prop} {s : Shared} {env : Env} {h₀ : Heap} {x : Str} {body : List Stmt} {Q : Flow → Shared → Prop}

/-- what a turn must leave: I is the iterator, oI what it is -/
def Turn (h₀ : Heap) (L : Addr) (s : Shared) (I : Addr) (oI : Obj) (Jn : (Str → Option Value) → List (Addr × Obj) → Prop) (Q : Flow → Shared → Prop) (f : Flow) (s₂ : Shared) : Prop :=
  match f with
  | .ret v => Q (.ret v) s₂
  | .brk => Q .next s₂
  | _ => ∃ h' tk m' nx, s₂ = { s with heap := h', toks := tk } ∧ Fr h₀ L h' m' ∧ News h₀ L h' (nx ++ [(I, oI)]) ∧ (∀ p ∈ nx, p.1 ≠ I) ∧ Jn m' nx

theorem iter_led {l : Addr} {vs : List Value} {ol : Obj} {nn : Nat} {m₀ : Str → Option Value} {news : List (Addr × Obj)} (J : Nat → (Str → Option Value) → List (Addr × Obj) → Prop)
    (hh : A.handled = none) (hoc : ol.cls = .type "list") (hod : ol.data = .seq vs.toArray nn) (hl : s.heap.get? l = some ol) (hlL : l ≠ env.locals) (F : Fr h₀ env.locals s.heap m₀) (N : News h₀ env.locals s.heap news) (hj : J 0 m₀ news)
    (hlJ : ∀ i m nx, J i m nx → (l, ol) ∈ nx ∨ h₀.get? l = some ol)
    (turn : ∀ i v m₁ nx h tk I oI, vs[i]? = some v → J i m₁ nx → (∀ p ∈ nx, p.1 ≠ I) → I < h.objs.size → Fr h₀ env.locals h (fun y => if y = x then some v else m₁ y) → News h₀ env.locals h (nx ++ [(I, oI)]) →
      wpAny (model prog w) A (execs body env) (Turn h₀ env.locals s I oI (J (i + 1)) Q) E { s with heap := h, toks := tk })
    (done : ∀ m₁ nx h tk, J vs.length m₁ nx → Fr h₀ env.locals h m₁ → News h₀ env.locals h nx → Q .next { s with heap := h, toks := tk }) :
    wpAny (model prog w) A (pyIter (.ref l)) (fun it s₂ => LoopAtV prog w A h₀ env x body Q E it s₂) E s := by
  have hls : s.heap.IsList l vs.toArray := ⟨_, hl, hoc, nn, hod⟩
  have hne : l ≠ s.heap.objs.size := Nat.ne_of_lt (Heap.lt_size hl)
  refine wpAny_pyIter_list hls ?_
  have W := Walks.list (prog := prog) (w := w) hh s.heap.objs.size l hne vs.toArray
  rw [List.size_toArray] at W
  refine ⟨_, _, _, vs.length, _, _, m₀, news, J, rfl, W, ?_, ?_, ?_, ⟨⟨_, Heap.get?_push_size _ rfl, rfl, rfl⟩, hls.at fun o e => Heap.get?_push_of_some _ e⟩, F.push _, (fun p hp => ⟨Heap.get?_push_of_some _ (N p hp).1, (N p hp).2⟩), hj, ?_, ?_⟩
  · intro hm
    rcases List.mem_cons.mp hm with e | hm
    · exact absurd F.ns.lt (e ▸ Nat.lt_irrefl _)
    · exact hlL (List.mem_singleton.mp hm).symm
  · intro b hb
    rw [List.mem_singleton.mp hb]
    exact next_is_new F
  · intro p hp hI
    exact absurd (Heap.lt_size (N p hp).1) ((List.mem_singleton.mp hI) ▸ Nat.lt_irrefl _)
  · rintro i v m₁ nx s₁ own ⟨hh', tk', rfl⟩ hin hP hJ hoff hown hget hfp hst F₁ N₁
    have hv : vs[i]? = some v := by simpa using hP
    have hoffI : ∀ p ∈ nx, p.1 ≠ s.heap.objs.size := fun p hp e => hoff p hp (by rw [e]; exact List.mem_singleton.mpr rfl)
    obtain ⟨⟨oI, hoI, _⟩, _⟩ := hst
    have hI₀ : h₀.get? s.heap.objs.size = none := next_is_new F
    have hIown : (s.heap.objs.size, oI) ∈ own := hfp _ (.head _) hI₀ _ hoI
    have NI := N₁ _ (List.mem_append_left _ hIown)
    refine wpAny_mono (turn i v m₁ nx hh' tk' _ oI hv hJ hoffI (Heap.lt_size hoI) F₁ (fun p hp => ?_)) (fun f s₂ p => ?_) fun _ _ e => e
    · rcases List.mem_append.mp hp with hp | hp
      · exact N₁ p (List.mem_append_right _ hp)
      · rw [List.mem_singleton.mp hp]; exact NI
    · have fin : (∃ h' tk m' nx, s₂ = { s with heap := h', toks := tk } ∧ Fr h₀ env.locals h' m' ∧ News h₀ env.locals h' (nx ++ [(s.heap.objs.size, oI)]) ∧ (∀ p ∈ nx, p.1 ≠ s.heap.objs.size) ∧ J (i + 1) m' nx) →
          LoopStepU h₀ env.locals [s.heap.objs.size] own (J (i + 1)) { s with heap := hh', toks := tk' } .next s₂ := by
        rintro ⟨h', tk, m', nx', rfl, F', N', hne', hJ'⟩
        refine ⟨rfl, h', tk, m', nx', rfl, F', fun p hp => ?_, fun p hp e => hne' p hp (List.mem_singleton.mp e), hJ'⟩
        rcases List.mem_append.mp hp with hp | hp
        · have hpo := hown p hp
          have hpg := hget p hp
          rcases List.mem_cons.mp hpo with e | e
          · have : p = (s.heap.objs.size, oI) := Prod.ext e (by rw [e] at hpg; exact Option.some.inj (hpg.symm.trans hoI))
            rw [this]
            exact N' _ (List.mem_append_right _ (.head _))
          · have e := List.mem_singleton.mp e
            rcases hlJ _ _ _ hJ with q | q
            · have q1 := (N₁ _ (List.mem_append_right _ q)).1
              have : p = (l, ol) := Prod.ext e (by rw [e] at hpg; exact Option.some.inj (hpg.symm.trans q1))
              rcases hlJ _ _ _ hJ' with q' | q'
              · rw [this]; exact N' _ (List.mem_append_left _ q')
              · have := (N₁ _ (List.mem_append_right _ q)).2.2
                rw [q'] at this; cases this
            · have := (N₁ p (List.mem_append_left _ hp)).2.2
              rw [e, q] at this; cases this
        · exact N' _ (List.mem_append_left _ hp)
      cases f with
      | ret v => exact .ret p
      | brk => exact .brk p
      | next => exact .next (fin p)
      | cont => exact .cont (fin p)
  · rintro h' tk m' nx' F' N' _ hJ
    exact done m' nx' h' tk hJ F' N'
end

section
variable {prog : Program} {w : World} {A : Around} {E : Value → Shared → Prop} {s : Shared} {K : Frag}
/-- a call of a def that stands at the top and may change the objects at as -/
theorem enterH {Q : Value → Shared → Prop} {name qual : Str} {params : Arguments} {body : List Stmt} {scope : Scope} {dV kV doc pm cdv ct oc : Value} {an od : Option Addr} {osl : Array (Option Value)} {f : Addr} {pos : List Value} {kw : List (Str × Value)} {binds : List (Str × Value)} (as : List Addr)
    (X : K.In (hideAll s.heap as)) (hlim : (hideAll s.heap as).NoLimit) (hroom : A.depth < recursionLimit)
    (ho : K.lookup f = some ⟨oc, od, .func (fnOf name qual params body scope dV kV doc pm an cdv ct), osl⟩) (hcd : codeIn K cdv qual = true)
    (hbind : BindsTo s (fnOf name qual params body scope dV kV doc pm an cdv ct) ⟨pos, kw⟩ binds) (hloc : ∀ y ∈ binds, scope.names.lookup y.1 = some .local)
    (h : ∀ h₁ tk, Fr (hideAll s.heap as) s.heap.objs.size h₁ (fun y => binds.reverse.lookup y) → Kept s.heap h₁ →
      wpAny (model prog w) (A.deeper (envOf qual scope s.heap.objs.size f cdv)) (execs body (envOf qual scope s.heap.objs.size f cdv))
        (fun fl s' => Q (match fl with | .ret v => v | _ => .none) s') (fun _ _ => False)
        { s with heap := h₁, toks := tk })
    (hco : scope.isCoroutine = false) (hgen : scope.isGenerator = false) (hk : scope.kind = .function)
    (hcell : ∀ x ∈ scope.names, x.2 ≠ .cell) :
    wpAny (model prog w) A (call (.ref f) pos kw) Q E s := by
  have X' : K.In s.heap := X.keeps fun b o e => of_hideAll as e
  refine wpAny_call (codeAny_call_def (fd := fnOf name qual params body scope dV kV doc pm an cdv ct) (body := body) (binds := binds) hroom (X' _ _ ho) rfl (hlim.keeps fun b o e => of_hideAll as e) (codeRec_of X' hcd) rfl hbind hcell hloc (fun h₁ hns hk₁ => ?_) hco hgen hk)
  exact wpAny_mono (h h₁ _ ⟨hns, fun b o e => hk₁ b o (of_hideAll as e), Nat.le_of_eq (hideAll_size _ _)⟩ hk₁) (fun _ _ x => x) (fun _ _ x => x.elim)
end

theorem upd_mid {d : Addr} {o o' : Obj} {post : List (Addr × Obj)} : ∀ {pre : List (Addr × Obj)}, (∀ p ∈ pre, p.1 ≠ d) → (∀ p ∈ post, p.1 ≠ d) → Upd d o o' (pre ++ (d, o) :: post) (pre ++ (d, o') :: post)
  | [], _, h2 => .head h2
  | p :: _, h1, h2 => .tail (h1 p (.head _)) (upd_mid (fun q hq => h1 q (.tail _ hq)) h2)

/-- a row of a tableau, as it lies in the heap -/
structure RowD where
  a : Addr
  vs : List Value
  ns : List Int
  ep : Nat
def rowE (r : RowD) : Addr × Obj := (r.a, listOf r.vs.toArray r.ep)
def tabL (R : Addr) (ep : Nat) (rows : List RowD) : List (Addr × Obj) := (R, listOf ((rows.map (·.a)).map Value.ref).toArray ep) :: rows.map rowE
theorem tabL_mid (R : Addr) (ep : Nat) (pre : List RowD) (r : RowD) (post : List RowD) (more : List (Addr × Obj)) :
    tabL R ep (pre ++ r :: post) ++ more = ((R, listOf (((pre ++ r :: post).map (·.a)).map Value.ref).toArray ep) :: pre.map rowE) ++ (r.a, listOf r.vs.toArray r.ep) :: (post.map rowE ++ more) := by
  simp [tabL, rowE]
def bisR (r : List Int) (x : Int) : Nat := bs (fun i => decide (x < r.getD i 0)) 0 r.length
def insT : List (List Int) → Int → List (List Int)
  | [], x => [[x]]
  | r :: rs, x => if bisR r x = r.length then (r ++ [x]) :: rs else (r.set (bisR r x) x) :: insT rs (r.getD (bisR r x) 0)
theorem bs_le {p : Nat → Bool} {lo hi : Nat} (h : lo ≤ hi) : lo ≤ bs p lo hi ∧ bs p lo hi ≤ hi := by
  induction lo, hi using bs.induct p with
  | case1 lo hi h1 h2 ih => rw [bs_left h1 h2]; have := ih (by omega); omega
  | case2 lo hi h1 h2 ih => rw [bs_right h1 (by simpa using h2)]; have := ih (by omega); omega
  | case3 lo hi h1 => rw [bs_done h1]; omega
theorem bisR_le (r : List Int) (x : Int) : bisR r x ≤ r.length := (bs_le (Nat.zero_le _)).2

theorem insT_len : ∀ (T : List (List Int)) (x : Int), (insT T x).length ≤ T.length + 1
  | [], x => by simp [insT]
  | r :: T, x => by
    have ih := insT_len T (r.getD (bisR r x) 0)
    unfold insT
    split
    · simp
    · simp only [List.length_cons]; omega
theorem insT_lens {n : Nat} : ∀ (T : List (List Int)) (x : Int), (∀ r ∈ T, r.length ≤ n) → ∀ r ∈ insT T x, r.length ≤ n + 1
  | [], x, _ => by simp [insT]
  | r :: T, x, h => by
    have ih := insT_lens T (r.getD (bisR r x) 0) (fun q hq => h q (.tail _ hq))
    have hr := h r (.head _)
    unfold insT
    split
    · intro q hq
      rcases List.mem_cons.mp hq with rfl | hq
      · simp; omega
      · have := h q (.tail _ hq); omega
    · intro q hq
      rcases List.mem_cons.mp hq with rfl | hq
      · simp; omega
      · exact ih q hq

theorem fr_but {h₀ h h' : Heap} {L : Addr} {m : Str → Option Value} {as : List Addr} (F : Fr h₀ L h m) (k : ∀ b o, h.get? b = some o → b ∉ as → h'.get? b = some o) (hL : L ∉ as) (ha : ∀ a ∈ as, h₀.get? a = none) : Fr h₀ L h' m := by
  obtain ⟨⟨oL, es, epo, hg, r⟩, kp, ab⟩ := F
  refine ⟨⟨oL, es, epo, k _ _ hg hL, r⟩, fun b o e => k b o (kp b o e) fun q => ?_, ab⟩
  have := ha b q
  rw [e] at this; cases this

section
open PySem.Spec PyProof.V
def rowDat (r : List Int) : PyData := .list (r.map PyData.int)
theorem tab_canLay : ∀ T : List (List Int), PyData.canLayAll0 (T.map rowDat) = true
  | [] => rfl
  | r :: T => by simp [rowDat, PyData.canLayAll0, PyData.canLay0, ke_canLayAll0 r]; exact tab_canLay T
theorem tab_depth : ∀ T : List (List Int), PyData.depthAll (T.map rowDat) ≤ 1
  | [] => by simp [PyData.depthAll]
  | r :: T => by
    have := tab_depth T
    simp only [List.map_cons, PyData.depthAll]
    simp only [rowDat, PyData.depth, ke_depthAll] at *
    omega
theorem tab_shaped (T : List (List Int)) : SeqAt.shaped (.list (T.map rowDat)) = true := by
  have := tab_depth T
  simp [SeqAt.shaped, PyData.canLay0, PyData.depth, tab_canLay]
  omega
theorem tab_eqv : ∀ T S : List (List Int), PyData.eqvAll (T.map rowDat) (S.map rowDat) = decide (T = S)
  | [], [] => by simp [PyData.eqvAll]
  | [], _ :: _ => by simp [PyData.eqvAll]
  | _ :: _, [] => by simp [PyData.eqvAll]
  | a :: r, b :: t => by
    simp only [List.map_cons, PyData.eqvAll, tab_eqv r t]
    simp only [rowDat, PyData.eqv, ked_eqvAll]
    by_cases h : a = b <;> by_cases h' : r = t <;> simp [h, h']
theorem tab_readsAll {h : Heap} : ∀ {rows : List RowD}, (∀ r ∈ rows, h.get? r.a = some (listOf r.vs.toArray r.ep) ∧ IntsAre r.vs r.ns) → ∃ as, ReadsAll h ((rows.map (·.a)).map Value.ref) ((rows.map (·.ns)).map rowDat) as
  | [], _ => ⟨[], .nil⟩
  | r :: rows, hr => by
    obtain ⟨as, ih⟩ := tab_readsAll (rows := rows) fun q hq => hr q (.tail _ hq)
    have h1 := hr r (.head _)
    exact ⟨_, .cons (reads_of_ints ⟨_, h1.1, rfl, r.ep, rfl⟩ h1.2) ih⟩
theorem tab_reads {h : Heap} {R : Addr} {ep : Nat} {rows : List RowD} (hT : ∀ p ∈ tabL R ep rows, h.get? p.1 = some p.2) (hi : ∀ r ∈ rows, IntsAre r.vs r.ns) : ∃ as, Reads h (.ref R) (.list ((rows.map (·.ns)).map rowDat)) as := by
  obtain ⟨as, ih⟩ := tab_readsAll (h := h) (rows := rows) fun r hr => ⟨hT (rowE r) (.tail _ (List.mem_map_of_mem (f := rowE) hr)), hi r hr⟩
  exact ⟨_, Reads.list (hT _ (.head _)) rfl rfl (by simpa using ih)⟩
variable {prog : Program} {w : World} {A : Around} {E : Value → Shared → Prop} {s : Shared} {Q : Value → Shared → Prop}
theorem tab_ne {R R' : Addr} {ep ep' : Nat} {rows rows' : List RowD} (hT : ∀ p ∈ tabL R ep rows, s.heap.get? p.1 = some p.2) (hi : ∀ r ∈ rows, IntsAre r.vs r.ns) (hT' : ∀ p ∈ tabL R' ep' rows', s.heap.get? p.1 = some p.2) (hi' : ∀ r ∈ rows', IntsAre r.vs r.ns)
    (hu : A.units + 64 < cLine) (h : Q (.bool (!decide (rows.map (·.ns) = rows'.map (·.ns)))) s) : wpAny (model prog w) A (compareOp .NotEq (.ref R) (.ref R')) Q E s := by
  obtain ⟨as, h1⟩ := tab_reads hT hi
  obtain ⟨as', h2⟩ := tab_reads hT' hi'
  refine ne_dataH h1 h2 (tab_shaped _) (tab_shaped _) hu ?_
  simp only [PyData.eqv, tab_eqv]
  exact h
theorem tab_eq {R R' : Addr} {ep ep' : Nat} {rows rows' : List RowD} (hT : ∀ p ∈ tabL R ep rows, s.heap.get? p.1 = some p.2) (hi : ∀ r ∈ rows, IntsAre r.vs r.ns) (hT' : ∀ p ∈ tabL R' ep' rows', s.heap.get? p.1 = some p.2) (hi' : ∀ r ∈ rows', IntsAre r.vs r.ns)
    (hu : A.units + 64 < cLine) (h : Q (.bool (decide (rows.map (·.ns) = rows'.map (·.ns)))) s) : wpAny (model prog w) A (compareOp .Eq (.ref R) (.ref R')) Q E s := by
  obtain ⟨as, h1⟩ := tab_reads hT hi
  obtain ⟨as', h2⟩ := tab_reads hT' hi'
  refine eq_dataH h1 h2 (tab_shaped _) (tab_shaped _) hu ?_
  simp only [PyData.eqv, tab_eqv]
  exact h
end

section
variable {prog : Program} {w : World} {A : Around} {E : Value → Shared → Prop} {s : Shared} {env : Env} {h₀ : Heap} {x : Str} {body : List Stmt} {Q : Flow → Shared → Prop}
theorem iter_range_led {r : Addr} {a₀ b₀ : Int} {t₀ u₀ v₀ : Tok} {n : Nat} {m₀ : Str → Option Value} {news : List (Addr × Obj)} (J : Nat → (Str → Option Value) → List (Addr × Obj) → Prop)
    (hh : A.handled = none) (hr : IsRange s.heap r a₀ b₀ 1 t₀ u₀ v₀) (hsmall : Builtin.Range.small a₀ b₀ 1 = true) (hn : Builtin.Range.rangeSize a₀ b₀ 1 = (n : Int)) (F : Fr h₀ env.locals s.heap m₀) (N : News h₀ env.locals s.heap news) (hj : J 0 m₀ news)
    (turn : ∀ (i : Nat) t m₁ nx h tk I oI, i < n → J i m₁ nx → (∀ p ∈ nx, p.1 ≠ I) → I < h.objs.size → Fr h₀ env.locals h (fun y => if y = x then some (.int (a₀ + i) t) else m₁ y) → News h₀ env.locals h (nx ++ [(I, oI)]) →
      wpAny (model prog w) A (execs body env) (Turn h₀ env.locals s I oI (J (i + 1)) Q) E { s with heap := h, toks := tk })
    (done : ∀ m₁ nx h tk, J n m₁ nx → Fr h₀ env.locals h m₁ → News h₀ env.locals h nx → Q .next { s with heap := h, toks := tk }) :
    wpAny (model prog w) A (pyIter (.ref r)) (fun it s₂ => LoopAtV prog w A h₀ env x body Q E it s₂) E s := by
  refine wpAny_pyIter_range hr hsmall ?_
  have W : Walks prog w A s.heap.objs.size [s.heap.objs.size] [s.heap.objs.size] n (fun i v => i < n ∧ ∃ t, v = .int (a₀ + i * 1) t)
      (fun i h => IsRangeIter h s.heap.objs.size (a₀ + (i : Nat) * 1) ((n : Int) - (i : Nat)) 1) := (Walks.range hh _ a₀ 1 n).bound
  refine ⟨_, _, _, n, _, _, m₀, news, J, rfl, W, ?_, ?_, ?_, (by show IsRangeIter _ _ _ _ _; rw [hn]; simpa using Heap.get?_push_size _ rfl), F.push _, (fun p hp => ⟨Heap.get?_push_of_some _ (N p hp).1, (N p hp).2⟩), hj, ?_, ?_⟩
  · intro hm
    exact absurd F.ns.lt ((List.mem_singleton.mp hm) ▸ Nat.lt_irrefl _)
  · intro b hb
    rw [List.mem_singleton.mp hb]
    exact next_is_new F
  · intro p hp hI
    exact absurd (Heap.lt_size (N p hp).1) ((List.mem_singleton.mp hI) ▸ Nat.lt_irrefl _)
  · rintro i v m₁ nx s₁ own ⟨hh', tk', rfl⟩ hin ⟨_, t, rfl⟩ hJ hoff hown hget hfp hst F₁ N₁
    have hoffI : ∀ p ∈ nx, p.1 ≠ s.heap.objs.size := fun p hp e => hoff p hp (by rw [e]; exact List.mem_singleton.mpr rfl)
    obtain ⟨oI, hst'⟩ : ∃ oI, hh'.get? s.heap.objs.size = some oI := ⟨_, hst⟩
    have hI₀ : h₀.get? s.heap.objs.size = none := next_is_new F
    have hIown := hfp _ (.head _) hI₀ _ hst'
    have NI := N₁ _ (List.mem_append_left _ hIown)
    rw [Int.mul_one] at F₁
    refine wpAny_mono (turn i t m₁ nx hh' tk' _ oI hin hJ hoffI (Heap.lt_size hst') F₁ (fun p hp => ?_)) (fun f s₂ p => ?_) fun _ _ e => e
    · exact (List.mem_append.mp hp).elim (fun hp => N₁ p (List.mem_append_right _ hp)) fun hp => by rw [List.mem_singleton.mp hp]; exact NI
    · have fin : (∃ h' tk m' nx', s₂ = { s with heap := h', toks := tk } ∧ Fr h₀ env.locals h' m' ∧ News h₀ env.locals h' (nx' ++ [(s.heap.objs.size, oI)]) ∧ (∀ p ∈ nx', p.1 ≠ s.heap.objs.size) ∧ J (i + 1) m' nx') →
          LoopStepU h₀ env.locals [s.heap.objs.size] own (J (i + 1)) { s with heap := hh', toks := tk' } .next s₂ := by
        rintro ⟨h', tk, m', nx', rfl, F', N', hne', hJ'⟩
        refine ⟨rfl, h', tk, m', nx', rfl, F', fun p hp => ?_, fun p hp e => hne' p hp (List.mem_singleton.mp e), hJ'⟩
        rcases List.mem_append.mp hp with hp | hp
        · have e := List.mem_singleton.mp (hown p hp)
          have hpg := hget p hp
          rw [e] at hpg
          rw [show p = (s.heap.objs.size, p.2) from Prod.ext e rfl, Option.some.inj (hpg.symm.trans hst')]
          exact N' _ (List.mem_append_right _ (.head _))
        · exact N' _ (List.mem_append_left _ hp)
      cases f with
      | ret v => exact .ret p
      | brk => exact .brk p
      | next => exact .next (fin p)
      | cont => exact .cont (fin p)
  · rintro h' tk m' nx' F' N' _ hJ
    exact done m' nx' h' tk hJ F' N'
end

theorem three_of (ns : List Int) (i : Nat) (h : i + 2 < ns.length) :
    ∃ a b c, ns[i]? = some a ∧ ns[i + 1]? = some b ∧ ns[i + 2]? = some c ∧ List.take (min ((i : Int) + 3).toNat ns.length - (i : Int).toNat) (List.drop (i : Int).toNat ns) = [a, b, c] := by
  refine ⟨ns[i], ns[i + 1], ns[i + 2], by simp, by simp, by simp, ?_⟩
  rw [show (i : Int).toNat = i by omega, show ((i : Int) + 3).toNat = i + 3 by omega, show min (i + 3) ns.length - i = 3 by omega]
  rw [List.drop_eq_getElem_cons (by omega), List.drop_eq_getElem_cons (by omega), List.drop_eq_getElem_cons (by omega)]
  rfl
theorem ints3 {ws : List Value} {a b c : Int} (h : IntsAre ws [a, b, c]) : ∃ t1 t2 t3, ws = [.int a t1, .int b t2, .int c t3] := by
  cases h with
  | cons _ t1 h => cases h with
    | cons _ t2 h => cases h with
      | cons _ t3 h => cases h; exact ⟨t1, t2, t3, rfl⟩
end Mine
namespace Mine

/-! the plain law: Knuth's exchanges leave the rows as they are -/
abbrev Srt (r : List Int) : Prop := r.Pairwise (· ≤ ·)

theorem bs_spec {p : Nat → Bool} {n : Nat} (mono : ∀ i j, i ≤ j → j < n → p i = true → p j = true) {lo hi : Nat} (hle : lo ≤ hi) (hn : hi ≤ n)
    (h1 : ∀ i, i < lo → p i = false) (h2 : ∀ i, hi ≤ i → i < n → p i = true) :
    (∀ i, i < bs p lo hi → p i = false) ∧ (∀ i, bs p lo hi ≤ i → i < n → p i = true) := by
  induction lo, hi using bs.induct p with
  | case1 lo hi h hp ih =>
    rw [bs_left h hp]
    exact ih (by omega) (by omega) h1 (fun i q q' => mono _ i q q' hp)
  | case2 lo hi h hp ih =>
    rw [bs_right h (by simpa using hp)]
    refine ih (by omega) (by omega) (fun i q => ?_) h2
    cases e : p i with
    | false => rfl
    | true => exact absurd (mono i ((lo + hi) / 2) (by omega) (by omega) e) (by simpa using hp)
  | case3 lo hi h =>
    rw [bs_done h]
    exact ⟨h1, fun i q q' => h2 i (by omega) q'⟩

def rowIns : List Int → Int → List Int × Option Int
  | [], x => ([x], none)
  | a :: r, x => if x < a then (x :: r, some a) else (a :: (rowIns r x).1, (rowIns r x).2)

theorem rowIns_at : ∀ (r : List Int) (x : Int) (k : Nat), k ≤ r.length → (∀ i, i < k → r.getD i 0 ≤ x) → (k < r.length → x < r.getD k 0) →
    rowIns r x = if k = r.length then (r ++ [x], none) else (r.set k x, some (r.getD k 0))
  | [], x, k, hk, _, _ => by
    have : k = 0 := by simpa using hk
    subst this
    simp [rowIns]
  | a :: r, x, 0, hk, h1, h2 => by
    have := h2 (by simp)
    simp at this
    simp [rowIns, this]
  | a :: r, x, k + 1, hk, h1, h2 => by
    have ha : ¬ x < a := by have := h1 0 (by omega); simp at this; omega
    have ih := rowIns_at r x k (by simpa using hk) (fun i hi => by simpa using h1 (i + 1) (by omega)) (fun h => by simpa using h2 (by simpa using h))
    unfold rowIns
    rw [if_neg ha, ih]
    by_cases e : k = r.length
    · simp [e]
    · simp [e]

theorem srt_getD {r : List Int} (h : Srt r) {i j : Nat} (hij : i ≤ j) (hj : j < r.length) : r.getD i 0 ≤ r.getD j 0 := by
  have e1 : r.getD i 0 = r[i] := by simp [List.getD, List.getElem?_eq_getElem (show i < r.length by omega)]
  have e2 : r.getD j 0 = r[j] := by simp [List.getD, List.getElem?_eq_getElem hj]
  rw [e1, e2]
  by_cases e : i = j
  · subst e; exact Int.le_refl _
  · exact List.pairwise_iff_getElem.mp h i j (by omega) hj (by omega)

theorem rowIns_bis {r : List Int} (h : Srt r) (x : Int) : rowIns r x = if bisR r x = r.length then (r ++ [x], none) else (r.set (bisR r x) x, some (r.getD (bisR r x) 0)) := by
  have sp := bs_spec (p := fun i => decide (x < r.getD i 0)) (n := r.length) (fun i j hij hj hp => by
    have := srt_getD h hij hj
    simp only [decide_eq_true_eq] at hp ⊢
    omega) (lo := 0) (hi := r.length) (Nat.zero_le _) (Nat.le_refl _) (fun i hi => absurd hi (Nat.not_lt_zero _)) (fun i q q' => by omega)
  refine rowIns_at r x (bisR r x) (bisR_le r x) (fun i hi => ?_) (fun hk => ?_)
  · have := sp.1 i hi
    simp only [decide_eq_false_iff_not] at this
    omega
  · have := sp.2 (bisR r x) (Nat.le_refl _) hk
    simpa using this

def insP : List (List Int) → Int → List (List Int)
  | [], x => [[x]]
  | r :: rs, x => match (rowIns r x).2 with
    | none => (rowIns r x).1 :: rs
    | some y => (rowIns r x).1 :: insP rs y

theorem insT_insP : ∀ (T : List (List Int)) (x : Int), (∀ r ∈ T, Srt r) → insT T x = insP T x
  | [], x, _ => rfl
  | r :: T, x, h => by
    unfold insT insP
    rw [rowIns_bis (h r (.head _)) x]
    by_cases e : bisR r x = r.length
    · simp [e]
    · simp only [e, if_false]
      rw [insT_insP T _ (fun q hq => h q (.tail _ hq))]

/-- what stands in a row behind an insertion, and what is pushed out -/
theorem rowIns_mem : ∀ {r : List Int} {x : Int} {e : Int}, e ∈ (rowIns r x).1 → e = x ∨ e ∈ r
  | [], x, e, h => by simp [rowIns] at h; exact .inl h
  | a :: r, x, e, h => by
    unfold rowIns at h
    split at h
    · rcases List.mem_cons.mp h with h | h
      · exact .inl h
      · exact .inr (.tail _ h)
    · rcases List.mem_cons.mp h with h | h
      · exact .inr (by rw [h]; exact .head _)
      · exact (rowIns_mem h).imp id (fun q => .tail _ q)
theorem rowIns_self : ∀ (r : List Int) (x : Int), x ∈ (rowIns r x).1
  | [], x => by simp [rowIns]
  | a :: r, x => by
    unfold rowIns
    split
    · exact .head _
    · exact .tail _ (rowIns_self r x)
theorem rowIns_out : ∀ {r : List Int} {x y : Int}, (rowIns r x).2 = some y → y ∈ r ∧ x < y
  | [], x, y, h => by simp [rowIns] at h
  | a :: r, x, y, h => by
    unfold rowIns at h
    split at h
    · rename_i hx
      simp only [Option.some.injEq] at h
      subst h
      exact ⟨.head _, hx⟩
    · have := rowIns_out h
      exact ⟨.tail _ this.1, this.2⟩
theorem rowIns_srt : ∀ {r : List Int} (x : Int), Srt r → Srt (rowIns r x).1
  | [], x, _ => by simp [rowIns]
  | a :: r, x, h => by
    have h' := List.pairwise_cons.mp h
    unfold rowIns
    split
    · refine List.pairwise_cons.mpr ⟨fun e he => ?_, h'.2⟩
      have := h'.1 e he
      omega
    · refine List.pairwise_cons.mpr ⟨fun e he => ?_, rowIns_srt x h'.2⟩
      rcases rowIns_mem he with rfl | he
      · omega
      · exact h'.1 e he
/-- where something greater stands, something is pushed out, and it is the least such -/
theorem rowIns_some : ∀ {r : List Int} {x e : Int}, Srt r → e ∈ r → x < e → ∃ y, (rowIns r x).2 = some y ∧ y ≤ e
  | a :: r, x, e, h, he, hx => by
    have h' := List.pairwise_cons.mp h
    unfold rowIns
    split
    · refine ⟨a, rfl, ?_⟩
      rcases List.mem_cons.mp he with rfl | he
      · exact Int.le_refl _
      · exact h'.1 e he
    · rcases List.mem_cons.mp he with rfl | he
      · omega
      · exact rowIns_some h'.2 he hx
/-- two in rising order: nothing behind nothing; and what is pushed out rises -/
theorem rowIns_two : ∀ {r : List Int} {y z : Int}, Srt r → y ≤ z →
    ((rowIns r y).2 = none → (rowIns (rowIns r y).1 z).2 = none) ∧ (∀ y' z', (rowIns r y).2 = some y' → (rowIns (rowIns r y).1 z).2 = some z' → y' ≤ z')
  | [], y, z, _, hyz => by
    have : ¬ z < y := by omega
    simp [rowIns, this]
  | a :: r, y, z, h, hyz => by
    have h' := List.pairwise_cons.mp h
    by_cases hy : y < a
    · have hz : ¬ z < y := by omega
      refine ⟨fun q => by simp [rowIns, hy] at q, fun y' z' q1 q2 => ?_⟩
      simp only [rowIns, if_pos hy, Option.some.injEq] at q1
      subst q1
      simp only [rowIns, if_pos hy, if_neg hz] at q2
      exact h'.1 z' (rowIns_out q2).1
    · have hz : ¬ z < a := by omega
      have ih := rowIns_two (r := r) h'.2 hyz
      simp only [rowIns, if_neg hy, if_neg hz]
      exact ih

/-- a word put into one row: the row, and what is pushed out, in order -/
def rowW : List Int → List Int → List Int × List Int
  | r, [] => (r, [])
  | r, x :: w => ((rowW (rowIns r x).1 w).1, (rowIns r x).2.toList ++ (rowW (rowIns r x).1 w).2)

inductive Kn : List Int → List Int → Prop
  | refl (u : List Int) : Kn u u
  | k1 (x y z : Int) : x < y → y ≤ z → Kn [y, z, x] [y, x, z]
  | k2 (x y z : Int) : x ≤ y → y < z → Kn [x, z, y] [z, x, y]

theorem row_k1 : ∀ {r : List Int} {x y z : Int}, Srt r → x < y → y ≤ z → (rowW r [y, z, x]).1 = (rowW r [y, x, z]).1 ∧ Kn (rowW r [y, z, x]).2 (rowW r [y, x, z]).2
  | [], x, y, z, _, hxy, hyz => by
    have h1 : ¬ z < y := by omega
    have h2 : ¬ z < x := by omega
    simp [rowW, rowIns, hxy, h1, h2]
    exact .refl _
  | a :: r, x, y, z, h, hxy, hyz => by
    have h' := List.pairwise_cons.mp h
    by_cases hy : y < a
    · have h1 : ¬ z < y := by omega
      have h2 : ¬ z < x := by omega
      simp only [rowW, rowIns, if_pos hy, if_neg h1, if_pos hxy, if_neg h2, Option.toList]
      refine ⟨by trivial, ?_⟩
      cases e : (rowIns r z).2 with
      | none => exact .refl _
      | some z' =>
        exact .k1 y a z' hy (h'.1 z' (rowIns_out e).1)
    · have hz : ¬ z < a := by omega
      by_cases hx : x < a
      · have h2 : ¬ z < x := by omega
        simp only [rowW, rowIns, if_neg hy, if_neg hz, if_pos hx, if_neg h2, Option.toList]
        refine ⟨by trivial, ?_⟩
        have two := rowIns_two (r := r) h'.2 hyz
        cases e1 : (rowIns r y).2 with
        | none =>
          rw [two.1 e1]
          exact .refl _
        | some y' =>
          cases e2 : (rowIns (rowIns r y).1 z).2 with
          | none => exact .refl _
          | some z' =>
            have := (rowIns_out e1).2
            exact .k1 a y' z' (by omega) (two.2 y' z' e1 e2)
      · have ih := row_k1 (r := r) h'.2 hxy hyz
        simp only [rowW, rowIns, if_neg hy, if_neg hz, if_neg hx] at ih ⊢
        exact ⟨by rw [ih.1], ih.2⟩

theorem row_k2 : ∀ {r : List Int} {x y z : Int}, Srt r → x ≤ y → y < z → (rowW r [x, z, y]).1 = (rowW r [z, x, y]).1 ∧ (Kn (rowW r [x, z, y]).2 (rowW r [z, x, y]).2)
  | [], x, y, z, _, hxy, hyz => by
    have h1 : ¬ z < x := by omega
    have h2 : x < z := by omega
    have h3 : ¬ y < x := by omega
    simp [rowW, rowIns, h1, h2, h3, hyz]
    exact .refl _
  | a :: r, x, y, z, h, hxy, hyz => by
    have h' := List.pairwise_cons.mp h
    have hzx : ¬ z < x := by omega
    have hyx : ¬ y < x := by omega
    have hxz : x < z := by omega
    by_cases hz : z < a
    · have hx : x < a := by omega
      cases r with
      | nil =>
        simp [rowW, rowIns, hz, hx, hzx, hyx, hxz, hyz]
        exact .refl _
      | cons b r =>
        have hab := h'.1 b (.head _)
        have hzb : z < b := by omega
        have hyb : y < b := by omega
        simp only [rowW, rowIns, if_pos hz, if_pos hx, if_neg hzx, if_neg hyx, if_pos hxz, if_pos hyz, if_pos hzb, if_pos hyb, Option.toList]
        exact ⟨by trivial, .k1 z a b hz hab⟩
    · by_cases hx : x < a
      · simp only [rowW, rowIns, if_neg hz, if_pos hx, if_neg hzx, if_neg hyx, Option.toList]
        refine ⟨by trivial, ?_⟩
        obtain ⟨y', ey, hy'⟩ := rowIns_some (rowIns_srt z h'.2) (rowIns_self r z) hyz
        rw [ey]
        cases e : (rowIns r z).2 with
        | none => exact .refl _
        | some z' =>
          have h1 := rowIns_out e
          have h2 := rowIns_out ey
          refine .k2 a y' z' ?_ (by omega)
          rcases rowIns_mem h2.1 with q | q
          · omega
          · exact h'.1 y' q
      · have hy : ¬ y < a := by omega
        have ih := row_k2 (r := r) h'.2 hxy hyz
        simp only [rowW, rowIns, if_neg hy, if_neg hz, if_neg hx] at ih ⊢
        exact ⟨by rw [ih.1], ih.2⟩

theorem foldl_row : ∀ (w : List Int) (r : List Int) (T : List (List Int)), w.foldl insP (r :: T) = (rowW r w).1 :: (rowW r w).2.foldl insP T
  | [], r, T => rfl
  | x :: w, r, T => by
    simp only [List.foldl_cons, rowW]
    conv => lhs; arg 2; unfold insP
    cases e : (rowIns r x).2 with
    | none => simp [foldl_row w]
    | some y => simp [foldl_row w]

theorem kn_fold : ∀ (T : List (List Int)) {u v : List Int}, (∀ r ∈ T, Srt r) → Kn u v → u.foldl insP T = v.foldl insP T
  | _, _, _, _, .refl u => rfl
  | [], _, _, _, .k1 x y z h1 h2 => by
    have a1 : ¬ z < y := by omega
    have a2 : ¬ z < x := by omega
    simp [insP, rowIns, h1, a1, a2]
  | [], _, _, _, .k2 x y z h1 h2 => by
    have a1 : ¬ z < x := by omega
    have a2 : x < z := by omega
    have a3 : ¬ y < x := by omega
    simp [insP, rowIns, a1, a2, a3, h2]
  | r :: T, _, _, h, .k1 x y z h1 h2 => by
    rw [foldl_row, foldl_row]
    have k := row_k1 (h r (.head _)) h1 h2
    rw [k.1, kn_fold T (fun q hq => h q (.tail _ hq)) k.2]
  | r :: T, _, _, h, .k2 x y z h1 h2 => by
    rw [foldl_row, foldl_row]
    have k := row_k2 (h r (.head _)) h1 h2
    rw [k.1, kn_fold T (fun q hq => h q (.tail _ hq)) k.2]

theorem insP_srt : ∀ {T : List (List Int)} (x : Int), (∀ r ∈ T, Srt r) → ∀ r ∈ insP T x, Srt r
  | [], x, _ => by simp [insP]
  | r :: T, x, h => by
    have h1 := rowIns_srt x (h r (.head _))
    unfold insP
    intro q hq
    split at hq
    · rcases List.mem_cons.mp hq with rfl | hq
      · exact h1
      · exact h q (.tail _ hq)
    · rcases List.mem_cons.mp hq with rfl | hq
      · exact h1
      · exact insP_srt _ (fun q hq => h q (.tail _ hq)) q hq

theorem fold_srt : ∀ (w : List Int) {T : List (List Int)}, (∀ r ∈ T, Srt r) → (∀ r ∈ w.foldl insP T, Srt r) ∧ w.foldl insT T = w.foldl insP T
  | [], T, h => ⟨h, rfl⟩
  | x :: w, T, h => by
    simp only [List.foldl_cons]
    rw [insT_insP T x h]
    exact fold_srt w (insP_srt x h)

theorem fold_kn (u v p q : List Int) (h : Kn p q) : (u ++ p ++ v).foldl insT [] = (u ++ q ++ v).foldl insT [] := by
  rw [(fold_srt _ (by simp)).2, (fold_srt _ (by simp)).2]
  simp only [List.foldl_append]
  rw [kn_fold _ (fold_srt u (by simp)).1 h]

theorem three_split (ns : List Int) (i : Nat) (a b c : Int) (h0 : ns[i]? = some a) (h1 : ns[i+1]? = some b) (h2 : ns[i+2]? = some c) : ns = ns.take i ++ [a, b, c] ++ ns.drop (i + 3) := by
  have l2 := (List.getElem?_eq_some_iff.mp h2).1
  have e0 : ns.drop i = a :: b :: c :: ns.drop (i + 3) := by
    rw [List.drop_eq_getElem_cons (by omega), List.drop_eq_getElem_cons (by omega), List.drop_eq_getElem_cons (by omega)]
    have q0 := (List.getElem?_eq_some_iff.mp h0).2
    have q1 := (List.getElem?_eq_some_iff.mp h1).2
    have q2 := (List.getElem?_eq_some_iff.mp h2).2
    rw [q0, q1, q2]
  have := List.take_append_drop i ns
  rw [e0] at this
  simpa using this.symm

theorem knuth1 (ns : List Int) (i : Nat) (a b c : Int) (h0 : ns[i]? = some a) (h1 : ns[i+1]? = some b) (h2 : ns[i+2]? = some c) (hm : min b c < a) (hM : a ≤ max b c) :
    (ns.take i ++ [a, c, b] ++ ns.drop (i + 3)).foldl insT [] = ns.foldl insT [] := by
  conv => rhs; rw [three_split ns i a b c h0 h1 h2]
  by_cases hbc : b < c
  · exact fold_kn _ _ _ _ (.k1 b a c (by omega) (by omega))
  · exact (fold_kn _ _ _ _ (.k1 c a b (by omega) (by omega))).symm
theorem knuth2 (ns : List Int) (i : Nat) (a b c : Int) (h0 : ns[i]? = some a) (h1 : ns[i+1]? = some b) (h2 : ns[i+2]? = some c) (hm : min a b ≤ c) (hM : c < max a b) :
    (ns.take i ++ [b, a, c] ++ ns.drop (i + 3)).foldl insT [] = ns.foldl insT [] := by
  conv => rhs; rw [three_split ns i a b c h0 h1 h2]
  by_cases hab : a < b
  · exact (fold_kn _ _ _ _ (.k2 a c b (by omega) (by omega))).symm
  · exact fold_kn _ _ _ _ (.k2 b c a (by omega) (by omega))
end Mine
namespace Mine
open_top hd02 for PySem.Challenge.rw_cy0003_02
end Mine
namespace Mine
theorem fillK : (∀ p : Program, p = PySem.Challenge.rw_cy0003_02.prog → p = p) ∧ hd02.heap_39 = hd02.heap_39 := by
  k_fill
  exact ⟨fun _ _ => rfl, rfl⟩

theorem bisR_call {w : World} {A : Around} {E : Value → Shared → Prop} {s : Shared} {Q : Value → Shared → Prop} {mg mb : Str → Option Value} {p : Program} {loose : List Str} {l : Addr} {vs : List Value} {ns : List Int} {x : Int} {t : Tok}
    (X : (hd02.heap_39 w.params).In s.heap) (T : TopRead p loose mg mb s.heap) (hroom : A.depth + 10 < recursionLimit)
    (hl : s.heap.IsList l vs.toArray) (hi₀ : IntsAre vs ns) (hlen : ns.length < 2 ^ 60)
    (hQ : ∀ h' tk t', Kept s.heap h' → Q (.int (bs (fun i => decide (x < ns.getD i 0)) 0 ns.length : Nat) t') { s with heap := h', toks := tk }) :
    wpAny (model PySem.Challenge.rw_cy0003_02.prog w) A (call (.ref 23) [.ref l, .int x t] []) Q E s := by
  refine' enter0 (K := hd02.heap_39 w.params) (binds := [(Str.ofString "a", .ref l), (Str.ofString "x", .int x t), (Str.ofString "lo", .int 0 189), (Str.ofString "hi", .none), (Str.ofString "key", .none)]) X T.nolimit (by omega) ?ho ?hcd ?hb ?hl ?_ ?c1 ?c2 ?c3 ?c4
  case ho => exact rfl
  case hcd => exact rfl
  case hb =>
    refine' binds_kw (T := 15) (D := 16) (X _ _ rfl) rfl (X _ _ rfl) ?h1 ?h2 ?h3
    case h1 => exact rfl
    case h2 => exact rfl
    case h3 => exact rfl
  case hl => exact locs rfl
  case c1 => exact rfl
  case c2 => exact rfl
  case c3 => exact rfl
  case c4 => decide
  intro h₁ tk F
  have N : News s.heap s.heap.objs.size h₁ [] := News.nil
  w_on
  iterate 39 (first | walk1 | (dsimp only; walk1))
  have hsz : vs.length = ns.length := hi₀.length
  (rename Fr _ _ _ _ => F2); (rename News _ _ _ _ => N2)
  refine While_inv (J := fun n m' news => news = [] ∧ ∃ (lo hi : Nat) (t1 t2 : Tok), lo ≤ hi ∧ hi ≤ ns.length ∧ n = hi - lo ∧ m' (Str.ofString "a") = some (.ref l) ∧ m' (Str.ofString "x") = some (.int x t) ∧ m' (Str.ofString "lo") = some (.int lo t1) ∧ m' (Str.ofString "hi") = some (.int hi t2) ∧ bs (fun i => decide (x < ns.getD i 0)) lo hi = bs (fun i => decide (x < ns.getD i 0)) 0 ns.length) (n₀ := ns.length) F2 N2 ?_ ?_
  · exact ⟨rfl, 0, ns.length, _, _, Nat.zero_le _, Nat.le_refl _, rfl, rfl, rfl, rfl, rfl, rfl⟩
  · rintro n m₁ news₁ h₁ tk₁ F₁ N₁ ⟨rfl, lo, hi, t1, t2, hle, hhi, rfl, ha, hx, hlo, hhi', hbs⟩
    replace F₁ := fr_put (Str.ofString "hi") (fr_put (Str.ofString "lo") (fr_put (Str.ofString "x") (fr_put (Str.ofString "a") F₁ ha) hx) hlo) hhi'
    iterate 5 (first | walk1 | (dsimp only; walk1))
    have hmid : (lo + hi) / 2 < ns.length ∨ ¬ lo < hi := by omega
    by_cases hlt : lo < hi
    · rw [if_pos (by simpa using hlt)]
      iterate 17 (first | walk1 | (dsimp only; walk1))
      rw [fdiv2 lo hi]
      (rename Fr _ _ _ _ => F3); (rename News _ _ _ _ => N3)
      refine item_anyK (F3.lst hl) hi₀ (by omega) (by omega) (by omega) (fun t4 => ?_) (by with_unfolding_all rfl)
      rw [Int.toNat_natCast]
      iterate 2 (first | walk1 | (dsimp only; walk1))
      by_cases hc : x < ns.getD ((lo + hi) / 2) 0
      · rw [if_pos (by simpa using hc)]
        iterate 7 (first | walk1 | (dsimp only; walk1))
        (rename Fr _ _ _ _ => F4); (rename News _ _ _ _ => N4)
        refine WhileStep.intro F4 N4 ?_ ⟨rfl, lo, (lo + hi) / 2, _, _, by omega, by omega, rfl, rfl, rfl, rfl, (congrArg (fun z => some (Value.int z _)) (fdiv2 lo hi)), (bs_left hlt (by simpa using hc)).symm.trans hbs⟩
        omega
      · rw [if_neg (by simpa using hc)]
        iterate 10 (first | walk1 | (dsimp only; walk1))
        (rename Fr _ _ _ _ => F4); (rename News _ _ _ _ => N4)
        refine WhileStep.intro F4 N4 ?_ ⟨rfl, (lo + hi) / 2 + 1, hi, _, _, by omega, by omega, rfl, rfl, rfl, (congrArg (fun z => some (Value.int (z + 1) _)) (fdiv2 lo hi)), rfl, (bs_right hlt (by simpa using hc)).symm.trans hbs⟩
        omega
    · rw [if_neg (by simpa using hlt)]
      iterate 4 (first | walk1 | (dsimp only; walk1))
      dsimp only
      (rename Fr _ _ _ _ => F4)
      rw [← hbs, bs_done hlt] at hQ
      exact hQ _ _ _ F4.keep
end Mine
namespace Mine
theorem fillK2 : (∀ p : Program, p = PySem.Challenge.rw_cy0003_02.prog → p = p) ∧ hd02.heap_39 = hd02.heap_39 := by
  k_fill
  exact ⟨fun _ _ => rfl, rfl⟩

theorem ins_call {w : World} {A : Around} {E : Value → Shared → Prop} {s : Shared} {Q : Value → Shared → Prop} {mg mb : Str → Option Value} {p : Program} {loose : List Str} {g₀ : Heap} {R : Addr} {ep : Nat} {rows : List RowD} {x : Int} {t : Tok}
    (X : (hd02.heap_39 w.params).In g₀) (T : TopRead p loose mg mb g₀) (hk : Kept g₀ s.heap) (hroom : A.depth + 20 < recursionLimit) (hh : A.handled = none)
    (hT : ∀ p ∈ tabL R ep rows, s.heap.get? p.1 = some p.2 ∧ g₀.get? p.1 = none) (hint : ∀ r ∈ rows, IntsAre r.vs r.ns) (hnd : (R :: rows.map (·.a)).Nodup)
    (hlen : rows.length < 2 ^ 20) (hlens : ∀ r ∈ rows, r.ns.length < 2 ^ 20)
    (hQ : ∀ h' tk ep' rows', (∀ p ∈ tabL R ep' rows', h'.get? p.1 = some p.2) → (∀ r ∈ rows', IntsAre r.vs r.ns) → (R :: rows'.map (·.a)).Nodup → rows'.map (·.ns) = insT (rows.map (·.ns)) x →
      (∀ b o, s.heap.get? b = some o → b ∉ R :: rows.map (·.a) → h'.get? b = some o) → (∀ r ∈ rows', r.a ∈ rows.map (·.a) ∨ s.heap.get? r.a = none) → Q .none { s with heap := h', toks := tk }) :
    wpAny (model PySem.Challenge.rw_cy0003_02.prog w) A (call (.ref 30) [.ref R, .int x t] []) Q E s := by
  have hkH : Kept g₀ (hideAll s.heap (R :: rows.map (·.a))) := fun b o e => hideAll_get _ (hk b o e) fun q => by
    rcases List.mem_cons.mp q with q | q
    · have := (hT _ (.head _)).2
      rw [← q, e] at this; cases this
    · obtain ⟨r, hr, q⟩ := List.mem_map.mp q
      have := (hT _ (.tail _ (List.mem_map_of_mem (f := rowE) hr))).2
      rw [show (rowE r).1 = b from q, e] at this; cases this
  refine' enterH (K := hd02.heap_39 w.params) (binds := [(Str.ofString "rows", .ref R), (Str.ofString "x", .int x t)]) (R :: rows.map (·.a)) (X.keeps hkH) (T.nolimit.keeps hkH) (by omega) ?ho ?hcd ?hb ?hl ?_ ?c1 ?c2 ?c3 ?c4
  case ho => exact rfl
  case hcd => exact rfl
  case hb => exact BindsTo.of_eq rfl
  case hl => exact locs rfl
  case c1 => exact rfl
  case c2 => exact rfl
  case c3 => exact rfl
  case c4 => decide
  intro h₁ tk F hk₁
  have N : News (hideAll s.heap (R :: rows.map (·.a))) s.heap.objs.size h₁ (tabL R ep rows) := fun p hp => by
    have hp1 := (hT p hp).1
    refine ⟨hk₁ _ _ hp1, Nat.ne_of_lt (Heap.lt_size hp1), hideAll_none _ ?_⟩
    rcases List.mem_cons.mp hp with rfl | hp
    · exact .head _
    · obtain ⟨r, hr, rfl⟩ := List.mem_map.mp hp
      exact .tail _ (List.mem_map_of_mem (f := fun r => r.a) hr)
  have XH := X.keeps hkH
  have TH := T.keeps hkH
  have hgS : ∀ b o, s.heap.get? b = some o → b ∉ R :: rows.map (·.a) → (hideAll s.heap (R :: rows.map (·.a))).get? b = some o := fun b o e q => hideAll_get _ e q
  generalize hideAll s.heap (R :: rows.map (·.a)) = g at *
  w_on
  iterate 1 (first | walk1 | (dsimp only; walk1))
  refine For_invVF F rfl rfl ?_
  iterate 1 (first | walk1 | (dsimp only; walk1))
  refine iter_led (fun i m nx => ∃ pre post, pre.length = i ∧ nx = tabL R ep (pre ++ post) ∧ (pre ++ post).map (·.a) = rows.map (·.a) ∧ (∀ r ∈ pre ++ post, IntsAre r.vs r.ns ∧ r.ns.length < 2 ^ 20) ∧
    ∃ xi ti, m (Str.ofString "x") = some (.int xi ti) ∧ m (Str.ofString "rows") = some (.ref R) ∧ insT (rows.map (·.ns)) x = pre.map (·.ns) ++ insT (post.map (·.ns)) xi) (vs := (rows.map (·.a)).map Value.ref) (nn := ep) hh rfl rfl (hk₁ _ _ (hT _ (.head _)).1) ?_ F N ?_ ?_ ?_ ?_
  · exact (N _ (.head _)).2.1
  · exact ⟨[], rows, rfl, rfl, rfl, fun r hr => ⟨hint r hr, hlens r hr⟩, x, t, rfl, rfl, rfl⟩
  · rintro i m nx ⟨pre, post, _, rfl, ha, _⟩
    refine .inl ?_
    unfold tabL
    rw [ha]
    exact .head _
  · rintro i v m₁ nx h tk₁ I oI hv ⟨pre, post, hi, rfl, ha, hint', xi, ti, hx, hR, hins⟩ hoff hIlt F₁ N₁
    replace F₁ := fr_put (Str.ofString "rows") (fr_put (Str.ofString "x") F₁ hx) hR
    have hlenp : (pre ++ post).length = rows.length := by simpa using congrArg List.length ha
    have hilt : i < rows.length := by
      have := (List.getElem?_eq_some_iff.mp hv).1
      simpa using this
    obtain ⟨r, post', rfl⟩ : ∃ r post', post = r :: post' := by
      cases post with
      | nil => simp at hlenp; omega
      | cons r q => exact ⟨r, q, rfl⟩
    have hra : v = .ref r.a := by
      rw [← ha] at hv
      simp only [List.map_append, List.map_cons] at hv
      rw [List.getElem?_append_right (by simp [hi])] at hv
      simp [hi] at hv
      exact hv.symm
    subst hra
    iterate 11 (first | walk1 | (dsimp only; walk1))
    have hmemr : rowE r ∈ tabL R ep (pre ++ r :: post') ++ [(I, oI)] := List.mem_append_left _ (.tail _ (List.mem_map_of_mem (f := rowE) (by simp)))
    have hr2 := hint' r (by simp)
    have hlr : h.IsList r.a r.vs.toArray := ⟨_, (N₁ _ hmemr).1, rfl, r.ep, rfl⟩
    refine bisR_call (XH.keeps F₁.keep) (TH.keeps F₁.keep) (by rw [depth_deeper]; omega) hlr hr2.1 (by omega) ?_
    intro h2 tk2 t2 hk2
    replace F₁ := frKept F₁ hk2
    replace N₁ := newsKept N₁ hk2
    have hnd' : (R :: (pre ++ r :: post').map (·.a)).Nodup := by rw [ha]; exact hnd
    have hdec : tabL R ep (pre ++ r :: post') ++ [(I, oI)] = ((R, listOf (((pre ++ r :: post').map (·.a)).map Value.ref).toArray ep) :: pre.map rowE) ++ (r.a, listOf r.vs.toArray r.ep) :: (post'.map rowE ++ [(I, oI)]) := tabL_mid ..
    have hnd2 := List.nodup_cons.mp hnd'
    have hnd3 := List.nodup_append.mp (by simpa using hnd2.2 : (pre.map (·.a) ++ r.a :: post'.map (·.a)).Nodup)
    have hd1 : ∀ p ∈ ((R, listOf (((pre ++ r :: post').map (·.a)).map Value.ref).toArray ep) :: pre.map rowE), p.1 ≠ r.a := by
      intro p hp e
      rcases List.mem_cons.mp hp with rfl | hp
      · exact hnd2.1 (by rw [show R = r.a from e]; simp)
      · obtain ⟨q, hq, rfl⟩ := List.mem_map.mp hp
        exact hnd3.2.2 q.a (List.mem_map_of_mem (f := fun r => r.a) hq) r.a (.head _) e
    have hd2 : ∀ p ∈ post'.map rowE ++ [(I, oI)], p.1 ≠ r.a := by
      intro p hp e
      rcases List.mem_append.mp hp with hp | hp
      · obtain ⟨q, hq, rfl⟩ := List.mem_map.mp hp
        exact (List.nodup_cons.mp hnd3.2.1).1 (by rw [← show q.a = r.a from e]; exact List.mem_map_of_mem (f := fun r => r.a) hq)
      · rw [List.mem_singleton.mp hp] at e
        exact hoff (rowE r) (.tail _ (List.mem_map_of_mem (f := rowE) (by simp))) e.symm
    replace hlr : h2.IsList r.a r.vs.toArray := ⟨_, (N₁ _ hmemr).1, rfl, r.ep, rfl⟩
    iterate 12 (first | walk1 | (dsimp only; walk1))
    (rename Fr _ _ _ _ => F3); (rename News _ _ _ _ => N3)
    refine len_ints_fit (l := r.a) (vs := r.vs) ⟨_, (N3 _ hmemr).1, rfl, r.ep, rfl⟩ hr2.1 (by omega) ?_
    iterate 2 (first | walk1 | (dsimp only; walk1))
    by_cases hc : bisR r.ns xi = r.ns.length
    · rw [if_pos (by exact decide_eq_true (congrArg (Nat.cast (R := Int)) hc))]
      iterate 5 (first | walk1 | (dsimp only; walk1))
      refine kl_method N3 hmemr PySem.F.slot_list_append PySem.F.type_list_append ?_
      iterate 4 (first | walk1 | (dsimp only; walk1))
      rw [hdec] at N3
      refine append_K F3 N3 (upd_mid hd1 hd2) ?_ (by rw [List.size_toArray, hr2.1.length, sizeLine_eq]; omega)
      intro h3 F4 N4
      iterate 3 (first | walk1 | (dsimp only; walk1))
      have N4' : News g s.heap.objs.size h3 (tabL R ep (pre ++ { r with vs := r.vs ++ [.int xi ti], ns := r.ns ++ [xi], ep := r.ep + 1 } :: post') ++ [(I, oI)]) := by
        rw [tabL_mid]
        simpa using N4
      refine hQ h3 _ ep (pre ++ { r with vs := r.vs ++ [.int xi ti], ns := r.ns ++ [xi], ep := r.ep + 1 } :: post') ?_ ?_ ?_ ?_ ?_ ?_
      · intro p hp
        refine (N4' p (List.mem_append_left _ hp)).1
      · intro q hq
        rcases List.mem_append.mp hq with hq | hq
        · exact (hint' q (List.mem_append_left _ hq)).1
        · rcases List.mem_cons.mp hq with rfl | hq
          · exact hr2.1.append (.cons _ _ .nil)
          · exact (hint' q (by simp [hq])).1
      · simpa using hnd'
      · rw [hins]
        simp [insT, hc]
      · intro b o hb hq
        exact F4.keep b o (hgS b o hb hq)
      · intro q hq
        refine .inl ?_
        rw [← ha]
        simp only [List.map_append, List.map_cons, List.mem_append, List.mem_cons, List.mem_map] at hq ⊢
        rcases hq with hq | rfl | hq
        · exact .inl ⟨q, hq, rfl⟩
        · exact .inr (.inl rfl)
        · exact .inr (.inr ⟨q, hq, rfl⟩)
    · have hc' : bisR r.ns xi < r.ns.length := Nat.lt_of_le_of_ne (bisR_le _ _) hc
      rw [if_neg (by exact fun q => hc (Int.ofNat.inj (of_decide_eq_true q)))]
      iterate 11 (first | walk1 | (dsimp only; walk1))
      refine item_anyK (vs := r.vs) (ns := r.ns) ⟨_, (N3 _ hmemr).1, rfl, r.ep, rfl⟩ hr2.1 (by omega) (by exact Int.ofNat_lt.mpr hc') (by have := hr2.2; unfold bisR at hc'; omega) (fun t4 => ?_) (by with_unfolding_all rfl)
      iterate 2 (first | walk1 | (dsimp only; walk1))
      (rename Fr _ _ _ _ => F5); (rename News _ _ _ _ => N5)
      refine unpackN_ F5 N5 (News.isTup N5 (.head _)) hh rfl rfl ?_
      intro h6 F6 N6
      replace N6 : News g s.heap.objs.size h6 (tabL R ep (pre ++ r :: post') ++ [(I, oI)]) := fun p hp => N6 p (.tail _ hp)
      clear F5 N5
      iterate 4 (first | walk1 | (dsimp only; walk1))
      rw [hdec] at N6
      refine ksa_set (vs := r.vs) (ns := r.ns) F6 N6 (upd_mid hd1 hd2) hr2.1 (by omega) (by exact Int.ofNat_lt.mpr hc') (by have := hr2.2; unfold bisR at hc'; omega) ?_
      intro h7 F7 N7 hi7 hl7 _
      replace N7 : News g s.heap.objs.size h7 (tabL R ep (pre ++ { r with vs := r.vs.set (bisR r.ns xi) (.int xi ti), ns := r.ns.set (bisR r.ns xi) xi } :: post') ++ [(I, oI)]) := by
        rw [tabL_mid]
        simpa [bisR] using N7
      clear F6 N6
      iterate 6 (first | walk1 | (dsimp only; walk1))
      (rename Fr _ _ _ _ => F8); (rename News _ _ _ _ => N8)
      refine ⟨_, _, _, _, rfl, F8, N8, ?_, pre ++ [{ r with vs := r.vs.set (bisR r.ns xi) (.int xi ti), ns := r.ns.set (bisR r.ns xi) xi }], post', ?_, ?_, ?_, ?_, _, _, rfl, rfl, ?_⟩
      · intro p hp
        rcases List.mem_cons.mp hp with rfl | hp
        · have h0 : R ≠ I := hoff (R, _) (List.Mem.head _)
          exact h0
        · obtain ⟨q, hq, rfl⟩ := List.mem_map.mp hp
          have hq' : q.a ∈ (pre ++ r :: post').map (·.a) := by
            have := List.mem_map_of_mem (f := fun r : RowD => r.a) hq
            simpa using this
          obtain ⟨q', hq2, e⟩ := List.mem_map.mp hq'
          have := hoff (rowE q') (.tail _ (List.mem_map_of_mem (f := rowE) hq2))
          exact fun z => this (e.trans z)
      · simp [hi]
      · simp
      · simpa using ha
      · intro q hq
        simp only [List.append_assoc, List.cons_append, List.nil_append, List.mem_append, List.mem_cons] at hq
        rcases hq with hq | rfl | hq
        · exact hint' q (by simp [hq])
        · exact ⟨by simpa [bisR] using hi7, by simpa using hr2.2⟩
        · exact hint' q (by simp [hq])
      · rw [hins]
        simp only [List.map_cons, insT, if_neg hc]
        simp [bisR]
  · rintro m₁ nx h tk₁ ⟨pre, post, hi, rfl, ha, hint', xi, ti, hx, hR, hins⟩ F₁ N₁
    replace F₁ := fr_put (Str.ofString "rows") (fr_put (Str.ofString "x") F₁ hx) hR
    obtain rfl : post = [] := by
      have := congrArg List.length ha
      simp at this hi
      exact List.eq_nil_of_length_eq_zero (by omega)
    simp only [List.append_nil] at ha hint' N₁
    iterate 4 (first | walk1 | (dsimp only; walk1))
    refine kl_method N₁ (.head _) PySem.F.slot_list_append PySem.F.type_list_append ?_
    iterate 8 (first | walk1 | (dsimp only; walk1))
    (rename Fr _ _ _ _ => F9); (rename News _ _ _ _ => N9); (rename (∀ p ∈ _, _ < _) => hl9)
    rename_i l9 h9
    have hnd' : (R :: pre.map (·.a)).Nodup := by rw [ha]; exact hnd
    have hR9 : R < l9 := hl9 (R, _) (List.Mem.head _)
    refine append_K F9 N9 (news' := (l9, listOf [Value.int xi ti].toArray 0) :: (R, _) :: pre.map rowE) (.tail (Nat.ne_of_gt hR9) (.head ?_)) ?_ ?_
    · intro p hp e
      obtain ⟨q, hq, rfl⟩ := List.mem_map.mp hp
      exact (List.nodup_cons.mp hnd').1 (by rw [← show q.a = R from e]; exact List.mem_map_of_mem (f := fun r : RowD => r.a) hq)
    · intro h10 F10 N10
      iterate 2 (first | walk1 | (dsimp only; walk1))
      have hfresh : g.get? l9 = none := (N10 _ (.head _)).2.2
      refine hQ h10 _ (ep + 1) (pre ++ [⟨l9, [.int xi ti], [xi], 0⟩]) ?_ ?_ ?_ ?_ ?_ ?_
      · intro p hp
        refine (N10 p ?_).1
        simp only [tabL, rowE, List.map_append, List.map_cons, List.map_nil, List.mem_cons, List.mem_append] at hp ⊢
        rcases hp with rfl | hp | rfl | hp
        · exact .inr (.inl (by simp))
        · exact .inr (.inr hp)
        · exact .inl rfl
        · exact absurd hp List.not_mem_nil
      · intro q hq
        rcases List.mem_append.mp hq with hq | hq
        · exact (hint' q hq).1
        · rw [List.mem_singleton.mp hq]
          exact .cons _ _ .nil
      · have : ∀ r ∈ pre, r.a < l9 := fun r hr => hl9 (rowE r) (.tail _ (List.mem_map_of_mem (f := rowE) hr))
        rw [List.map_append, ← List.cons_append, List.nodup_append]
        refine ⟨hnd', by simp, ?_⟩
        intro a ha b hb
        simp at hb
        subst hb
        rcases List.mem_cons.mp ha with rfl | ha
        · exact Nat.ne_of_lt hR9
        · obtain ⟨q, hq, rfl⟩ := List.mem_map.mp ha
          exact Nat.ne_of_lt (this q hq)
      · rw [hins]
        simp [insT]
      · intro b o hb hq
        exact F10.keep b o (hgS b o hb hq)
      · intro q hq
        rcases List.mem_append.mp hq with hq | hq
        · exact .inl (by rw [← ha]; exact List.mem_map_of_mem (f := fun r : RowD => r.a) hq)
        · rw [List.mem_singleton.mp hq]
          refine .inr ?_
          cases e : s.heap.get? l9 with
          | none => rfl
          | some o =>
            have := hgS l9 o e (fun q => by
              rcases List.mem_cons.mp q with q | q
              · exact absurd q (Nat.ne_of_gt hR9)
              · rw [← ha] at q
                obtain ⟨z, hz, e2⟩ := List.mem_map.mp q
                exact absurd (hl9 (rowE z) (.tail _ (List.mem_map_of_mem (f := rowE) hz))) (by rw [show (rowE z).1 = l9 from e2]; exact Nat.lt_irrefl _))
            rw [hfresh] at this; cases this
    · have := congrArg List.length ha
      simp at this
      rw [sizeLine_eq]
      simp
      omega
end Mine
namespace Mine
theorem fillK3 : (∀ p : Program, p = PySem.Challenge.rw_cy0003_02.prog → p = p) ∧ hd02.heap_39 = hd02.heap_39 := by
  k_fill
  exact ⟨fun _ _ => rfl, rfl⟩

theorem tab_call {w : World} {A : Around} {E : Value → Shared → Prop} {s : Shared} {Q : Value → Shared → Prop} {mg mb : Str → Option Value} {p : Program} {loose : List Str} {l : Addr} {vs : List Value} {ns : List Int}
    (X : (hd02.heap_39 w.params).In s.heap) (T : TopRead p loose mg mb s.heap) (hroom : A.depth + 30 < recursionLimit) (hh : A.handled = none)
    (hl' : s.heap.IsList l vs.toArray) (hi : IntsAre vs ns) (hlen : ns.length < 2 ^ 18)
    (hQ : ∀ h' tk R ep rows, Kept s.heap h' → (∀ p ∈ tabL R ep rows, h'.get? p.1 = some p.2 ∧ s.heap.get? p.1 = none) → (∀ r ∈ rows, IntsAre r.vs r.ns) → (R :: rows.map (·.a)).Nodup → rows.map (·.ns) = ns.foldl insT [] → Q (.ref R) { s with heap := h', toks := tk }) :
    wpAny (model PySem.Challenge.rw_cy0003_02.prog w) A (call (.ref 37) [.ref l] []) Q E s := by
  obtain ⟨ol, hl, hoc, nn, hod⟩ := hl'
  refine' enter0 (K := hd02.heap_39 w.params) (binds := [(Str.ofString "numbers", .ref l)]) X T.nolimit (by omega) ?ho ?hcd ?hb ?hl ?_ ?c1 ?c2 ?c3 ?c4
  case ho => exact rfl
  case hcd => exact rfl
  case hb => exact BindsTo.of_eq rfl
  case hl => exact locs rfl
  case c1 => exact rfl
  case c2 => exact rfl
  case c3 => exact rfl
  case c4 => decide
  intro h₁ tk F
  have N : News s.heap s.heap.objs.size h₁ [] := News.nil
  have hsz : vs.length = ns.length := hi.length
  w_on
  iterate 8 (first | walk1 | (dsimp only; walk1))
  (rename Fr _ _ _ _ => F2); (rename News _ _ _ _ => N2)
  refine For_invVF F2 rfl rfl ?_
  iterate 1 (first | walk1 | (dsimp only; walk1))
  rename_i R _ _ h2
  have N2' : News s.heap s.heap.objs.size h2 (tabL R 0 []) := N2
  refine iter_led (fun i m nx => ∃ ep rows, nx = tabL R ep rows ∧ (∀ r ∈ rows, IntsAre r.vs r.ns ∧ r.ns.length ≤ i) ∧ rows.length ≤ i ∧ (R :: rows.map (·.a)).Nodup ∧ rows.map (·.ns) = (ns.take i).foldl insT [] ∧ m (Str.ofString "rows") = some (.ref R)) (l := l) (vs := vs) (nn := nn) hh hoc hod (F2.keep _ _ hl) (Nat.ne_of_lt (Heap.lt_size hl)) F2 N2' ?_ ?_ ?_ ?_
  · exact ⟨0, [], rfl, by simp, by simp, by simp, rfl, rfl⟩
  · exact fun _ _ _ _ => .inr hl
  · rintro i v m₁ nx h tk₁ I oI hv ⟨ep, rows, rfl, hint, hlr, hnd, hrows, hR⟩ hoff hIlt F₁ N₁
    have hil : i < ns.length := by rw [← hsz]; exact (List.getElem?_eq_some_iff.mp hv).1
    obtain ⟨x, t, rfl, hx⟩ : ∃ x t, v = .int x t ∧ ns[i]? = some x := by
      obtain ⟨t, ht⟩ := hi.get i ns[i] (by simp [hil])
      rw [ht] at hv
      exact ⟨ns[i], t, (Option.some.inj hv).symm, by simp [hil]⟩
    replace F₁ := fr_put (Str.ofString "rows") F₁ hR
    iterate 11 (first | walk1 | (dsimp only; walk1))
    have hT : ∀ p ∈ tabL R ep rows, h.get? p.1 = some p.2 ∧ s.heap.get? p.1 = none := fun p hp => ⟨(N₁ p (List.mem_append_left _ hp)).1, (N₁ p (List.mem_append_left _ hp)).2.2⟩
    refine ins_call (g₀ := s.heap) (R := R) (ep := ep) (rows := rows) X T F₁.keep (by rw [depth_deeper]; omega) hh hT (fun r hr => (hint r hr).1) hnd (by omega) (fun r hr => by have := (hint r hr).2; omega) ?_
    intro h3 tk3 ep' rows' hT' hint' hnd' hrows' hk' hfr'
    have has : ∀ a ∈ R :: rows.map (·.a), ∃ o, (a, o) ∈ tabL R ep rows := by
      intro a ha
      rcases List.mem_cons.mp ha with rfl | ha
      · exact ⟨_, .head _⟩
      · obtain ⟨r, hr, rfl⟩ := List.mem_map.mp ha
        exact ⟨_, .tail _ (List.mem_map_of_mem (f := rowE) hr)⟩
    have hL : s.heap.objs.size ∉ R :: rows.map (·.a) := fun q => by
      obtain ⟨o, ho⟩ := has _ q
      exact (N₁ _ (List.mem_append_left _ ho)).2.1 rfl
    have F3 := fr_but F₁ hk' hL (fun a ha => by obtain ⟨o, ho⟩ := has a ha; exact (hT _ ho).2)
    obtain ⟨oL, _, _, hLo, _⟩ := F₁.ns
    have hnew : ∀ p ∈ tabL R ep' rows', p.1 ∈ R :: rows.map (·.a) ∨ h.get? p.1 = none := by
      intro p hp
      rcases List.mem_cons.mp hp with rfl | hp
      · exact .inl (.head _)
      · obtain ⟨r, hr, rfl⟩ := List.mem_map.mp hp
        exact (hfr' r hr).imp (fun q => .tail _ q) id
    have N3 : News s.heap s.heap.objs.size h3 (tabL R ep' rows' ++ [(I, oI)]) := by
      intro p hp
      rcases List.mem_append.mp hp with hp | hp
      · refine ⟨hT' p hp, ?_⟩
        rcases hnew p hp with q | q
        · obtain ⟨o, ho⟩ := has _ q
          exact (N₁ _ (List.mem_append_left _ ho)).2
        · refine ⟨fun e => ?_, ?_⟩
          · rw [e] at q
            rw [show h.get? s.heap.objs.size = some oL from hLo] at q; cases q
          · cases e : s.heap.get? p.1 with
            | none => rfl
            | some o => rw [F₁.keep _ _ e] at q; cases q
      · rw [List.mem_singleton.mp hp]
        have z := N₁ (I, oI) (List.mem_append_right _ (.head _))
        refine ⟨hk' _ _ z.1 fun q => ?_, z.2⟩
        obtain ⟨o, ho⟩ := has _ q
        exact hoff _ ho rfl
    iterate 1 (first | walk1 | (dsimp only; walk1))
    refine ⟨h3, _, _, _, rfl, F3, N3, ?_, ep', rows', rfl, ?_, ?_, hnd', ?_, rfl⟩
    · intro p hp e
      rcases hnew p hp with q | q
      · obtain ⟨o, ho⟩ := has _ q
        exact hoff _ ho e
      · rw [e, (N₁ (I, oI) (List.mem_append_right _ (.head _))).1] at q; cases q
    · intro r hr
      refine ⟨hint' r hr, ?_⟩
      refine insT_lens (n := i) (rows.map (·.ns)) x (fun q hq => ?_) _ (hrows' ▸ List.mem_map_of_mem (f := fun r : RowD => r.ns) hr)
      obtain ⟨r', hr', rfl⟩ := List.mem_map.mp hq
      exact (hint r' hr').2
    · have := insT_len (rows.map (·.ns)) x
      rw [← hrows'] at this
      simp at this
      omega
    · rw [hrows', hrows, List.take_add_one, hx]
      simp
  · rintro m₁ nx h tk₁ ⟨ep, rows, rfl, hint, hlr, hnd, hrows, hR⟩ F₁ N₁
    replace F₁ := fr_put (Str.ofString "rows") F₁ hR
    iterate 3 (first | walk1 | (dsimp only; walk1))
    dsimp only
    refine hQ h tk₁ R ep rows F₁.keep (fun p hp => ⟨(N₁ p hp).1, (N₁ p hp).2.2⟩) (fun r hr => (hint r hr).1) hnd ?_
    rw [hrows, hsz, List.take_length]
end Mine
namespace Mine
theorem fillK4 : (∀ p : Program, p = PySem.Challenge.rw_cy0003_02.prog → p = p) ∧ hd02.heap_39 = hd02.heap_39 := by
  k_fill
  exact ⟨fun _ _ => rfl, rfl⟩
def fdBody : Stmt → List Stmt
  | .FunctionDef _ _ b _ _ _ _ _ _ _ => b
  | _ => []
def fdScope : Stmt → Option Scope
  | .FunctionDef _ _ _ _ _ _ sc _ _ _ => some sc
  | _ => none
def lawBody : List Stmt := (PySem.Challenge.pw_cy0003_02.main.body.getLast?.map fdBody).getD []
def lawScope : Scope := ((PySem.Challenge.pw_cy0003_02.main.body.getLast?.bind fdScope)).getD default

def Mid (s : Shared) (base : Heap) (L l R I : Addr) (oI : Obj) (ep : Nat) (rows : List RowD) (ns : List Int) (i n : Nat) (a b c : Int) (s' : Shared) : Prop :=
  ∃ h' tk' m' M epM prow t t1 t2 t3, s' = { s with heap := h', toks := tk' } ∧ Fr base L h' m' ∧
    (m' (Str.ofString "script") = some (.ref l) ∧ m' (Str.ofString "rows") = some (.ref R) ∧ m' (Str.ofString "i") = some (.int i t) ∧ m' (Str.ofString "one") = some (.int a t1) ∧ m' (Str.ofString "two") = some (.int b t2) ∧ m' (Str.ofString "three") = some (.int c t3) ∧ m' (Str.ofString "moved") = some (.ref M)) ∧
    News base L h' (tabL M epM prow ++ (tabL R ep rows ++ [(I, oI)])) ∧
    (∀ r ∈ prow, IntsAre r.vs r.ns ∧ r.ns.length = 3 ∧ (ns.take i ++ r.ns ++ ns.drop (i + 3)).foldl insT [] = ns.foldl insT []) ∧ prow.length ≤ n ∧
    ((tabL M epM prow).map (·.1)).Nodup ∧ ∀ p ∈ tabL M epM prow, ∀ q ∈ tabL R ep rows ++ [(I, oI)], p.1 ≠ q.1

theorem mid_push {s : Shared} {base : Heap} {L l R I : Addr} {oI : Obj} {ep : Nat} {rows : List RowD} {ns : List Int} {i n : Nat} {a b c : Int} {h' : Heap} {tk' : Nat} {m' : Str → Option Value} {M l9 : Addr} {epM : Nat} {prow : List RowD} {t t1 t2 t3 : Tok} {v9 : List Value} {n9 : List Int}
    (F : Fr base L h' m') (hm : m' (Str.ofString "script") = some (.ref l) ∧ m' (Str.ofString "rows") = some (.ref R) ∧ m' (Str.ofString "i") = some (.int i t) ∧ m' (Str.ofString "one") = some (.int a t1) ∧ m' (Str.ofString "two") = some (.int b t2) ∧ m' (Str.ofString "three") = some (.int c t3) ∧ m' (Str.ofString "moved") = some (.ref M))
    (N : News base L h' ((l9, listOf v9.toArray 0) :: (M, listOf (((prow.map (·.a)).map Value.ref).toArray.push (.ref l9)) (epM + 1)) :: (prow.map rowE ++ (tabL R ep rows ++ [(I, oI)]))))
    (hp : ∀ r ∈ prow, IntsAre r.vs r.ns ∧ r.ns.length = 3 ∧ (ns.take i ++ r.ns ++ ns.drop (i + 3)).foldl insT [] = ns.foldl insT []) (hlen : prow.length ≤ n)
    (hnd : ((tabL M epM prow).map (·.1)).Nodup) (hoff : ∀ p ∈ tabL M epM prow, ∀ q ∈ tabL R ep rows ++ [(I, oI)], p.1 ≠ q.1)
    (hl9 : ∀ p ∈ tabL M epM prow ++ (tabL R ep rows ++ [(I, oI)]), p.1 < l9) (hi9 : IntsAre v9 n9) (h3 : n9.length = 3) (hk : (ns.take i ++ n9 ++ ns.drop (i + 3)).foldl insT [] = ns.foldl insT []) :
    Mid s base L l R I oI ep rows ns i (n + 1) a b c { s with heap := h', toks := tk' } := by
  refine ⟨h', tk', m', M, epM + 1, prow ++ [⟨l9, v9, n9, 0⟩], t, t1, t2, t3, rfl, F, hm, ?_, ?_, ?_, ?_, ?_⟩
  · intro p hp
    refine N p ?_
    simp only [tabL, rowE, List.map_append, List.map_cons, List.map_nil, List.mem_cons, List.mem_append, List.cons_append] at hp ⊢
    rcases hp with rfl | ((hp | hp) | hp)
    · exact .inr (.inl (by simp))
    · exact .inr (.inr (.inl hp))
    · rcases hp with rfl | hp
      · exact .inl rfl
      · exact absurd hp List.not_mem_nil
    · exact .inr (.inr (.inr hp))
  · intro r hr
    rcases List.mem_append.mp hr with hr | hr
    · exact hp r hr
    · rw [List.mem_singleton.mp hr]
      exact ⟨hi9, h3, hk⟩
  · simp; omega
  · have e : (tabL M (epM + 1) (prow ++ [⟨l9, v9, n9, 0⟩])).map (·.1) = (tabL M epM prow).map (·.1) ++ [l9] := by simp [tabL, rowE]
    rw [e, List.nodup_append]
    refine ⟨hnd, by simp, ?_⟩
    intro x hx y hy
    obtain ⟨q, hq, rfl⟩ := List.mem_map.mp hx
    rw [List.mem_singleton.mp hy]
    exact Nat.ne_of_lt (hl9 q (List.mem_append_left _ hq))
  · intro p hp q hq
    rcases List.mem_cons.mp hp with rfl | hp
    · exact hoff (M, _) (List.Mem.head _) q hq
    · rw [List.map_append] at hp
      rcases List.mem_append.mp hp with hp | hp
      · exact hoff p (.tail _ hp) q hq
      · rw [List.mem_singleton.mp hp]
        exact Nat.ne_of_gt (hl9 q (List.mem_append_right _ hq))

theorem law_body {w : World} {s : Shared} {Q : Flow → Shared → Prop} {mg mb : Str → Option Value} {p : Program} {loose : List Str} {base : Heap} {L fa l : Addr} {cd : Value} {vs : List Value} {ns : List Int}
    (X : (hd02.heap_39 w.params).In base) (T : TopRead p loose mg mb base) (hl : base.IsList l vs.toArray) (hi : IntsAre vs ns) (hlen : ns.length ≤ 63)
    (F : Fr base L s.heap (fun x => [(Str.ofString "script", Value.ref l)].reverse.lookup x))
    (hQ : ∀ h' tk m', Fr base L h' m' → Q (.ret (.bool true)) { s with heap := h', toks := tk }) :
    wpAny (model PySem.Challenge.rw_cy0003_02.prog w) (callerA.deeper (envOf (Str.ofString "law") lawScope L fa cd)) (execs lawBody (envOf (Str.ofString "law") lawScope L fa cd)) Q (fun _ _ => False) s := by
  have N : News base L s.heap [] := News.nil
  dsimp only [lawBody, lawScope, PySem.Challenge.pw_cy0003_02, List.getLast?, List.getLast, Option.map, Option.bind, Option.getD, fdBody, fdScope]
  w_on
  iterate 9 (first | walk1 | (dsimp only; walk1))
  refine tab_call (X.keeps F.keep) (T.keeps F.keep) (by rw [depth_deeper, depth_caller]; decide) rfl (F.lst hl) hi (by omega) ?_
  intro h2 tk2 R ep rows hk2 hT2 hint2 hnd2 hrows2
  have F2 := frKept F hk2
  obtain ⟨oL, _, _, hLo, _⟩ := F.ns
  have N2 : News base L h2 (tabL R ep rows) := fun p hp => by
    have z := hT2 p hp
    refine ⟨z.1, fun e => ?_, ?_⟩
    · rw [e, hLo] at z; cases z.2
    · cases e : base.get? p.1 with
      | none => rfl
      | some o => have := z.2; rw [F.keep _ _ e] at this; cases this
  clear hk2 hT2 hLo
  iterate 3 (first | walk1 | (dsimp only; walk1))
  (rename Fr _ _ _ _ => F3); (rename News _ _ _ _ => N3)
  refine For_invVF F3 rfl rfl ?_
  iterate 16 (first | walk1 | (dsimp only; walk1))
  (rename Fr _ _ _ _ => F4); (rename News _ _ _ _ => N4); (rename IsRange _ _ _ _ _ _ _ _ => R4)
  refine iter_range_led (fun i m nx => nx = tabL R ep rows ∧ m (Str.ofString "rows") = some (.ref R) ∧ m (Str.ofString "script") = some (.ref l)) (n := ns.length - 2) rfl R4 (small_one (by omega) (by omega) (by omega) (by omega)) (by rw [rangeSize_nat]; omega) F4 N4 ⟨rfl, rfl, rfl⟩ ?_ ?_
  · rintro i t m₁ nx h tk₁ I oI hin ⟨rfl, hmR, hms⟩ hoff hIlt F₁ N₁
    rw [Int.zero_add] at F₁
    replace F₁ := fr_put (Str.ofString "script") (fr_put (Str.ofString "rows") F₁ hmR) hms
    iterate 14 (first | walk1 | (dsimp only; walk1))
    obtain ⟨a, b, c, hga, hgb, hgc, e3⟩ := three_of ns i (by omega)
    (rename IntsAre _ (List.take _ _) => hI5)
    rw [e3] at hI5
    obtain ⟨t1, t2, t3, rfl⟩ := ints3 hI5
    (rename Fr _ _ _ _ => F5); (rename News _ _ _ _ => N5)
    refine kun_list F5 N5 (News.isList N5 (.head _)) rfl rfl rfl ?_
    intro h6 F6 N6
    replace N6 : News base L h6 (tabL R ep rows ++ [(I, oI)]) := fun p hp => N6 p (.tail _ hp)
    clear F5 N5 hI5
    iterate 10 (first | walk1 | (dsimp only; walk1))
    iterate 6 (first | walk1 | (dsimp only; walk1))
    (rename Fr _ _ _ _ => F7); (rename News _ _ _ _ => N7); (rename (∀ p ∈ _, _ < _) => hl7)
    rename_i _ _ _ M _ h7
    have hM0 : ∀ tk7, Mid s base L l R I oI ep rows ns i 0 a b c { s with heap := h7, toks := tk7 } := by
      intro tk7
      refine ⟨h7, tk7, _, M, 0, [], t, t1, t2, t3, rfl, F7, ⟨rfl, rfl, rfl, rfl, rfl, rfl, rfl⟩, N7, ?_, ?_, ?_, ?_⟩
      · simp
      · simp
      · simp [tabL]
      · intro p hp q hq
        rw [List.mem_singleton.mp hp]
        exact Nat.ne_of_gt (hl7 q hq)
    refine (?_ : ∀ s', Mid s base L l R I oI ep rows ns i 0 a b c s' → wpAny _ _ _ _ _ s') _ (hM0 _)
    clear hM0 F7 N7 hl7
    rintro _ ⟨h', tk', m', M, epM, prow, t, t1, t2, t3, rfl, F, ⟨m1, m2, m3, m4, m5, m6, m7⟩, N, hpr, hpl, hpn, hpo⟩
    replace F := fr_put (Str.ofString "script") (fr_put (Str.ofString "rows") (fr_put (Str.ofString "i") (fr_put (Str.ofString "one") (fr_put (Str.ofString "two") (fr_put (Str.ofString "three") (fr_put (Str.ofString "moved") F m7) m6) m5) m4) m3) m2) m1
    refine wpAny_execs_cons (wpAny_mono (Q := fun f s' => f = .next ∧ Mid s base L l R I oI ep rows ns i 1 a b c s') ?_ ?_ (fun _ _ h => h))
    · iterate 15 (first | walk1 | (dsimp only; walk1))
      (rename Fr _ _ _ _ => F8); (rename News _ _ _ _ => N8)
      by_cases hc1 : (if c < b then c else b) < a
      · rw [if_pos (decide_eq_true hc1)]
        iterate 12 (first | walk1 | (dsimp only; walk1))
        (rename Fr _ _ _ _ => F9); (rename News _ _ _ _ => N9)
        by_cases hc2 : a ≤ (if c > b then c else b)
        · rw [if_pos (decide_eq_true hc2)]
          iterate 4 (first | walk1 | (dsimp only; walk1))
          refine kl_method N9 (List.mem_append_left _ (.head _)) PySem.F.slot_list_append PySem.F.type_list_append ?_
          iterate 12 (first | walk1 | (dsimp only; walk1))
          (rename Fr _ _ _ _ => F10); (rename News _ _ _ _ => N10); (rename (∀ p ∈ _, _ < _) => hl10)
          rename_i l10 _
          have hMlt : M < l10 := hl10 (M, _) (List.Mem.head _)
          have hdM : ∀ p ∈ prow.map rowE ++ (tabL R ep rows ++ [(I, oI)]), p.1 ≠ M := by
            intro p hp e
            rcases List.mem_append.mp hp with hp | hp
            · exact (List.nodup_cons.mp hpn).1 (by have := List.mem_map_of_mem (f := fun p : Addr × Obj => p.1) hp; rw [e] at this; exact this)
            · exact hpo (M, _) (List.Mem.head _) p hp e.symm
          refine append_K F10 N10 (.tail (Nat.ne_of_gt hMlt) (.head hdM)) ?_ (by simp [sizeLine_eq]; omega)
          intro h11 F11 N11
          iterate 2 (first | walk1 | (dsimp only; walk1))
          refine ⟨rfl, mid_push (t := t) (t1 := t1) (t2 := t2) (t3 := t3) F11 ⟨rfl, rfl, rfl, rfl, rfl, rfl, rfl⟩ N11 hpr hpl hpn hpo hl10 (.cons a t1 (.cons c t3 (.cons b t2 .nil))) rfl (knuth1 ns i a b c hga hgb hgc ?_ ?_)⟩
          · split at hc1 <;> omega
          · split at hc2 <;> omega
        · rw [if_neg (by simpa using hc2)]
          iterate 1 (first | walk1 | (dsimp only; walk1))
          exact ⟨rfl, _, _, _, M, epM, prow, t, t1, t2, t3, rfl, F9, ⟨rfl, rfl, rfl, rfl, rfl, rfl, rfl⟩, N9, hpr, by omega, hpn, hpo⟩
      · rw [if_neg (by simpa using hc1)]
        iterate 2 (first | walk1 | (dsimp only; walk1))
        exact ⟨rfl, _, _, _, M, epM, prow, t, t1, t2, t3, rfl, F8, ⟨rfl, rfl, rfl, rfl, rfl, rfl, rfl⟩, N8, hpr, by omega, hpn, hpo⟩
    · clear F N hpr hpl hpn hpo m1 m2 m3 m4 m5 m6 m7
      rintro _ _ ⟨rfl, h', tk', m', M, epM, prow, t, t1, t2, t3, rfl, F, ⟨m1, m2, m3, m4, m5, m6, m7⟩, N, hpr, hpl, hpn, hpo⟩
      replace F := fr_put (Str.ofString "script") (fr_put (Str.ofString "rows") (fr_put (Str.ofString "i") (fr_put (Str.ofString "one") (fr_put (Str.ofString "two") (fr_put (Str.ofString "three") (fr_put (Str.ofString "moved") F m7) m6) m5) m4) m3) m2) m1
      dsimp only
      refine wpAny_execs_cons (wpAny_mono (Q := fun f s' => f = .next ∧ Mid s base L l R I oI ep rows ns i 2 a b c s') ?_ ?_ (fun _ _ h => h))
      · iterate 15 (first | walk1 | (dsimp only; walk1))
        (rename Fr _ _ _ _ => F8); (rename News _ _ _ _ => N8)
        by_cases hc1 : (if b < a then b else a) ≤ c
        · rw [if_pos (decide_eq_true hc1)]
          iterate 12 (first | walk1 | (dsimp only; walk1))
          (rename Fr _ _ _ _ => F9); (rename News _ _ _ _ => N9)
          by_cases hc2 : c < (if b > a then b else a)
          · rw [if_pos (decide_eq_true hc2)]
            iterate 4 (first | walk1 | (dsimp only; walk1))
            refine kl_method N9 (List.mem_append_left _ (.head _)) PySem.F.slot_list_append PySem.F.type_list_append ?_
            iterate 12 (first | walk1 | (dsimp only; walk1))
            (rename Fr _ _ _ _ => F10); (rename News _ _ _ _ => N10); (rename (∀ p ∈ _, _ < _) => hl10)
            rename_i l10 _
            have hMlt : M < l10 := hl10 (M, _) (List.Mem.head _)
            have hdM : ∀ p ∈ prow.map rowE ++ (tabL R ep rows ++ [(I, oI)]), p.1 ≠ M := by
              intro p hp e
              rcases List.mem_append.mp hp with hp | hp
              · exact (List.nodup_cons.mp hpn).1 (by have := List.mem_map_of_mem (f := fun p : Addr × Obj => p.1) hp; rw [e] at this; exact this)
              · exact hpo (M, _) (List.Mem.head _) p hp e.symm
            refine append_K F10 N10 (.tail (Nat.ne_of_gt hMlt) (.head hdM)) ?_ (by simp [sizeLine_eq]; omega)
            intro h11 F11 N11
            iterate 2 (first | walk1 | (dsimp only; walk1))
            refine ⟨rfl, mid_push (t := t) (t1 := t1) (t2 := t2) (t3 := t3) F11 ⟨rfl, rfl, rfl, rfl, rfl, rfl, rfl⟩ N11 hpr hpl hpn hpo hl10 (.cons b t2 (.cons a t1 (.cons c t3 .nil))) rfl (knuth2 ns i a b c hga hgb hgc ?_ ?_)⟩
            · split at hc1 <;> omega
            · split at hc2 <;> omega
          · rw [if_neg (by simpa using hc2)]
            iterate 1 (first | walk1 | (dsimp only; walk1))
            exact ⟨rfl, _, _, _, M, epM, prow, t, t1, t2, t3, rfl, F9, ⟨rfl, rfl, rfl, rfl, rfl, rfl, rfl⟩, N9, hpr, by omega, hpn, hpo⟩
        · rw [if_neg (by simpa using hc1)]
          iterate 2 (first | walk1 | (dsimp only; walk1))
          exact ⟨rfl, _, _, _, M, epM, prow, t, t1, t2, t3, rfl, F8, ⟨rfl, rfl, rfl, rfl, rfl, rfl, rfl⟩, N8, hpr, by omega, hpn, hpo⟩
      · clear F N hpr hpl hpn hpo m1 m2 m3 m4 m5 m6 m7
        rintro _ _ ⟨rfl, h', tk', m', M, epM, prow, t, t1, t2, t3, rfl, F, ⟨m1, m2, m3, m4, m5, m6, m7⟩, N, hpr, hpl, hpn, hpo⟩
        replace F := fr_put (Str.ofString "script") (fr_put (Str.ofString "rows") (fr_put (Str.ofString "i") (fr_put (Str.ofString "moved") F m7) m3) m2) m1
        iterate 1 (first | walk1 | (dsimp only; walk1))
        refine For_invVF F rfl rfl ?_
        iterate 1 (first | walk1 | (dsimp only; walk1))
        refine iter_led (fun k m nx => nx = tabL M epM prow ++ (tabL R ep rows ++ [(I, oI)]) ∧ m (Str.ofString "script") = some (.ref l) ∧ m (Str.ofString "rows") = some (.ref R) ∧ m (Str.ofString "i") = some (.int i t)) (l := M) (vs := (prow.map (·.a)).map Value.ref) (nn := epM) rfl rfl rfl (N _ (List.mem_append_left _ (.head _))).1 (N _ (List.mem_append_left _ (.head _))).2.1 F N ⟨rfl, rfl, rfl, rfl⟩ ?_ ?_ ?_
        · rintro k m nx ⟨rfl, _⟩
          exact .inl (List.mem_append_left _ (.head _))
        · rintro k v m₂ nx h tk₂ I' oI' hv ⟨rfl, hms2, hmR2, hmi2⟩ hoff' hIlt' F₂ N₂
          replace F₂ := fr_put (Str.ofString "script") (fr_put (Str.ofString "rows") (fr_put (Str.ofString "i") F₂ hmi2) hmR2) hms2
          obtain ⟨r, hr, rfl⟩ : ∃ r ∈ prow, v = .ref r.a := by
            have := List.mem_of_getElem? hv
            simp only [List.map_map, List.mem_map, Function.comp] at this
            obtain ⟨r, hr, e⟩ := this
            exact ⟨r, hr, e.symm⟩
          obtain ⟨hri, hrl, hrk⟩ := hpr r hr
          iterate 16 (first | walk1 | (dsimp only; walk1))
          refine kmk_slice_ints F₂ N₂ (F₂.lst hl) .none (.int _ _) hi (kmk_upto hi (by omega)) rfl ?_ (by with_unfolding_all rfl) (by intro _; with_unfolding_all rfl) (by rw [List.size_toArray, hi.length, sizeLine_eq]; omega)
          intro D3 ws3 h3 F3 N3 l3 hI3 _ _
          clear F₂ N₂
          iterate 1 (first | walk1 | (dsimp only; walk1))
          have hmr : rowE r ∈ tabL M epM prow ++ (tabL R ep rows ++ [(I, oI)]) ++ [(I', oI')] := List.mem_append_left _ (List.mem_append_left _ (.tail _ (List.mem_map_of_mem (f := rowE) hr)))
          refine kmk_add_ints F3 N3 (News.isList N3 (.head _)) ⟨_, (N3 _ (.tail _ hmr)).1, rfl, r.ep, rfl⟩ hI3 hri ?_ (by simp [sizeLine_eq]; omega)
          intro D4 ws4 h4 F4 N4 l4 hI4
          clear F3 N3
          iterate 10 (first | walk1 | (dsimp only; walk1))
          refine kmk_slice_ints F4 N4 (F4.lst hl) (.int _ _) .none hi (kmk_from hi (by omega)) rfl ?_ (by with_unfolding_all rfl) (by intro _; with_unfolding_all rfl) (by rw [List.size_toArray, hi.length, sizeLine_eq]; omega)
          intro D5 ws5 h5 F5 N5 l5 hI5 _ _
          clear F4 N4
          refine kmk_add_ints F5 N5 (News.isList N5 (.tail _ (.head _))) (News.isList N5 (.head _)) hI4 hI5 ?_ (by simp [sizeLine_eq]; omega)
          intro D6 ws6 h6 F6 N6 l6 hI6
          iterate 2 (first | walk1 | (dsimp only; walk1))
          refine tab_call (X.keeps F6.keep) (T.keeps F6.keep) (by rw [depth_deeper, depth_caller]; decide) rfl (News.isList N6 (.head _)) hI6 (by simp; omega) ?_
          intro h7 tk7 R7 ep7 rows7 hk7 hT7 hint7 hnd7 hrows7
          have F7 := frKept F6 hk7
          have N7 : News base L h7 (tabL M epM prow ++ (tabL R ep rows ++ [(I, oI)]) ++ [(I', oI')]) := newsKept (fun p hp => N6 p (.tail _ (.tail _ (.tail _ (.tail _ hp))))) hk7
          clear hk7 F6 N6
          try clear F5 N5
          try clear F3 N3
          try clear F₂ N₂
          iterate 1 (first | walk1 | (dsimp only; walk1))
          refine tab_ne (fun p hp => (hT7 p hp).1) hint7 (R' := R) (ep' := ep) (rows' := rows) (fun p hp => (N7 p (List.mem_append_left _ (List.mem_append_right _ (List.mem_append_left _ hp)))).1) hint2 (by exact Nat.le_of_ble_eq_true rfl) ?_
          have e7 : rows7.map (·.ns) = rows.map (·.ns) := by
            rw [hrows7, hrows2, ← hrk]
            rw [show (i : Int).toNat = i by omega, show ((i : Int) + 3).toNat = i + 3 by omega]
          rw [decide_eq_true e7]
          iterate 4 (first | walk1 | (dsimp only; walk1))
          exact ⟨_, _, _, _, rfl, F7, N7, hoff', rfl, rfl, rfl, rfl⟩
        · rintro m₂ nx h tk₂ ⟨rfl, hms2, hmR2, hmi2⟩ F₂ N₂
          iterate 1 (first | walk1 | (dsimp only; walk1))
          exact ⟨_, _, _, _, rfl, F₂, fun p hp => N₂ p (List.mem_append_right _ hp), hoff, rfl, hmR2, hms2⟩
  · rintro m₁ nx h tk₁ ⟨rfl, hmR, hms⟩ F₁ N₁
    iterate 3 (first | walk1 | (dsimp only; walk1))
    exact hQ _ _ _ F₁
end Mine
theorem PySem.Challenge.cw_cy0003_02_holds : PySem.Challenge.rw_cy0003_02.Holds := by
  refine Mine.hd02 ?_
  k_go0
  (rename IntsAre _ _ => hI); (rename Fr _ _ _ _ => hF); (rename Heap.IsList _ _ _ => hL); (rename Frag.In _ _ => hK); (rename Top _ _ _ _ _ _ => hT)
  refine wpAny_mono (Mine.law_body hK (topRead_of hT) hL hI (by omega) hF ?_) (fun _ _ h => h) (fun _ _ h => h.elim)
  intro h' tk m' F'
  dsimp only
  wrow_close
