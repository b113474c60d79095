import PyProof.Rows.All
import Wide.All
import OpenK.AllK
import Wide.FinOn
import Lean
import PySem.Challenge.RW_oy0158_01
open PySem PySem.W PySem.W.X PySem.Calls PyProof.Rows
set_option Elab.async false
set_option compiler.extract_closed false
set_option genInjectivity false
set_option genSizeOf false
set_option rowWalk.seconds 0
set_option linter.all false
namespace Mine
section
noncomputable abbrev RW : OpenLaw := PySem.Challenge.rw_oy0158_01
set_option maxRecDepth 100000 in
theorem said : PySem.Challenge.rw_oy0158_01.wellSaid = true := by kernel_rfl
section
local macro_rules | `(tactic| o_law) => `(tactic| refine holds_law said fun _ => ?_)
local macro_rules | `(tactic| o_head $_) => `(tactic| refine (fun (_ : True) => ?hc) ?hw)
local macro_rules | `(tactic| w_witness2) => `(tactic| exact trivial)
set_option maxRecDepth 100000 in
set_option maxHeartbeats 8000000 in
open_top hd for PySem.Challenge.rw_oy0158_01
end
end
end Mine
namespace Mine
theorem code_pure {prog : Program} {w : World} {A A₀ : Around} {s : Shared} {K : Frag} {L : Addr} {h₀ base : Heap} {m mg mb : Str → Option Value} {p : Program} {loose : List Str} {mean : ExcName → Option Value}
    {env : Env} {outer : List Env} {R : Result → Shared → Prop} {name qual : Str} {params : Arguments} {body : List Stmt} {scope : Scope} {dV kV doc pm cdv ct oc : Value} {an od : Option Addr} {osl : Array (Option Value)} {f : Addr} {args : Args} {binds : List (Str × Value)}
    (B : Below A₀ base outer h₀) (F : Fr h₀ L s.heap m) (X₀ : K.In h₀) (T : Top p loose mean mg mb h₀) (hA : A.frames = some (env :: outer)) (hf : env.frame = some L) (hke : env.scope.kind = .function)
    (ho : K.lookup f = some ⟨oc, od, .func (fnOf name qual params body scope dV kV doc pm an cdv ct), osl⟩) (hcd : codeIn K cdv qual = true) (hroom : A.depth < recursionLimit)
    (hbind : BindsTo s (fnOf name qual params body scope dV kV doc pm an cdv ct) args binds) (hloc : ∀ y ∈ binds, scope.names.lookup y.1 = some .local)
    (h : ∀ L' h₁, Fr s.heap L' h₁ (fun y => binds.reverse.lookup y) → News s.heap L' h₁ [] → Below A base (env :: outer) s.heap → K.In s.heap → Top p loose mean mg mb s.heap →
      wpAny (model prog w) (A.deeper (envOf qual scope L' f cdv)) (execs body (envOf qual scope L' f cdv))
        (fun fl s' => R (.ok (.ret (match fl with | .ret v => v | _ => .none))) s')
        (fun e s' => wpAny (model prog w) (A.deeper (envOf qual scope L' f cdv)) (leaving (envOf qual scope L' f cdv) e) (fun _ s'' => R (.error e) s'') (fun e' s'' => R (.error e') s'') s')
        { s with heap := h₁, toks := s.toks + binds.length })
    (hco : scope.isCoroutine = false) (hgen : scope.isGenerator = false) (hk : scope.kind = .function)
    (hcell : ∀ x ∈ scope.names, x.2 ≠ .cell) : codeAny (model prog w) A (.call (.ref f) args) R s := by
  obtain ⟨_, BG, _, _⟩ := groundX (R := R) B F (News.nil : News h₀ L s.heap []) hA hf hke
  exact codeAny_call_def (fd := fnOf name qual params body scope dV kV doc pm an cdv ct) (body := body) (binds := binds) hroom ((X₀.keeps F.keep) _ _ ho) rfl (T.nolimit.keeps F.keep) (codeRec_of (X₀.keeps F.keep) hcd) rfl hbind hcell hloc
    (fun h₁ hns hk₁ => h s.heap.objs.size h₁ ⟨hns, hk₁, Nat.le_refl _⟩ News.nil BG (X₀.keeps F.keep) (T.keeps F.keep)) hco hgen hk

theorem code_pureC {prog : Program} {w : World} {A A₀ : Around} {s : Shared} {K : Frag} {L : Addr} {h₀ base : Heap} {m mg mb : Str → Option Value} {p : Program} {loose : List Str} {mean : ExcName → Option Value}
    {env : Env} {outer : List Env} {R : Result → Shared → Prop} {name qual : Str} {params : Arguments} {body : List Stmt} {scope : Scope} {dV kV doc pm cdv ct oc : Value} {an od : Option Addr} {osl : Array (Option Value)} {f : Addr} {args : Args} {binds : List (Str × Value)}
    (B : Below A₀ base outer h₀) (F : Fr h₀ L s.heap m) (X₀ : K.In h₀) (T : Top p loose mean mg mb h₀) (hA : A.frames = some (env :: outer)) (hf : env.frame = some L) (hke : env.scope.kind = .function)
    (ho : K.lookup f = some ⟨oc, od, .func (fnOf name qual params body scope dV kV doc pm an cdv ct), osl⟩) (hcd : codeIn K cdv qual = true) (hroom : A.depth < recursionLimit)
    (hbind : BindsTo s (fnOf name qual params body scope dV kV doc pm an cdv ct) args binds) (hkind : (binds.all fun y => scope.names.lookup y.1 == some .local || scope.names.lookup y.1 == some .cell) = true)
    (hnd : ((cellsFrom 0 scope.names []).map (·.1)).Nodup)
    (h : ∀ L' h₁ tk cells, Fr s.heap L' h₁ (bindL (envOfC qual scope L' f cdv).kindOf binds fun _ => none) → News s.heap L' h₁ cells →
      CellsAre (bindC (envOfC qual scope L' f cdv).kindOf binds fun _ => none) (cellsFrom (L' + 1) scope.names []) cells → Below A base (env :: outer) s.heap → K.In s.heap → Top p loose mean mg mb s.heap →
      wpAny (model prog w) (A.deeper (envOfC qual scope L' f cdv)) (execs body (envOfC qual scope L' f cdv))
        (fun fl s' => R (.ok (.ret (match fl with | .ret v => v | _ => .none))) s')
        (fun e s' => wpAny (model prog w) (A.deeper (envOfC qual scope L' f cdv)) (leaving (envOfC qual scope L' f cdv) e) (fun _ s'' => R (.error e) s'') (fun e' s'' => R (.error e') s'') s')
        { s with heap := h₁, toks := tk })
    (hco : scope.isCoroutine = false) (hgen : scope.isGenerator = false) (hk : scope.kind = .function) : codeAny (model prog w) A (.call (.ref f) args) R s := by
  obtain ⟨_, BG, _, _⟩ := groundX (R := R) B F (News.nil : News h₀ L s.heap []) hA hf hke
  have X := X₀.keeps F.keep
  refine codeAny_call_function hroom (X _ _ ho) rfl hco hgen rfl (codeRec_of X hcd) (hbind _ _ _ _ ?_)
  refine wpAny_newFunctionEnv_cells hk (kindsX hkind _) fun env' he s' x => ?_
  subst he
  refine ⟨(T.nolimit.keeps F.keep).keeps x.toInCall.keep, codeAny_func ?_⟩
  obtain ⟨h₁, tk, rfl, _⟩ := x.done
  obtain ⟨cells, NC, Y⟩ := Cl.news (h₀ := s.heap) (Nat.le_refl _) fun n c hm => ⟨x.cell n c (lookup_of_mem_nodup (cellsFrom_names scope.names 0 (s.heap.objs.size + 1) [] [] rfl ▸ hnd) hm), x.above n c hm⟩
  exact h s.heap.objs.size h₁ tk cells ⟨x.toInCall.ns, x.toInCall.keep, Nat.le_refl _⟩ NC Y BG X (T.keeps F.keep)
noncomputable abbrev PR : Program := PySem.Challenge.rw_oy0158_01.row.toRowW.prog
noncomputable abbrev PClaim (w : World) (p : Program) (loose : List Str) (mean : ExcName → Option Value) (mg mb : Str → Option Value) (lv : Nat) (f : Addr) (vs : List Value) (Pre : Heap → Prop) (Post : Heap → Value → Heap → Prop) : Prop :=
  ∀ (dp un : Nat) (gd : Option (List Code)) (cn : Str) (cs : Scope) (a : Addr) (ccd : Value) (cl : List (Str × Addr)) (outer : List Env) (A₀ : Around) (base h₀ : Heap) (L : Addr) (m : Str → Option Value) (s : Shared) (Q E : Value → Shared → Prop),
    Below A₀ base outer h₀ → Fr h₀ L s.heap m → (hd.heap_1 w.params).In h₀ → Top p loose mean mg mb h₀ → cs.kind = .function → Pre s.heap → dp + lv < recursionLimit → un + 20 * lv < cLine →
    (∀ (v : Value) (h' : Heap) (tk' : Nat), (∀ b o, s.heap.get? b = some o → h'.get? b = some o) → Post s.heap v h' → Q v { s with heap := h', toks := tk' }) →
    wpAny (model PySem.Challenge.rw_oy0158_01.row.toRowW.prog w) (ktrTop dp un gd cn cs L a ccd cl outer) (call (.ref f) vs) Q E s
noncomputable def Held (h : Heap) (ns : List (Addr × Obj)) : Prop := ∀ p ∈ ns, h.get? p.1 = some p.2
noncomputable def Made (h h' : Heap) (ns : List (Addr × Obj)) : Prop := ∀ p ∈ ns, h'.get? p.1 = some p.2 ∧ h.get? p.1 = none
theorem Held.keeps {h h' : Heap} {ns : List (Addr × Obj)} (x : Held h ns) (k : ∀ b o, h.get? b = some o → h'.get? b = some o) : Held h' ns := fun p hp => k _ _ (x p hp)
theorem Made.held {h h' : Heap} {ns : List (Addr × Obj)} (x : Made h h' ns) : Held h' ns := fun p hp => (x p hp).1
theorem Held.list {h : Heap} {ns : List (Addr × Obj)} {a : Addr} {its : Array Value} {n : Nat} (x : Held h ns) (hm : (a, listOf its n) ∈ ns) : h.IsList a its := ⟨_, x _ hm, rfl, n, rfl⟩
theorem made_news {h₀ h h' : Heap} {L : Addr} {m : Str → Option Value} {objs news : List (Addr × Obj)} (F : Fr h₀ L h m) (N : News h₀ L h' news) (M : Made h h' objs) : News h₀ L h' (objs ++ news) := by
  intro p hp
  rcases List.mem_append.mp hp with hp | hp
  · refine ⟨(M p hp).1, fun e => ?_, ?_⟩
    · obtain ⟨oL, _, _, hL, _⟩ := F.ns
      have := (M p hp).2
      rw [e, hL] at this; cases this
    · cases q : h₀.get? p.1 with
      | none => rfl
      | some o => have := (M p hp).2; rw [F.keep _ _ q] at this; cases this
  · exact N p hp
theorem news_made {h h' : Heap} {L : Addr} {objs news : List (Addr × Obj)} (N : News h L h' news) (hs : ∀ p ∈ objs, p ∈ news) : Made h h' objs := fun p hp => ⟨(N p (hs p hp)).1, (N p (hs p hp)).2.2⟩
theorem pc_use {w : World} {p : Program} {loose : List Str} {mean : ExcName → Option Value} {mg mb : Str → Option Value} {lv : Nat} {f : Addr} {vs : List Value} {Pre : Heap → Prop} {Post : Heap → Value → Heap → Prop}
    (C : PClaim w p loose mean mg mb lv f vs Pre Post)
    {dp un : Nat} {gd : Option (List Code)} {cn : Str} {cs : Scope} {a : Addr} {ccd : Value} {cl : List (Str × Addr)} {outer : List Env} {A₀ : Around} {base h₀ : Heap} {L : Addr} {m : Str → Option Value} {s : Shared} {news : List (Addr × Obj)} {Q E : Value → Shared → Prop}
    (B : Below A₀ base outer h₀) (F : Fr h₀ L s.heap m) (X : (hd.heap_1 w.params).In h₀) (T : Top p loose mean mg mb h₀) (N : News h₀ L s.heap news) (hk : cs.kind = .function) (hpre : Pre s.heap) (hd : dp + lv < recursionLimit) (hu : un + 20 * lv < cLine)
    (h : ∀ v h' tk', (∀ b o, s.heap.get? b = some o → h'.get? b = some o) → Post s.heap v h' → Fr h₀ L h' m → News h₀ L h' news → Q v { s with heap := h', toks := tk' }) :
    wpAny (model PySem.Challenge.rw_oy0158_01.row.toRowW.prog w) (ktrTop dp un gd cn cs L a ccd cl outer) (call (.ref f) vs) Q E s :=
  C _ _ _ _ _ _ _ _ _ _ _ _ _ _ _ _ _ B F X T hk hpre hd hu (fun v h' tk' k P => h v h' tk' k P (F.keeps k) (N.grown k))
theorem isInt_of {a n : Int} {t : Tok} (e : a = n) : ∃ t', Value.int a t = .int n t' := ⟨t, by rw [e]⟩
theorem isStr_of {a n : Str} {t : Tok} (e : a = n) : ∃ t', Value.str a t = .str n t' := ⟨t, by rw [e]⟩
theorem isBool_of {a n : Bool} (e : a = n) : Value.bool a = .bool n := by rw [e]
end Mine
namespace Mine
section
section
variable {prog : Program} {w : World} {A : Around} {E : Value → Shared → Prop} {s : Shared} {env : Env} {h₀ : Heap} {x : Str} {body : List Stmt} {Q : Flow → Shared → Prop}
theorem mf_loop {σ : Type} {I : Addr} {fp wr : List Addr} {n : Nat} {Pv : Nat → Value → Prop} {St : Nat → Heap → Prop} {m₀ : Str → Option Value} {news : List (Addr × Obj)}
    (Led : σ → List (Addr × Obj)) (cst : List (Addr × Obj)) (ps : σ → List (Str × Value)) (Facts : List (Addr × Obj) → σ → Prop) (stored : List Str) (P : Nat → σ → Prop) (adr : List Addr) (c₀ : σ)
    (W : Walks prog w A I fp wr n Pv St) (hfw : ∀ a ∈ fp, a ∈ wr) (hwf : ∀ b ∈ wr, b ∈ fp) (hob : ∀ i h, St i h → ∀ b ∈ wr, ∃ o, h.get? b = some o) (hLf : env.locals ∉ fp) (hwr : ∀ b ∈ wr, h₀.get? b = none) (hnw : ∀ p ∈ news, p.1 ∉ wr) (hst : St 0 s.heap)
    (F : Fr h₀ env.locals s.heap m₀) (N : News h₀ env.locals s.heap news) (hn : ∀ p ∈ Led c₀ ++ (cst ++ []), p ∈ news) (hadr : ∀ c, (Led c ++ cst).map (·.1) = adr) (hf : Facts (cst ++ []) c₀) (hk : ∀ p ∈ ps c₀, m₀ p.1 = some p.2) (hp : P 0 c₀)
    (turn : ∀ (c : σ) tl (i : Nat) (v : Value) (u : Str → Option Value) h tk own, i < n → Pv i v → KdSep own tl adr → OwnOff (tl ++ own) adr → Facts (cst ++ tl) c → P i c →
      Fr h₀ env.locals h (fun y => if y = x then some v else kstB (fun z => if stored.contains z then u z else m₀ z) (ps c) y) → News h₀ env.locals h (Led c ++ (cst ++ (tl ++ own))) →
      wpAny (model prog w) A (execs body env) (InvPostG h₀ env.locals (KdS Led cst ps Facts x stored m₀ P adr (i + 1)) own { s with heap := h, toks := tk } Q) E { s with heap := h, toks := tk })
    (done : ∀ (c : σ) tl (u : Str → Option Value) h tk, OwnOff tl adr → Facts (cst ++ tl) c → P n c → Fr h₀ env.locals h (fun y => if y = x then u y else kstB (fun z => if stored.contains z then u z else m₀ z) (ps c) y) → News h₀ env.locals h (Led c ++ (cst ++ tl)) → Q .next { s with heap := h, toks := tk }) :
    LoopAtV prog w A h₀ env x body Q E (.ref I) s := by
  refine kdr_loop (fun i m nx => KdS Led cst ps Facts x stored m₀ P adr i m nx) W hfw hwf hob hLf hwr (fun p hp => hnw p (hn p hp)) hst F (fun p hp => N p (hn p hp)) ⟨c₀, [], rfl, fun _ hp => (nomatch hp), hf, hk, fun _ _ _ _ => rfl, hp⟩ ?_ ?_
  · rintro i v m₁ nx h tk own hi hv hoff ⟨c, tl, rfl, ht, hf', h1, h2, hp'⟩ F₁ N₁
    obtain ⟨o1, o2⟩ := kd_split (hadr c) hoff
    rw [List.append_assoc, List.append_assoc] at N₁
    exact turn c tl i v m₁ h tk own hi hv ⟨o1, o2, ht⟩ (kd_off o1 ht) hf' hp' (kst_fr h1 h2 F₁) N₁
  · rintro m₁ nx h tk ⟨c, tl, rfl, ht, hf', h1, h2, hp'⟩ F₁ N₁
    exact done c tl m₁ h tk ht hf' hp' (kst_frOut h1 h2 F₁) N₁
theorem mf_range {σ : Type} {r : Addr} {n : Nat} {t₀ u₀ v₀ : Tok} {m₀ : Str → Option Value} {news : List (Addr × Obj)}
    (Led : σ → List (Addr × Obj)) (cst : List (Addr × Obj)) (ps : σ → List (Str × Value)) (Facts : List (Addr × Obj) → σ → Prop) (stored : List Str) (P : Nat → σ → Prop) (adr : List Addr) (c₀ : σ)
    (hh : A.handled = none) (hr : IsRange s.heap r 0 (n : Int) 1 t₀ u₀ v₀) (hsm : n < 1000)
    (F : Fr h₀ env.locals s.heap m₀) (N : News h₀ env.locals s.heap news) (hn : ∀ p ∈ Led c₀ ++ (cst ++ []), p ∈ news) (hadr : ∀ c, (Led c ++ cst).map (·.1) = adr) (hf : Facts (cst ++ []) c₀) (hk : ∀ p ∈ ps c₀, m₀ p.1 = some p.2) (hp : P 0 c₀)
    (turn : ∀ (c : σ) tl (i : Nat) (t : Tok) (u : Str → Option Value) h tk own, i < n → KdSep own tl adr → OwnOff (tl ++ own) adr → Facts (cst ++ tl) c → P i c →
      Fr h₀ env.locals h (fun y => if y = x then some (.int (i : Int) t) else kstB (fun z => if stored.contains z then u z else m₀ z) (ps c) y) → News h₀ env.locals h (Led c ++ (cst ++ (tl ++ own))) →
      wpAny (model prog w) A (execs body env) (InvPostG h₀ env.locals (KdS Led cst ps Facts x stored m₀ P adr (i + 1)) own { s with heap := h, toks := tk } Q) E { s with heap := h, toks := tk })
    (done : ∀ (c : σ) tl (u : Str → Option Value) h tk, OwnOff tl adr → Facts (cst ++ tl) c → P n c → Fr h₀ env.locals h (fun y => if y = x then u y else kstB (fun z => if stored.contains z then u z else m₀ z) (ps c) y) → News h₀ env.locals h (Led c ++ (cst ++ tl)) → Q .next { s with heap := h, toks := tk }) :
    wpAny (model prog w) A (pyIter (.ref r)) (fun it s₂ => LoopAtV prog w A h₀ env x body Q E it s₂) E s := by
  have hsz : Builtin.Range.rangeSize 0 (n : Int) 1 = (n : Int) := rangeSize_nat _ _
  refine wpAny_pyIter_range hr (small_one (by omega) (by omega) (by omega) (by omega)) ?_
  have W : Walks prog w A s.heap.objs.size [s.heap.objs.size] [s.heap.objs.size] n (fun i v => ∃ t, v = .int (0 + i * 1) t)
      (fun i h => IsRangeIter h s.heap.objs.size (0 + (i : Nat) * 1) ((n : Int) - (i : Nat)) 1) := Walks.range hh _ 0 1 n
  refine mf_loop Led cst ps Facts stored P adr c₀ W (fun _ h => h) (fun _ h => h) ?_ ?_ ?_ ?_ (by show IsRangeIter _ _ _ _ _; rw [hsz]; simpa using Heap.get?_push_size _ rfl) (F.push _) (fun p hp => ⟨Heap.get?_push_of_some _ (N p hp).1, (N p hp).2⟩) hn hadr hf hk hp ?_ done
  · intro i h hi b hb
    rw [List.mem_singleton.mp hb]
    exact ⟨_, hi⟩
  · intro hm
    exact absurd F.ns.lt ((List.mem_singleton.mp hm) ▸ Nat.lt_irrefl _)
  · intro b hb
    rw [List.mem_singleton.mp hb]
    exact next_is_new F
  · intro p hp hI
    exact absurd (Heap.lt_size (N p hp).1) ((List.mem_singleton.mp hI) ▸ Nat.lt_irrefl _)
  · rintro c tl i v u h tk own hi ⟨t, rfl⟩ hs ho hf' hp' F₁ N₁
    have e1 : (0 : Int) + (i : Int) * 1 = (i : Int) := by omega
    rw [e1] at F₁
    exact turn c tl i t u h tk own hi hs ho hf' hp' F₁ N₁
theorem mf_iterJ {I l : Addr} {vs : List Value} {m₀ : Str → Option Value} {news : List (Addr × Obj)} (J : Nat → (Str → Option Value) → List (Addr × Obj) → Prop)
    (hh : A.handled = none) (hl : h₀.IsList l vs.toArray) (hI : s.heap.IsListIter I l 0) (hI0 : h₀.get? I = none) (hIL : I ≠ env.locals) (hIn : ∀ p ∈ news, p.1 ≠ I) (F : Fr h₀ env.locals s.heap m₀) (N : News h₀ env.locals s.heap news) (hj : J 0 m₀ news)
    (turn : ∀ i v m₁ news₁ h tk own, vs[i]? = some v → OwnOff own (news₁.map (·.1)) → J i m₁ news₁ → Fr h₀ env.locals h (fun y => if y = x then some v else m₁ y) → News h₀ env.locals h (news₁ ++ own) →
      wpAny (model prog w) A (execs body env) (InvPostG h₀ env.locals (J (i + 1)) own { s with heap := h, toks := tk } Q) E { s with heap := h, toks := tk })
    (done : ∀ m₁ news₁ h tk, J vs.length m₁ news₁ → Fr h₀ env.locals h m₁ → News h₀ env.locals h news₁ → Q .next { s with heap := h, toks := tk }) :
    wpAny (model prog w) A (pyIter (.ref I)) (fun it s₂ => LoopAtV prog w A h₀ env x body Q E it s₂) E s := by
  have hls : s.heap.IsList l vs.toArray := hl.at fun o e => F.keep l o e
  obtain ⟨ol, hol, _⟩ := id hl
  have hlt : l < h₀.objs.size := Heap.lt_size hol
  have hne : l ≠ I := fun e => by rw [← e, hol] at hI0; cases hI0
  refine wpAny_pyIter_listiter hI ?_
  have W := Walks.list (prog := prog) (w := w) hh I l hne vs.toArray
  have hlen : vs.toArray.size = vs.length := by simp
  rw [hlen] at W
  refine ⟨_, _, _, vs.length, _, _, m₀, news, J, rfl, W, ?_, ?_, ?_, ⟨hI, hls⟩, F, N, hj, ?_, ?_⟩
  · intro hm
    rcases List.mem_cons.mp hm with e | hm
    · exact hIL e.symm
    · exact absurd (Nat.lt_of_lt_of_le hlt F.above) ((List.mem_singleton.mp hm) ▸ Nat.lt_irrefl _)
  · intro b hb
    rw [List.mem_singleton.mp hb]
    exact hI0
  · intro p hp hI
    exact hIn p hp (List.mem_singleton.mp hI)
  · rintro i v m₁ news₁ s₁ own ⟨hh', tk', rfl⟩ hin hP hJ hoff hown _ hfp hst F₁ N₁
    obtain ⟨⟨oI, hoI, _⟩, _⟩ := id hst
    have hIown : (I, oI) ∈ own := hfp _ (List.mem_cons.mpr (.inl rfl)) hI0 _ hoI
    have hsep : OwnOff own (news₁.map (·.1)) := by
      intro p hp b hb e
      obtain ⟨q, hq, rfl⟩ := List.mem_map.mp hb
      rcases List.mem_cons.mp (hown p hp) with h1 | h1
      · exact hoff q hq (List.mem_singleton.mpr (e ▸ h1))
      · have h2 := List.mem_singleton.mp h1
        have h3 := (N₁ q (List.mem_append.mpr (.inr hq))).2.2
        rw [← e, h2, hol] at h3
        cases h3
    have hP' : vs[i]? = some v := by simpa using hP
    have N₂ : News h₀ env.locals hh' (news₁ ++ own) := fun p hp => N₁ p ((List.mem_append.mp hp).elim (fun h => List.mem_append.mpr (.inr h)) fun h => List.mem_append.mpr (.inl h))
    refine wpAny_mono (turn i v m₁ news₁ hh' tk' own hP' hsep hJ F₁ N₂) (fun f s₂ p => ?_) fun _ _ e => e
    have fin : InvEndG h₀ env.locals (J (i + 1)) own { s with heap := hh', toks := tk' } s₂ → LoopStepU h₀ env.locals [I] own (J (i + 1)) { s with heap := hh', toks := tk' } .next s₂ := by
      rintro ⟨h', tk, m', news', nx, e, F', N', hn, ho, ha, hm⟩
      refine ⟨rfl, h', tk, m', nx, e, F', fun p hp => N' p ((List.mem_append.mp hp).elim (ho p) (hn p)), fun p hp hq => ?_, hm⟩
      exact ha _ hIown p.1 (List.mem_map.mpr ⟨p, hp, rfl⟩) (List.mem_singleton.mp hq).symm
    cases f with
    | ret v => exact .ret p
    | brk => exact .brk p
    | next => exact .next (fin p)
    | cont => exact .cont (fin p)
  · rintro h' tk m' news' F' N' _ hJ
    exact done m' news' h' tk hJ F' N'
theorem mf_iter {σ : Type} {I l : Addr} {vs : List Value} {m₀ : Str → Option Value} {news : List (Addr × Obj)}
    (Led : σ → List (Addr × Obj)) (cst : List (Addr × Obj)) (ps : σ → List (Str × Value)) (Facts : List (Addr × Obj) → σ → Prop) (stored : List Str) (P : Nat → σ → Prop) (adr : List Addr) (c₀ : σ)
    (hh : A.handled = none) (hl : h₀.IsList l vs.toArray) (hI : s.heap.IsListIter I l 0) (hI0 : h₀.get? I = none) (hIL : I ≠ env.locals) (hIn : ∀ p ∈ Led c₀ ++ (cst ++ []), p.1 ≠ I)
    (F : Fr h₀ env.locals s.heap m₀) (N : News h₀ env.locals s.heap news) (hn : ∀ p ∈ Led c₀ ++ (cst ++ []), p ∈ news) (hadr : ∀ c, (Led c ++ cst).map (·.1) = adr) (hf : Facts (cst ++ []) c₀) (hk : ∀ p ∈ ps c₀, m₀ p.1 = some p.2) (hp : P 0 c₀)
    (turn : ∀ (c : σ) tl (i : Nat) (v : Value) (u : Str → Option Value) h tk own, vs[i]? = some v → KdSep own tl adr → OwnOff (tl ++ own) adr → Facts (cst ++ tl) c → P i c →
      Fr h₀ env.locals h (fun y => if y = x then some v else kstB (fun z => if stored.contains z then u z else m₀ z) (ps c) y) → News h₀ env.locals h (Led c ++ (cst ++ (tl ++ own))) →
      wpAny (model prog w) A (execs body env) (InvPostG h₀ env.locals (KdS Led cst ps Facts x stored m₀ P adr (i + 1)) own { s with heap := h, toks := tk } Q) E { s with heap := h, toks := tk })
    (done : ∀ (c : σ) tl (u : Str → Option Value) h tk, OwnOff tl adr → Facts (cst ++ tl) c → P vs.length c → Fr h₀ env.locals h (fun y => if y = x then u y else kstB (fun z => if stored.contains z then u z else m₀ z) (ps c) y) → News h₀ env.locals h (Led c ++ (cst ++ tl)) → Q .next { s with heap := h, toks := tk }) :
    wpAny (model prog w) A (pyIter (.ref I)) (fun it s₂ => LoopAtV prog w A h₀ env x body Q E it s₂) E s := by
  refine mf_iterJ (news := Led c₀ ++ (cst ++ [])) (fun i m nx => KdS Led cst ps Facts x stored m₀ P adr i m nx) hh hl hI hI0 hIL hIn F (fun p hp => N p (hn p hp)) ⟨c₀, [], rfl, fun _ hp => (nomatch hp), hf, hk, fun _ _ _ _ => rfl, hp⟩ ?_ ?_
  · rintro i v m₁ nx h tk own hv hoff ⟨c, tl, rfl, ht, hf', h1, h2, hp'⟩ F₁ N₁
    obtain ⟨o1, o2⟩ := kd_split (hadr c) hoff
    rw [List.append_assoc, List.append_assoc] at N₁
    exact turn c tl i v m₁ h tk own hv ⟨o1, o2, ht⟩ (kd_off o1 ht) hf' hp' (kst_fr h1 h2 F₁) N₁
  · rintro m₁ nx h tk ⟨c, tl, rfl, ht, hf', h1, h2, hp'⟩ F₁ N₁
    exact done c tl m₁ h tk ht hf' hp' (kst_frOut h1 h2 F₁) N₁
end
section
variable {prog : Program} {w : World} {A : Around} {s : Shared} {h₀ : Heap} {L : Addr} {m : Str → Option Value} {env : Env} {ct elt : Expr} {x : Str} {scope : Scope} {cl : List (Str × Addr)} {S : List (Addr × Obj) → Prop} {P : Nat → Value → Prop} {Fin : List Value → List (Addr × Obj) → Prop} {news : List (Addr × Obj)}
theorem compEnd_mono {s₁ s₂ : Shared} {I C D : Addr} {oI oC oD : Obj} {r r' : Value → List (Addr × Obj) → Prop} {y : Value} (h : LCg.CompEnd h₀ L m s₁ I oI C oC D oD S r y s₂) (k : ∀ nw, r y nw → r' y nw) : LCg.CompEnd h₀ L m s₁ I oI C oC D oD S r' y s₂ :=
  let ⟨h', tk, nw, e, F, N, o, q, z⟩ := h; ⟨h', tk, nw, e, F, N, o, q, k nw z⟩
theorem cr_inv {n : Nat} (J : Nat → List Value → List (Addr × Obj) → Prop) (h0 : J 0 [] news)
    (turn : ∀ i ys nw v I oI C oC D m₂ h tk (E' : Value → Shared → Prop), i < n → J i ys nw → P i v → LCg.NsObj oC m₂ → m₂ x = some v → Fr h₀ L h m → News h₀ L h ((I, oI) :: (C, oC) :: (D, LCg.lst ys) :: nw) → LCg.Off3 I C D nw → ((@Ne Nat I C) ∧ (@Ne Nat I D) ∧ (@Ne Nat C D)) →
      wpAny (model prog w) A (eval elt (compEnvC scope cl C env)) (LCg.CompEnd h₀ L m { s with heap := h, toks := tk } I oI C oC D (LCg.lst ys) S (fun y nw' => J (i + 1) (ys ++ [y]) nw')) E' { s with heap := h, toks := tk })
    (fin : ∀ ys nw, J n ys nw → Fin ys nw) : LCg.CompRest prog w A h₀ L m env elt x scope cl s S P Fin n 0 [] news := by
  have key : ∀ (j i : Nat) (ys : List Value) (nw : List (Addr × Obj)), i + j = n → J i ys nw → LCg.CompRest prog w A h₀ L m env elt x scope cl s S P Fin j i ys nw := by
    intro j
    induction j with
    | zero =>
      intro i ys nw hi hj
      have e : i = n := by omega
      subst e
      exact LCg.CompRest.zero (fin ys nw hj)
    | succ j ih =>
      intro i ys nw hi hj
      refine LCg.CompRest.succ ?_
      intro v I oI C oC D m₂ h tk E' hv hC hx F N off ne
      exact wpAny_mono (turn i ys nw v I oI C oC D m₂ h tk E' (by omega) hj hv hC hx F N off ne) (fun y s₂ hq => compEnd_mono hq fun nw' z => ih (i + 1) _ nw' (by omega) z) fun _ _ e => e
  exact key n 0 [] news (by omega) h0
theorem cr_invT {n : Nat} (J : Nat → List Value → List (Addr × Obj) → Prop) (h0 : J 0 [] news)
    (turn : ∀ i ys nw v I oI C oC D m₂ h tk (E' : Value → Shared → Prop), i < n → J i ys nw → P i v → LCg.NsObj oC m₂ → m₂ x = some v → Fr h₀ L h m → News h₀ L h ((I, oI) :: (C, oC) :: (D, LCg.lst ys) :: nw) → LCg.Off3 I C D nw → ((@Ne Nat I C) ∧ (@Ne Nat I D) ∧ (@Ne Nat C D)) →
      wpAny (model prog w) A (isTrue ct (compEnvC scope cl C env) (eval ct (compEnvC scope cl C env))) (fun ok s' => if ok = true then
        wpAny (model prog w) A (eval elt (compEnvC scope cl C env)) (LCg.CompEnd h₀ L m { s with heap := h, toks := tk } I oI C oC D (LCg.lst ys) S (fun y nw' => J (i + 1) (ys ++ [y]) nw')) E' s'
        else LCg.CompEnd h₀ L m { s with heap := h, toks := tk } I oI C oC D (LCg.lst ys) S (fun _ nw' => J (i + 1) ys nw') Value.none s') E' { s with heap := h, toks := tk })
    (fin : ∀ ys nw, J n ys nw → Fin ys nw) : LCt.CompRestT prog w A h₀ L m env ct elt x scope cl s S P Fin n 0 [] news := by
  have key : ∀ (j i : Nat) (ys : List Value) (nw : List (Addr × Obj)), i + j = n → J i ys nw → LCt.CompRestT prog w A h₀ L m env ct elt x scope cl s S P Fin j i ys nw := by
    intro j
    induction j with
    | zero =>
      intro i ys nw hi hj
      have e : i = n := by omega
      subst e
      exact LCt.CompRestT.zero (fin ys nw hj)
    | succ j ih =>
      intro i ys nw hi hj
      refine LCt.CompRestT.succ ?_
      intro v I oI C oC D m₂ h tk E' hv hC hx F N off ne
      refine wpAny_mono (turn i ys nw v I oI C oC D m₂ h tk E' (by omega) hj hv hC hx F N off ne) (fun ok s₂ hq => ?_) fun _ _ e => e
      cases ok with
      | true =>
        simp only [if_true] at hq ⊢
        exact wpAny_mono hq (fun y s₃ hz => compEnd_mono hz fun nw' z => ih (i + 1) _ nw' (by omega) z) fun _ _ e => e
      | false =>
        simp only [Bool.false_eq_true, if_false] at hq ⊢
        exact compEnd_mono hq fun nw' z => ih (i + 1) _ nw' (by omega) z
  exact key n 0 [] news (by omega) h0
end
section
variable {prog : Program} {w : World} {A : Around} {E : Value → Shared → Prop} {Q : Flow → Shared → Prop} {s : Shared} {env : Env} {h₀ : Heap} {L : Addr}
noncomputable def WEx {σ : Type} (h₀ : Heap) (L : Addr) (s : Shared) (Led : σ → List (Addr × Obj)) (ps : σ → List (Str × Value)) (stored : List Str) (m₀ : Str → Option Value) (Pe : σ → Prop) (u : Str → Option Value) (c : σ) (s₂ : Shared) : Prop :=
  ∃ h' tk, s₂ = { s with heap := h', toks := tk } ∧ Fr h₀ L h' (kstB (fun z => if stored.contains z then u z else m₀ z) (ps c)) ∧ News h₀ L h' (Led c) ∧ Pe c
theorem WEx.intro {σ : Type} {Led : σ → List (Addr × Obj)} {ps : σ → List (Str × Value)} {stored : List Str} {m₀ : Str → Option Value} {Pe : σ → Prop} {u : Str → Option Value} {c : σ} {h' : Heap} {tk : Nat}
    (F : Fr h₀ L h' (kstB (fun z => if stored.contains z then u z else m₀ z) (ps c))) (N : News h₀ L h' (Led c)) (hp : Pe c) : WEx h₀ L s Led ps stored m₀ Pe u c { s with heap := h', toks := tk } := ⟨h', tk, rfl, F, N, hp⟩
theorem mw_while {σ : Type} {test : Expr} {body : List Stmt} {pos : Pos} {m₀ : Str → Option Value} (Led : σ → List (Addr × Obj)) (ps : σ → List (Str × Value)) (Facts : σ → Prop) (stored : List Str) (P Pe : σ → Prop) (μ : σ → Nat) (c₀ : σ)
    (F : Fr h₀ L s.heap m₀) (N : News h₀ L s.heap (Led c₀)) (hf : Facts c₀) (hk : ∀ p ∈ ps c₀, m₀ p.1 = some p.2) (hp : P c₀)
    (turn : ∀ (c : σ) (u : Str → Option Value) h tk, Facts c → P c → Fr h₀ L h (kstB (fun z => if stored.contains z then u z else m₀ z) (ps c)) → News h₀ L h (Led c) →
      wpAny (model prog w) A (isTrue test env (eval test env)) (fun b s₂ =>
        if b = true then wpAny (model prog w) A (execs body env) (KswPost h₀ L s Led ps Facts stored m₀ P μ Q c) E s₂ else WEx h₀ L s Led ps stored m₀ Pe u c s₂) E { s with heap := h, toks := tk })
    (exit : ∀ (c : σ) (u : Str → Option Value) h tk, Facts c → Pe c → Fr h₀ L h (kstB (fun z => if stored.contains z then u z else m₀ z) (ps c)) → News h₀ L h (Led c) → Q .next { s with heap := h, toks := tk })
    (hE : PassesOwn (model prog w) A env E := by passes_own) :
    wpAny (model prog w) A (exec (.While test body [] pos) env) Q E s := by
  refine ksw_while Led ps Facts stored P μ c₀ F N hf hk hp (fun c u h tk hf' hp' F' N' => wpAny_mono (turn c u h tk hf' hp' F' N') (fun b s₂ q => ?_) fun _ _ e => e) hE
  cases b with
  | true => simpa using q
  | false =>
    simp only [Bool.false_eq_true, if_false] at q ⊢
    obtain ⟨h', tk', rfl, F2, N2, hp2⟩ := q
    exact exit c u h' tk' hf' hp2 F2 N2
end
theorem wp_cut {M : Model} {A : Around} {E : Value → Shared → Prop} {s : Shared} {t : Sem Flow} {Q : Flow → Shared → Prop} (P : Shared → Prop) (h1 : wpAny M A t (fun f s' => f = .next ∧ P s') E s) (h2 : ∀ s', P s' → Q .next s') : wpAny M A t Q E s :=
  wpAny_mono h1 (fun f s' h => by obtain ⟨rfl, hp⟩ := h; exact h2 s' hp) fun _ _ e => e
end
section
section
variable {prog : Program} {w : World} {A : Around} {E : Value → Shared → Prop} {s : Shared} {h₀ : Heap} {L : Addr} {m : Str → Option Value} {news : List (Addr × Obj)}
theorem item_any {value slice : Expr} {l : Addr} {vs : List Value} {k : Int} {j : Nat} {u : Tok} {x : Value} {Q : Value → Shared → Prop} (hl : s.heap.IsList l vs.toArray) (hx : vs[j]? = some x) (hk : k = (j : Int)) (hj : j < 1000000) (h : Q x s)
    (hs : subscripted slice false (.ref l) (.int k u) = operate [.ref l, .int k u] (getItem (.ref l) (.int k u)) := by with_unfolding_all rfl) (hg : ∀ r, letTemporaryGo value (.ref l) r = pure () := by intro _; with_unfolding_all rfl) :
    wpAny (model prog w) A (subscriptTail value slice (.ref l) (.int k u)) Q E s := by
  subst hk
  exact item_list hl (by omega) (by omega) (by simpa using hx) h hs hg
theorem slice_upto {value slice : Expr} {hp : Heap} {g : Array GenState} {dr : Drawn} {tks : Tok} {os : OsState} {l : Addr} {vs : List Value} {k : Int} {t : Tok} {Q : Value → Shared → Prop}
    (F : Fr h₀ L hp m) (N : News h₀ L hp news) (hl : hp.IsList l vs.toArray) (hk : 0 ≤ k) (hz : vs.length < 1000)
    (h : ∀ a h', Fr h₀ L h' m → (∀ p ∈ news, p.1 ≠ a) → News h₀ L h' ((a, listOf (vs.take k.toNat).toArray 0) :: news) → Q (.ref a) ⟨h', g, dr, tks, os⟩)
    (hs : subscripted slice false (.ref l) (.ref hp.objs.size) = operate [.ref hp.objs.size, .ref l] (getItem (.ref l) (.ref hp.objs.size)) := by with_unfolding_all rfl)
    (ht : ∀ r, letTemporaryGo value (.ref l) r = pure () := by intro _; with_unfolding_all rfl) :
    wpAny (model prog w) A (subscriptTail value slice (.ref l) (.ref hp.objs.size)) Q E ⟨hp.push { cls := .type "slice", data := .fields #[.none, .int k t, .none] }, g, dr, tks, os⟩ := by
  obtain ⟨j, rfl⟩ : ∃ j : Nat, k = (j : Int) := ⟨k.toNat, by omega⟩
  refine slice_list (s := ⟨hp, g, dr, tks, os⟩) F N hl .none (.int _ _) (fun h' F' N' => ?_) hs ht (by rw [List.size_toArray, sizeLine_eq]; omega)
  rw [slicePick_upto'] at N'
  rw [Int.toNat_natCast] at h
  exact h _ h' F' (fun p hp => Nat.ne_of_lt (Nat.lt_succ_of_lt (Heap.lt_size (N p hp).1))) N'
theorem slice_from {value slice : Expr} {hp : Heap} {g : Array GenState} {dr : Drawn} {tks : Tok} {os : OsState} {l : Addr} {vs : List Value} {k : Int} {t : Tok} {Q : Value → Shared → Prop}
    (F : Fr h₀ L hp m) (N : News h₀ L hp news) (hl : hp.IsList l vs.toArray) (hk : 0 ≤ k) (hz : vs.length < 1000)
    (h : ∀ a h', Fr h₀ L h' m → (∀ p ∈ news, p.1 ≠ a) → News h₀ L h' ((a, listOf (vs.drop k.toNat).toArray 0) :: news) → Q (.ref a) ⟨h', g, dr, tks, os⟩)
    (hs : subscripted slice false (.ref l) (.ref hp.objs.size) = operate [.ref hp.objs.size, .ref l] (getItem (.ref l) (.ref hp.objs.size)) := by with_unfolding_all rfl)
    (ht : ∀ r, letTemporaryGo value (.ref l) r = pure () := by intro _; with_unfolding_all rfl) :
    wpAny (model prog w) A (subscriptTail value slice (.ref l) (.ref hp.objs.size)) Q E ⟨hp.push { cls := .type "slice", data := .fields #[.int k t, .none, .none] }, g, dr, tks, os⟩ := by
  obtain ⟨j, rfl⟩ : ∃ j : Nat, k = (j : Int) := ⟨k.toNat, by omega⟩
  refine slice_list (s := ⟨hp, g, dr, tks, os⟩) F N hl (.int _ _) .none (fun h' F' N' => ?_) hs ht (by rw [List.size_toArray, sizeLine_eq]; omega)
  rw [slicePick_from'] at N'
  rw [Int.toNat_natCast] at h
  exact h _ h' F' (fun p hp => Nat.ne_of_lt (Nat.lt_succ_of_lt (Heap.lt_size (N p hp).1))) N'
theorem add_any {l b : Addr} {vs us : List Value} {Q : Value → Shared → Prop} (F : Fr h₀ L s.heap m) (N : News h₀ L s.heap news) (hl : s.heap.IsList l vs.toArray) (hb : s.heap.IsList b us.toArray) (hz : vs.length + us.length < 1000)
    (h : ∀ a h', Fr h₀ L h' m → (∀ p ∈ news, p.1 ≠ a) → News h₀ L h' ((a, listOf (vs ++ us).toArray 0) :: news) → Q (.ref a) { s with heap := h' }) :
    wpAny (model prog w) A (binaryOp .Add (.ref l) (.ref b)) Q E s :=
  add_arrays F N hl hb (fun h' F' N' => h _ h' F' (fun p hp => Nat.ne_of_lt (Heap.lt_size (N p hp).1)) N') (by rw [List.size_toArray, List.size_toArray, sizeLine_eq]; omega)
end
theorem DatAll.right {a b : List (Addr × Obj)} {vs : List Value} {ds : List Dat} (h : DatAll b vs ds) : DatAll (a ++ b) vs ds := DatAll.mono (fun _ hp => List.mem_append_right _ hp) h
theorem DatIn.right {a b : List (Addr × Obj)} {v : Value} {d : Dat} (h : DatIn b v d) : DatIn (a ++ b) v d := DatIn.mono (fun _ hp => List.mem_append_right _ hp) h
section
variable {prog : Program} {w : World} {A : Around} {E : Value → Shared → Prop} {s : Shared} {h₀ : Heap} {L : Addr} {m : Str → Option Value} {news : List (Addr × Obj)}
noncomputable abbrev iterObj (l : Addr) : Obj := { cls := .type "list_iterator", data := .fields #[.ref l, .int 0 0] }
theorem iter_any {l : Addr} {vs : List Value} {Q : Value → Shared → Prop} (F : Fr h₀ L s.heap m) (N : News h₀ L s.heap news) (hl : s.heap.IsList l vs.toArray)
    (h : ∀ a h', Fr h₀ L h' m → (∀ p ∈ news, p.1 ≠ a) → News h₀ L h' ((a, iterObj l) :: news) → Q (.ref a) { s with heap := h' }) :
    wpAny (model prog w) A (call (.builtin "iter") [.ref l]) Q E s := by
  refine call_function_entry (by decide +kernel) (by decide +kernel) kdk_entry_iter (kdk_args_iter _) ?_
  unfold Builtin.«iter»
  refine wpAny_bind (m := someArgs "iter" 1 2 _) (wpAny_of_eq (a := [Value.ref l]) (by first | rfl | kernel_rfl!) ?_)
  dsimp only
  refine wpAny_bind (wpAny_pyIter_list hl ?_)
  exact wpAny_pure ⟨_, rfl, h _ _ (F.push _) (fun p hp => Nat.ne_of_lt (Heap.lt_size (N p hp).1)) (N.push F _)⟩
end
end
section
section
variable {prog : Program} {w : World} {A : Around} {E : Value → Shared → Prop} {s : Shared} {env : Env} {h₀ : Heap} {x : Str} {px : Pos} {body : List Stmt} {Q : Flow → Shared → Prop}
noncomputable def TurnG (h₀ : Heap) (L : Addr) (J : (Str → Option Value) → List (Addr × Obj) → Prop) (own : List (Addr × Obj)) (s₁ : Shared) (f : Flow) (s₂ : Shared) : Prop :=
  match f with
  | .next => InvEndG h₀ L J own s₁ s₂
  | _ => False
theorem mt_listJ {l : Addr} {vs : List Value} {m₀ : Str → Option Value} {news : List (Addr × Obj)} (J : Nat → (Str → Option Value) → List (Addr × Obj) → Prop)
    (hh : A.handled = none) (hl : h₀.IsList l vs.toArray) (F : Fr h₀ env.locals s.heap m₀) (N : News h₀ env.locals s.heap news) (hj : J 0 m₀ news)
    (turn : ∀ i v m₁ news₁ (s₁ : Shared) own, vs[i]? = some v → OwnOff own (news₁.map (·.1)) → J i m₁ news₁ → Fr h₀ env.locals s₁.heap m₁ → News h₀ env.locals s₁.heap (news₁ ++ own) →
      wpAny (model prog w) A (assign (.Name x px) env v) (fun _ s₃ => wpAny (model prog w) A (execs body env) (TurnG h₀ env.locals (J (i + 1)) own s₁) E s₃) E s₁)
    (done : ∀ m₁ news₁ h tk, J vs.length m₁ news₁ → Fr h₀ env.locals h m₁ → News h₀ env.locals h news₁ → Q .next { s with heap := h, toks := tk }) :
    wpAny (model prog w) A (pyIter (.ref l)) (fun it s₂ => LoopAtT prog w A h₀ env (.Name x px) body Q E it s₂) E s := by
  have hls : s.heap.IsList l vs.toArray := hl.at fun o e => F.keep l o e
  obtain ⟨ol, hol, _⟩ := id hl
  have hlt : l < h₀.objs.size := Heap.lt_size hol
  have hne : l ≠ s.heap.objs.size := Nat.ne_of_lt (Nat.lt_trans (Nat.lt_of_lt_of_le hlt F.above) F.ns.lt)
  refine wpAny_pyIter_list hls ?_
  have W := Walks.list (prog := prog) (w := w) hh s.heap.objs.size l hne vs.toArray
  have hlen : vs.toArray.size = vs.length := by simp
  rw [hlen] at W
  refine ⟨_, _, _, vs.length, _, _, m₀, news, (fun i m nw => J i m nw), rfl, W, ?_, ?_, ?_, ⟨⟨_, Heap.get?_push_size _ rfl, rfl, rfl⟩, hls.at fun o e => Heap.get?_push_of_some _ e⟩, F.push _, (fun p hp => ⟨Heap.get?_push_of_some _ (N p hp).1, (N p hp).2⟩), ?_, hj, ?_, ?_⟩
  · intro hm
    rcases List.mem_cons.mp hm with e | hm
    · exact absurd F.ns.lt (e ▸ Nat.lt_irrefl _)
    · exact absurd (Nat.lt_of_lt_of_le hlt F.above) ((List.mem_singleton.mp hm) ▸ Nat.lt_irrefl _)
  · intro b hb
    rw [List.mem_singleton.mp hb]
    exact next_is_new F
  · intro p hp hI
    exact absurd (Heap.lt_size (N p hp).1) ((List.mem_singleton.mp hI) ▸ Nat.lt_irrefl _)
  · intro i s' v Q' _ hq
    exact wpAny_pure hq
  · rintro i v m₁ news₁ s₁ own hin hP hJ hoff hown _ hfp hst F₁ N₁
    have hI0 : h₀.get? s.heap.objs.size = none := next_is_new F
    obtain ⟨⟨oI, hoI, _⟩, _⟩ := id hst
    have hIown : (s.heap.objs.size, oI) ∈ own := hfp _ (List.mem_cons.mpr (.inl rfl)) hI0 _ hoI
    have hsep : OwnOff own (news₁.map (·.1)) := by
      intro p hp b hb e
      obtain ⟨q, hq, rfl⟩ := List.mem_map.mp hb
      rcases List.mem_cons.mp (hown p hp) with h1 | h1
      · exact hoff q hq (List.mem_singleton.mpr (e ▸ h1))
      · have h2 := List.mem_singleton.mp h1
        have h3 := (N₁ q (List.mem_append.mpr (.inr hq))).2.2
        rw [← e, h2, hol] at h3
        cases h3
    have hP' : vs[i]? = some v := by simpa using hP
    have N₂ : News h₀ env.locals s₁.heap (news₁ ++ own) := fun p hp => N₁ p ((List.mem_append.mp hp).elim (fun h => List.mem_append.mpr (.inr h)) fun h => List.mem_append.mpr (.inl h))
    refine wpAny_mono (turn i v m₁ news₁ s₁ own hP' hsep hJ F₁ N₂) (fun _ s₃ p => wpAny_mono p (fun f s₂ p => ?_) fun _ _ e => e) fun _ _ e => e
    have fin : InvEndG h₀ env.locals (J (i + 1)) own s₁ s₂ → LoopStepU h₀ env.locals [s.heap.objs.size] own (J (i + 1)) s₁ .next s₂ := by
      rintro ⟨h', tk, m', news', nx, e, F', N', hn, ho, ha, hm⟩
      refine ⟨rfl, h', tk, m', nx, e, F', fun p hp => N' p ((List.mem_append.mp hp).elim (ho p) (hn p)), fun p hp hq => ?_, hm⟩
      exact ha _ hIown p.1 (List.mem_map.mpr ⟨p, hp, rfl⟩) (List.mem_singleton.mp hq).symm
    cases f with
    | ret v => exact p.elim
    | brk => exact p.elim
    | next => exact fin p
    | cont => exact p.elim
  · intro h' tk m' news' F' N' _ hJ
    exact done m' news' h' tk hJ F' N'
noncomputable def StK (stored : List Str) (m₀ : Str → Option Value) (K : List (Addr × Obj) → Prop) (m : Str → Option Value) (nw : List (Addr × Obj)) : Prop := (∀ z, stored.contains z = false → m z = m₀ z) ∧ K nw
theorem StK.fr {stored : List Str} {m₀ m₁ : Str → Option Value} {K : List (Addr × Obj) → Prop} {nw : List (Addr × Obj)} {h : Heap} {L : Addr} (x : StK stored m₀ K m₁ nw) (F : Fr h₀ L h m₁) : Fr h₀ L h (fun z => if stored.contains z = true then m₁ z else m₀ z) := by
  have : m₁ = fun z => if stored.contains z = true then m₁ z else m₀ z := by
    funext z
    by_cases h : stored.contains z = true
    · rw [if_pos h]
    · rw [if_neg h]; exact x.1 z (by simpa using h)
  exact this ▸ F
theorem mt_listK {l : Addr} {vs : List Value} {m₀ : Str → Option Value} {news : List (Addr × Obj)} (stored : List Str) (K : Nat → List (Addr × Obj) → Prop)
    (hh : A.handled = none) (hl : h₀.IsList l vs.toArray) (F : Fr h₀ env.locals s.heap m₀) (N : News h₀ env.locals s.heap news) (hj : K 0 news)
    (turn : ∀ i v nw (u : Str → Option Value) (s₁ : Shared) own, vs[i]? = some v → OwnOff own (nw.map (·.1)) → K i nw → Fr h₀ env.locals s₁.heap (fun z => if stored.contains z = true then u z else m₀ z) → News h₀ env.locals s₁.heap (nw ++ own) →
      wpAny (model prog w) A (assign (.Name x px) env v) (fun _ s₃ => wpAny (model prog w) A (execs body env) (TurnG h₀ env.locals (StK stored m₀ (K (i + 1))) own s₁) E s₃) E s₁)
    (done : ∀ (u : Str → Option Value) nw h tk, K vs.length nw → Fr h₀ env.locals h (fun z => if stored.contains z = true then u z else m₀ z) → News h₀ env.locals h nw → Q .next { s with heap := h, toks := tk }) :
    wpAny (model prog w) A (pyIter (.ref l)) (fun it s₂ => LoopAtT prog w A h₀ env (.Name x px) body Q E it s₂) E s :=
  mt_listJ (fun i => StK stored m₀ (K i)) hh hl F N ⟨fun _ _ => rfl, hj⟩
    (fun i v m₁ nw s₁ own hv ho hJ F₁ N₁ => turn i v nw m₁ s₁ own hv ho hJ.2 (hJ.fr F₁) N₁)
    (fun m₁ nw h tk hJ F₁ N₁ => done m₁ nw h tk hJ.2 (hJ.fr F₁) N₁)
theorem turn_end {L : Addr} {stored : List Str} {m₀ m' : Str → Option Value} {K : List (Addr × Obj) → Prop} {own news' nx : List (Addr × Obj)} {s₁ : Shared} {h' : Heap} {tk : Nat} (F : Fr h₀ L h' m') (N : News h₀ L h' news') (hm : ∀ z, stored.contains z = false → m' z = m₀ z) (hj : K nx) (ha : OwnOff own (nx.map (·.1)))
    (hn : ∀ p ∈ nx, p ∈ news') (ho : ∀ p ∈ own, p ∈ news') : TurnG h₀ L (StK stored m₀ K) own s₁ .next { s₁ with heap := h', toks := tk } := InvEndG.intro F N ⟨hm, hj⟩ ha hn ho
end
section
variable {M : Model} {A : Around} {E : Value → Shared → Prop} {s : Shared} {h₀ : Heap} {env : Env} {m : Str → Option Value} {x : Str} {v : Value} {c : Addr} {o : Obj} {v₀ : Option Value} {p₁ : Addr × Obj} {rest : List (Addr × Obj)}
theorem cell_store2 {Q : Unit → Shared → Prop} (F : Fr h₀ env.locals s.heap m) (N : News h₀ env.locals s.heap (p₁ :: (c, o) :: rest)) (hd : o.data = .cell v₀) (h1 : p₁.1 ≠ c) (h2 : ∀ p ∈ rest, p.1 ≠ c)
    (h : ∀ h' o', Fr h₀ env.locals h' m → News h₀ env.locals h' (p₁ :: (c, o') :: rest) → o'.data = .cell (some v) → Q () { s with heap := h' })
    (hk : env.scope.kind = .function) (hl : env.kindOf x = some .cell) (hc : env.cells.lookup x = some c) : wpAny M A (storeName env x v) Q E s := by
  have hmem := N (c, o) (.tail _ (.head _))
  refine wpAny_storeName_cell hk hl hc ⟨o, hmem.1, hd⟩ fun h' hv hs => ?_
  obtain ⟨o', ho', hd'⟩ := hv
  refine h h' o' (F.update N (.tail _ (.head _)) hs) (fun p hp => ?_) hd'
  rcases List.mem_cons.mp hp with rfl | hp
  · exact ⟨(hs.2 _ h1).trans (N _ (.head _)).1, (N _ (.head _)).2⟩
  rcases List.mem_cons.mp hp with rfl | hp
  · exact ⟨ho', hmem.2⟩
  · exact ⟨(hs.2 _ (h2 p hp)).trans (N _ (.tail _ (.tail _ hp))).1, (N _ (.tail _ (.tail _ hp))).2⟩
end
section
variable {prog : Program} {w : World} {A : Around} {E : Value → Shared → Prop} {s : Shared} {h₀ : Heap} {L : Addr} {m : Str → Option Value} {news : List (Addr × Obj)}
theorem append_any {D : Addr} {its : Array Value} {n : Nat} {x : Value} {Q : Value → Shared → Prop} (F : Fr h₀ L s.heap m) (N : News h₀ L s.heap news) (hm : (D, listOf its n) ∈ news) (hsz : its.size ≤ sizeLine) (news' : List (Addr × Obj))
    (hn : ∀ p ∈ news', p = (D, listOf (its.push x) (n + 1)) ∨ (p ∈ news ∧ p.1 ≠ D))
    (h : ∀ h', Fr h₀ L h' m → News h₀ L h' news' → Q .none { s with heap := h' }) : wpAny (model prog w) A (call (.builtin "list.append") [.ref D, x]) Q E s := by
  refine append_at (hsz := hsz) (N.get hm) fun h' hs ho' => h h' (F.update N hm hs) fun p hp => ?_
  rcases hn p hp with rfl | ⟨h1, h2⟩
  · exact ⟨ho', (N _ hm).2⟩
  · exact ⟨(hs.2 _ h2).trans (N p h1).1, (N p h1).2⟩
end
end
section
noncomputable def CanRaise (H : Option Value) (h : Heap) : Prop := H = none ∨ ∃ e1 o1 vs1, H = some (.ref e1) ∧ h.get? e1 = some o1 ∧ o1.data = .fields vs1 ∧ vs1[2]? = some .none
structure NewX (h h' : Heap) (e : Addr) (cls : String) : Prop where
  keeps : ∀ b o, h.get? b = some o → h'.get? b = some o
  new : h.get? e = none
  there : ∃ ob vs a0 c, h'.get? e = some ob ∧ ob.cls = .type cls ∧ ob.data = .fields vs ∧ vs[0]? = some a0 ∧ vs[1]? = some .none ∧ vs[2]? = some c ∧ 1 < vs.size
structure NewX0 (H : Option Value) (h h' : Heap) (e : Addr) (cls : String) : Prop extends NewX h h' e cls where
  ctx : H = none → ∃ ob vs, h'.get? e = some ob ∧ ob.data = .fields vs ∧ vs[2]? = some .none
theorem entry_unchain : entryFor table "proto.unchain" = some Builtin.«proto.unchain» := entryFor_of_tree (by kernel_rfl)
section
variable {prog : Program} {w : World} {A : Around} {E : Value → Shared → Prop} {s : Shared}
theorem raiseNew_x {α : Type} {e : Addr} {ob : Obj} {t : Value} {cls : String} {h₀ : Heap} {Q : α → Shared → Prop} (hk : ∀ b o, h₀.get? b = some o → s.heap.get? b = some o) (hn : h₀.get? e = none)
    (he : s.heap.get? e = some ob) (hc : ob.cls = .type cls) (hd : ob.data = .fields #[t, .none, .none, .none, .bool false, .none]) (hA : CanRaise A.handled h₀)
    (h : ∀ h', NewX0 A.handled h₀ h' e cls → E (.ref e) { s with heap := h' }) : wpAny (model prog w) A (raiseNew (.ref e) : Sem α) Q E s := by
  unfold raiseNew
  refine wpAny_bind (wpAny_handled ?_)
  rcases hA with hA | ⟨e1, o1, vs1, hA, h1, hd1, hv⟩
  · rw [hA]
    have := h s.heap ⟨⟨hk, hn, ob, _, t, .none, he, hc, hd, rfl, rfl, rfl, by simp⟩, fun _ => ⟨ob, _, he, hd, rfl⟩⟩
    first | exact wpAny_throw this | exact wpAny_bind (wpAny_pure (wpAny_throw this))
  · rw [hA]
    have hne : e1 ≠ e := fun q => by rw [q, hn] at h1; cases h1
    have hne' : (Value.ref e1 != Value.ref e) = true := by simpa using hne
    dsimp only
    rw [if_pos hne']
    refine wpAny_bind (wpAny_holding (wpAny_runValue (codeAny_builtin entry_unchain ?_)))
    unfold Builtin.«proto.unchain»
    dsimp only
    refine wpAny_bind (wpAny_field (hk _ _ h1) hd1 hv ?_)
    rw [if_pos (by rfl)]
    unfold ret
    refine wpAny_bind (wpAny_pure (wpAny_pure ?_))
    dsimp only
    have hd' := Obj.data_mapFields hd (·.setIfInBounds 2 (Value.ref e1))
    have he' := Heap.get?_update_self (Obj.mapFields (·.setIfInBounds 2 (Value.ref e1))) he (Obj.isFreed_of_fields hd')
    refine wpAny_bind ?_
    refine wpAny_setField (a := e) (i := 2) he hd (by simp) ?_
    refine wpAny_throw (h _ ⟨⟨fun b o hb => ?_, hn, _, _, t, .ref e1, he', by rw [Obj.cls_mapFields, hc], hd', by simp, by simp, by simp, by simp⟩, fun q => ?_⟩)
    · rw [Heap.get?_update_other _ _ (fun q => by rw [← q, hn] at hb; cases hb)]
      exact hk _ _ hb
    · rw [hA] at q; cases q
theorem raiseWords_x {α : Type} {cls msg : String} {Q : α → Shared → Prop} (hp : PlainExc cls) (hA : CanRaise A.handled s.heap) (h : ∀ h' tk e, NewX0 A.handled s.heap h' e cls → E (.ref e) { s with heap := h', toks := tk }) :
    wpAny (model prog w) A (raiseErrorWords cls msg : Sem α) Q E s := by
  unfold raiseErrorWords
  refine wpAny_bind (wpAny_mkText (wpAny_bind ?_))
  unfold newExc newTuple
  refine wpAny_bind (wpAny_newObj_type ?_)
  refine wpAny_bind (m := firstArgMember _ _) (wpAny_of_eq (a := Value.none) (by simp only [firstArgMember, hp.first]; rfl) ?_)
  rw [hp.own]
  refine wpAny_newObj_type ?_
  exact raiseNew_x (h₀ := s.heap) (fun b o hb => Heap.get?_push_of_some _ (Heap.get?_push_of_some _ hb)) (Heap.get?_none_of_le (by simp)) (Heap.get?_push_size _ rfl) rfl (by simp; rfl) hA fun h' x => h h' _ _ x
theorem getItem_out_x {l : Addr} {items : Array Value} {k : Int} {t : Tok} {Q : Value → Shared → Prop} (hA : CanRaise A.handled s.heap) (hl : s.heap.IsList l items) (hlo : 0 ≤ k) (hout : (items.size : Int) ≤ k) (hhi : k < 2 ^ 63)
    (hE : ∀ h' tk e, NewX0 A.handled s.heap h' e "IndexError" → E (.ref e) { s with heap := h', toks := tk }) : wpAny (model prog w) A (getItem (.ref l) (.int k t)) Q E s := by
  have hfit : Builtin.List.listFitsIndex k = true := fitsIndex_both (by omega) hhi
  clear hhi
  obtain ⟨o, ho, hc, ne, hd⟩ := id hl
  unfold getItem
  try with_reducible refine wpAny_holding ?_
  first | refine wpAny_bind (wpAny_pure ?_) | skip
  refine wpAny_bind (wpAny_sequenceKey hl.typeIs (by decide) ?_)
  refine wpAny_bind (wpAny_callSpecial?_slot (name := Str.ofString "__getitem__") hl.typeIs slot_list_getitem
    (wpAny_call_entry slot_list_getitem hl.typeIs entry_list_getitem ?_ (args_list_getitem _ _)))
  show wpAny _ _ (Builtin.List.listSubscript? (.int k t) >>= _) _ _ s
  refine wpAny_bind (wpAny_listSubscript_int hfit ?_)
  cases k with
  | ofNat j =>
    have hx : items[j]? = none := Array.getElem?_eq_none (by have : (items.size : Int) ≤ (j : Int) := hout; omega)
    show wpAny _ _ ((seqItemAt l j >>= fun r => pure (r.map (j, ·))) >>= _) _ _ s
    refine wpAny_bind (wpAny_bind (wpAny_seqItemAt ho hd (wpAny_pure ?_)))
    rw [hx]
    first
      | exact wpAny_bind (wpAny_rule (by first | exact raiseWords_x plainExc_IndexError hA hE | fail "no"))
      | exact wpAny_bind (wpAny_rule (wpAny_bind (by first | exact raiseWords_x plainExc_IndexError hA hE | fail "no")))
      | exact wpAny_bind (wpAny_bind (wpAny_rule (by first | exact raiseWords_x plainExc_IndexError hA hE | fail "no")))
      | exact wpAny_rule (by first | exact raiseWords_x plainExc_IndexError hA hE | fail "no")
  | negSucc j => exact absurd hlo (by have := Int.negSucc_lt_zero j; omega)
set_option maxRecDepth 100000 in
theorem item_out_x {value slice : Expr} {l : Addr} {vs : List Value} {k : Int} {j : Nat} {u : Tok} {Q : Value → Shared → Prop} (hA : CanRaise A.handled s.heap) (hl : s.heap.IsList l vs.toArray) (hk : k = (j : Int)) (hj : vs.length ≤ j) (hj2 : j < 1000000)
    (hE : ∀ h' tk e, NewX0 A.handled s.heap h' e "IndexError" → E (.ref e) { s with heap := h', toks := tk })
    (hs : subscripted slice false (.ref l) (.int k u) = operate [.ref l, .int k u] (getItem (.ref l) (.int k u)) := by with_unfolding_all rfl) (hg : ∀ r, letTemporaryGo value (.ref l) r = pure () := by intro _; with_unfolding_all rfl) :
    wpAny (model prog w) A (subscriptTail value slice (.ref l) (.int k u)) Q E s := by
  subst hk
  exact subscriptTail_builtin hl.typeIs slot_list_getitem.lookup (getItem_out_x hA hl (by omega) (by simp only [List.size_toArray]; omega) (by omega) hE) hs hg
end
structure XO (e T : Addr) (ob ot : Obj) (cls : String) (c fl : Value) : Prop where
  ne : T ≠ e
  cls : ob.cls = .type cls
  dat : ∃ vs, ob.data = .fields vs ∧ vs[1]? = some (.ref T) ∧ vs[2]? = some c
  tdat : ∃ tvs, ot.data = .fields tvs ∧ tvs[3]? = some fl
section
variable {prog : Program} {w : World} {A₀ : Around} {E : Value → Shared → Prop} {s' : Shared} {h₀ h : Heap} {L a e Lc : Addr} {m : Str → Option Value} {name : Str} {scope : Scope} {cd : Value} {X : String} {env : Env} {oL : Obj} {new : List (Addr × Obj)}
theorem none_of_keeps {h h' : Heap} {b : Addr} (hk : ∀ b o, h.get? b = some o → h'.get? b = some o) (hn : h'.get? b = none) : h.get? b = none := by
  cases q : h.get? b with
  | none => rfl
  | some o => have := hk _ _ q; rw [hn] at this; cases this
theorem fr_other {h₀ h h' : Heap} {L T : Addr} {m : Str → Option Value} (F : Fr h₀ L h m) (hL : T ≠ L) (hT : h₀.get? T = none) (o : ∀ b, b ≠ T → h'.get? b = h.get? b) : Fr h₀ L h' m := by
  obtain ⟨oF, es, ep, h1, h2, h3, h4⟩ := F.ns
  exact ⟨⟨oF, es, ep, (o _ (Ne.symm hL)).trans h1, h2, h3, h4⟩, fun b ob hb => (o b fun q => by rw [q, hT] at hb; cases hb).trans (F.keep b ob hb), F.above⟩
theorem fr_none {h₀ h : Heap} {L : Addr} {m : Str → Option Value} (F : Fr h₀ L h m) : h₀.get? L = none := by
  cases q : h₀.get? L with
  | none => rfl
  | some o => exact absurd (Nat.lt_of_lt_of_le (Heap.lt_size q) F.above) (Nat.lt_irrefl _)
set_option maxRecDepth 100000 in
theorem noted_x {Q : Unit → Shared → Prop} (hfr : A₀.frames = some [env]) (hf : env.frame = some Lc) (hkd : env.scope.kind ≠ .module) (hx : NewX h s'.heap e X) (F : Fr h₀ L h m) (N : News h₀ L h (new ++ [(Lc, oL)])) (hoL : ∃ es ep, oL.data = .dict es ep) (hne : ∀ p ∈ new, p.1 ≠ Lc)
    (k : ∀ h' sl T ob ot c, (∀ ob vs, s'.heap.get? e = some ob → ob.data = .fields vs → vs[2]? = some c) → Fr h₀ L h' m → News h₀ L h' ((e, ob) :: (T, ot) :: (new ++ [(Lc, { oL with slots := sl })])) → XO e T ob ot X c (rawInt L) → (∀ p ∈ new ++ [(Lc, { oL with slots := sl })], p.1 ≠ e ∧ p.1 ≠ T) → Q () { s' with heap := h' })
    (hk : scope.kind = .function := by rfl) : wpAny (model prog w) (A₀.deeper (envOf name scope L a cd)) (noteFrame (.ref e) (envOf name scope L a cd)) Q E s' := by
  obtain ⟨ob, vs, a0, c, he, hcls, hd, h0, h1, h2, hsz⟩ := hx.there
  obtain ⟨oF, es, ep, hL, hLd, hLk, hLf⟩ := F.ns
  have hLn := fr_none F
  have hC := N (Lc, oL) (List.mem_append_right _ (.head _))
  have hLs := hx.keeps _ _ hL
  have hCs := hx.keeps _ _ hC.1
  have hl : s'.heap.FunFrames h₀ (envOf name scope L a cd :: [env]) := by
    refine ⟨?_, ⟨L, oF, rfl, hLn, hLs, fun vs q => by rw [hLd] at q; cases q⟩, hkd, ⟨Lc, oL, hf, hC.2.2, hCs, fun vs q => ?_⟩, trivial⟩
    · show scope.kind ≠ .module
      rw [hk]; decide
    · obtain ⟨_, _, q2⟩ := hoL
      rw [q2] at q; cases q
  have hnf : ∀ b, b ∉ ((envOf name scope L a cd :: [env]).filterMap (·.frame)) → b ≠ L ∧ b ≠ Lc := by
    intro b hb
    refine ⟨fun q => hb (List.mem_filterMap.mpr ⟨_, .head _, by rw [q]; rfl⟩), fun q => hb (List.mem_filterMap.mpr ⟨env, .tail _ (.head _), by rw [q]; exact hf⟩)⟩
  have hnf' : ∀ b, b ≠ L → b ≠ Lc → b ∉ ((envOf name scope L a cd :: [env]).filterMap (·.frame)) := by
    intro b h1 h2 hb
    obtain ⟨x, hx, hxf⟩ := List.mem_filterMap.mp hb
    rcases List.mem_cons.mp hx with rfl | hx
    · exact h1 (Option.some.inj hxf).symm
    · rw [List.mem_singleton.mp hx, hf] at hxf
      exact h2 (Option.some.inj hxf).symm
  have heL : e ≠ L := fun q => by have := hx.new; rw [q, hL] at this; cases this
  have heC : e ≠ Lc := fun q => by have := hx.new; rw [q, hC.1] at this; cases this
  unfold noteFrame
  simp only [show (envOf name scope L a cd).frame = some L from rfl]
  refine wpAny_bind (wpAny_field he hd (x := .none) h1 ?_)
  rw [if_neg (by decide)]
  refine wpAny_bind (wpAny_frameOf_fun (Around.frames_deeper hfr) hl rfl fun h₁ hs₁ => ?_)
  refine wpAny_bind (wpAny_entryPlaceOf fun pl hpl => ?_)
  unfold EntryCells.newEntry newFields
  refine wpAny_bind (wpAny_newObj_type ?_ (hpl.sizeOk5 _ _ _ _ _))
  have he₁ : h₁.get? e = some ob := (hs₁.2.1 e (hnf' e heL heC)).trans he
  have hTe : h₁.objs.size ≠ e := Nat.ne_of_gt (Heap.lt_size he₁)
  refine wpAny_setField (Heap.get?_push_of_some _ he₁) hd hsz ?_
  have hd₃ := Obj.data_mapFields hd (·.setIfInBounds 1 (Value.ref h₁.objs.size))
  obtain ⟨tb, htb⟩ : ∃ tb : Obj, tb = { cls := .type "traceback", dict := none, data := .fields ([Value.none, .ref L, .none, rawInt L, .none] ++ (if pl.isEmpty then List.replicate 6 Value.none else pl)).toArray } := ⟨_, rfl⟩
  have he₃ := Heap.get?_update_self (h := h₁.push tb) (Obj.mapFields (·.setIfInBounds 1 (Value.ref h₁.objs.size))) (Heap.get?_push_of_some _ he₁) (Obj.isFreed_of_fields hd₃)
  have hT₃ : ((h₁.push tb).update e (Obj.mapFields (·.setIfInBounds 1 (Value.ref h₁.objs.size)))).get? h₁.objs.size = some tb :=
    (Heap.get?_update_other _ _ (Ne.symm hTe)).trans (Heap.get?_push_size h₁ (by rw [htb]; rfl))
  have keep : ∀ b o, b ≠ e → h₁.get? b = some o → ((h₁.push tb).update e (Obj.mapFields (·.setIfInBounds 1 (Value.ref h₁.objs.size)))).get? b = some o := fun b o hbe hb => by
    rw [Heap.get?_update_other _ _ (Ne.symm hbe)]
    exact Heap.get?_push_of_some _ hb
  have old : ∀ b o, b ≠ L → b ≠ Lc → h.get? b = some o → h₁.get? b = some o ∧ b ≠ e := fun b o n1 n2 hb =>
    ⟨(hs₁.2.1 b (hnf' b n1 n2)).trans (hx.keeps _ _ hb), fun q => by have := hx.new; rw [← q, hb] at this; cases this⟩
  have none₁ : ∀ b, h₁.get? b = none → h₀.get? b = none := fun b hb => by
    cases q : h₀.get? b with
    | none => rfl
    | some o =>
      have n1 : b ≠ L := fun z => by rw [z, hLn] at q; cases q
      have n2 : b ≠ Lc := fun z => by rw [z, hC.2.2] at q; cases q
      have := (old b o n1 n2 (F.keep _ _ q)).1
      rw [hb] at this; cases this
  obtain ⟨slF, hF₁⟩ := hs₁.2.2 _ _ hLs
  obtain ⟨slC, hC₁⟩ := hs₁.2.2 _ _ hCs
  have hF₃ := keep L _ (Ne.symm heL) hF₁
  have hC₃ := keep Lc _ (Ne.symm heC) hC₁
  have hTn : ∀ b o, h₁.get? b = some o → b ≠ h₁.objs.size := fun b o hb => Nat.ne_of_lt (Heap.lt_size hb)
  have hnw : ∀ p ∈ new ++ [(Lc, { oL with slots := slC })], ((h₁.push tb).update e (Obj.mapFields (·.setIfInBounds 1 (Value.ref h₁.objs.size)))).get? p.1 = some p.2 ∧ p.1 ≠ L ∧ h₀.get? p.1 = none ∧ p.1 ≠ e ∧ p.1 ≠ h₁.objs.size := by
    intro p hp
    rcases List.mem_append.mp hp with hp | hp
    · obtain ⟨x1, x2, x3⟩ := N p (List.mem_append_left _ hp)
      obtain ⟨y1, y2⟩ := old p.1 p.2 x2 (hne p hp) x1
      exact ⟨keep _ _ y2 y1, x2, x3, y2, hTn _ _ y1⟩
    · rw [List.mem_singleton.mp hp]
      exact ⟨hC₃, hC.2.1, hC.2.2, Ne.symm heC, hTn _ _ hC₁⟩
  rw [← htb]
  refine k _ slC h₁.objs.size _ tb c (fun ob' vs' q1 q2 => ?_) ⟨⟨_, es, ep, hF₃, hLd, hLk, hLf⟩, fun b o hb => ?_, F.above⟩ ?_ ⟨hTe, by rw [Obj.cls_mapFields, hcls], ⟨_, hd₃, by simp [hsz], by rw [Array.getElem?_setIfInBounds_ne (by decide)]; exact h2⟩, ⟨_, by rw [htb], ?_⟩⟩ (fun p hp => (hnw p hp).2.2.2)
  · rw [he] at q1
    cases q1
    rw [hd] at q2
    cases q2
    exact h2
  · have n1 : b ≠ L := fun z => by rw [z, hLn] at hb; cases hb
    have n2 : b ≠ Lc := fun z => by rw [z, hC.2.2] at hb; cases hb
    obtain ⟨y1, y2⟩ := old b o n1 n2 (F.keep _ _ hb)
    exact keep _ _ y2 y1
  · intro p hp
    rcases List.mem_cons.mp hp with rfl | hp
    · exact ⟨he₃, heL, none_of_keeps F.keep hx.new⟩
    rcases List.mem_cons.mp hp with rfl | hp
    · exact ⟨hT₃, fun q => hTn _ _ hF₁ q.symm, none₁ _ (Heap.get?_none_of_le (Nat.le_refl _))⟩
    · obtain ⟨x1, x2, x3, _⟩ := hnw p hp
      exact ⟨x1, x2, x3⟩
  · first | (simp; done) | (rcases hpl with rfl | ⟨_, _, _, _, _, _, _, rfl⟩ <;> simp)
end
section
variable {prog : Program} {w : World} {A : Around} {E : Value → Shared → Prop} {s : Shared} {h₀ : Heap} {L e T a : Addr} {m : Str → Option Value} {X : String} {c fl : Value} {ob ot : Obj} {rest : List (Addr × Obj)} {name : Str} {scope : Scope} {cd : Value}
theorem again_x {Q : Unit → Shared → Prop} (N : News h₀ L s.heap ((e, ob) :: (T, ot) :: rest)) (x : XO e T ob ot X c (rawInt L)) (h : Q () s) : wpAny (model prog w) A (noteFrame (.ref e) (envOf name scope L a cd)) Q E s := by
  obtain ⟨vs, hd, h1, _⟩ := x.dat
  obtain ⟨tvs, htd, h3⟩ := x.tdat
  unfold noteFrame
  simp only [show (envOf name scope L a cd).frame = some L from rfl]
  refine wpAny_bind (wpAny_field (N _ (.head _)).1 hd h1 ?_)
  rw [if_pos (show (Value.ref T != Value.none) = true from by simp)]
  refine wpAny_bind (wpAny_field (N _ (.tail _ (.head _))).1 htd h3 ?_)
  rw [if_pos (show (rawInt L == rawInt L) = true from by first | (simp; done) | exact beq_self_eq_true _)]
  exact wpAny_pure h
theorem set_x {Q : Unit → Shared → Prop} (f : Option Addr) (F : Fr h₀ L s.heap m) (N : News h₀ L s.heap ((e, ob) :: (T, ot) :: rest)) (x : XO e T ob ot X c fl) (hap : ∀ p ∈ rest, p.1 ≠ e ∧ p.1 ≠ T)
    (h : ∀ h' ot', Fr h₀ L h' m → News h₀ L h' ((e, ob) :: (T, ot') :: rest) → XO e T ob ot' X c (f.elim Value.none fun f => rawInt f) → Q () { s with heap := h' }) : wpAny (model prog w) A (setFlight (.ref e) f) Q E s := by
  obtain ⟨vs, hd, h1, h2⟩ := x.dat
  obtain ⟨tvs, htd, h3⟩ := x.tdat
  have hsz := (Array.getElem?_eq_some_iff.mp h3).1
  have nT := N (T, ot) (.tail _ (.head _))
  have ne := N (e, ob) (.head _)
  unfold setFlight
  refine wpAny_bind (wpAny_field ne.1 hd h1 ?_)
  rw [if_pos (show (Value.ref T != Value.none) = true from by simp)]
  have hd₃ := Obj.data_mapFields htd (·.setIfInBounds 3 (f.elim Value.none fun f => rawInt f))
  have hT' := Heap.get?_update_self (h := s.heap) (Obj.mapFields (·.setIfInBounds 3 (f.elim Value.none fun f => rawInt f))) nT.1 (Obj.isFreed_of_fields hd₃)
  have other : ∀ b, b ≠ T → (s.heap.update T (Obj.mapFields (·.setIfInBounds 3 (f.elim Value.none fun f => rawInt f)))).get? b = s.heap.get? b := fun b hb => Heap.get?_update_other _ _ (Ne.symm hb)
  refine wpAny_setField nT.1 htd hsz (h _ _ (fr_other F nT.2.1 nT.2.2 other) (fun p hp => ?_) ⟨x.ne, x.cls, ⟨vs, hd, h1, h2⟩, ⟨_, hd₃, by simp [hsz]⟩⟩)
  rcases List.mem_cons.mp hp with rfl | hp
  · exact ⟨(other _ (Ne.symm x.ne)).trans ne.1, ne.2⟩
  rcases List.mem_cons.mp hp with rfl | hp
  · exact ⟨hT', nT.2⟩
  · have := N p (.tail _ (.tail _ hp))
    exact ⟨(other _ (hap p hp).2).trans this.1, this.2⟩
theorem pass_x {α : Type} {what : String} {Q : α → Shared → Prop} (F : Fr h₀ L s.heap m) (N : News h₀ L s.heap ((e, ob) :: (T, ot) :: rest)) (x : XO e T ob ot X c fl) (hap : ∀ p ∈ rest, p.1 ≠ e ∧ p.1 ≠ T)
    (h : ∀ h' ot', Fr h₀ L h' m → News h₀ L h' ((e, ob) :: (T, ot') :: rest) → XO e T ob ot' X c (rawInt L) → E (.ref e) { s with heap := h' }) : wpAny (model prog w) A (PySem.passOn what (.ref e) (envOf name scope L a cd) : Sem α) Q E s := by
  obtain ⟨vs, hd, h1, h2⟩ := x.dat
  unfold PySem.passOn
  refine wpAny_bind (wpAny_field (N _ (.head _)).1 hd h1 ?_)
  rw [if_neg (by simp)]
  refine wpAny_bind (set_x (some L) F N x hap fun h' ot' F' N' x' => ?_)
  exact wpAny_throw (h h' ot' F' N' x')
end
theorem code_tries {prog : Program} {w : World} {A : Around} {s : Shared} {h₀ : Heap} {L : Addr} {m : Str → Option Value} {news : List (Addr × Obj)} {K : Frag} {p : Program} {loose : List Str} {mean : ExcName → Option Value} {mg mb : Str → Option Value}
    {R : Result → Shared → Prop} {name qual : Str} {params : Arguments} {body : List Stmt} {scope : Scope} {dV kV doc pm cdv ct oc : Value} {an od : Option Addr} {osl : Array (Option Value)} {f : Addr} {args : Args} {binds : List (Str × Value)}
    (F : Fr h₀ L s.heap m) (X₀ : K.In h₀) (N : News h₀ L s.heap news) (T : Top p loose mean mg mb h₀)
    (ho : K.lookup f = some ⟨oc, od, .func (fnOf name qual params body scope dV kV doc pm an cdv ct), osl⟩) (hcd : codeIn K cdv qual = true) (hroom : A.depth < recursionLimit)
    (hbind : BindsTo s (fnOf name qual params body scope dV kV doc pm an cdv ct) args binds) (hloc : ∀ y ∈ binds, scope.names.lookup y.1 = some .local)
    (h : ∀ oL h₁, (∃ es ep, oL.data = .dict es ep) → (∀ (h' : Heap) sl, h'.get? L = some { oL with slots := sl } → h'.Ns L m) → (∀ p ∈ news, p.1 ≠ L) → Fr h₀ s.heap.objs.size h₁ (fun y => binds.reverse.lookup y) → News h₀ s.heap.objs.size h₁ (news ++ [(L, oL)]) →
      wpAny (model prog w) (A.deeper (envOf qual scope s.heap.objs.size f cdv)) (execs body (envOf qual scope s.heap.objs.size f cdv))
        (fun fl s' => R (.ok (.ret (match fl with | .ret v => v | _ => .none))) s')
        (fun e s' => wpAny (model prog w) (A.deeper (envOf qual scope s.heap.objs.size f cdv)) (leaving (envOf qual scope s.heap.objs.size f cdv) e) (fun _ s'' => R (.error e) s'') (fun e' s'' => R (.error e') s'') s')
        { s with heap := h₁, toks := s.toks + binds.length })
    (hco : scope.isCoroutine = false) (hgen : scope.isGenerator = false) (hk : scope.kind = .function)
    (hcell : ∀ x ∈ scope.names, x.2 ≠ .cell) : codeAny (model prog w) A (.call (.ref f) args) R s := by
  have X := X₀.keeps F.keep
  obtain ⟨oL, es, ep, hL, hLd, hLk, hLf⟩ := F.ns
  have hLt := Heap.lt_size hL
  refine codeAny_call_def (fd := fnOf name qual params body scope dV kV doc pm an cdv ct) (body := body) (binds := binds) hroom (X _ _ ho) rfl (T.nolimit.keeps F.keep) (codeRec_of X hcd) rfl hbind hcell hloc (fun h₁ hns hk₁ => ?_) hco hgen hk
  refine h oL h₁ ⟨es, ep, hLd⟩ (fun h' sl e => ⟨_, es, ep, e, hLd, hLk, hLf⟩) (fun p hp => (N p hp).2.1) ⟨hns, fun b o e => hk₁ b o (F.keep b o e), Nat.le_trans F.above (Nat.le_of_lt hLt)⟩ (fun p hp => ?_)
  rcases List.mem_append.mp hp with hp | hp
  · obtain ⟨h1, h2, h3⟩ := N p hp
    exact ⟨hk₁ _ _ h1, Nat.ne_of_lt (Heap.lt_size h1), h3⟩
  · rw [List.mem_singleton.mp hp]
    exact ⟨hk₁ _ _ hL, Nat.ne_of_lt hLt, fr_none F⟩
theorem back_tries {h₀ h' : Heap} {L L' : Addr} {m m' : Str → Option Value} {oL : Obj} {sl : Array (Option Value)} {new : List (Addr × Obj)} (hab : h₀.objs.size ≤ L) (hC : ∀ (h' : Heap) sl, h'.get? L = some { oL with slots := sl } → h'.Ns L m) (F' : Fr h₀ L' h' m') (N' : News h₀ L' h' (new ++ [(L, { oL with slots := sl })])) (hne : ∀ p ∈ new, p.1 ≠ L) :
    Fr h₀ L h' m ∧ News h₀ L h' new := by
  have hL := (N' _ (List.mem_append_right _ (.head _))).1
  refine ⟨⟨hC _ sl hL, F'.keep, hab⟩, fun p hp => ?_⟩
  obtain ⟨x1, _, x3⟩ := N' p (List.mem_append_left _ hp)
  exact ⟨x1, hne p hp, x3⟩
section
variable {prog : Program} {w : World} {A₀ : Around} {E : Value → Shared → Prop} {s : Shared} {h₀ : Heap} {L e T a : Addr} {m : Str → Option Value} {X : String} {c fl : Value} {ob ot : Obj} {rest : List (Addr × Obj)} {name : Str} {scope : Scope} {cd : Value}
  {K : Frag} {p : Program} {loose : List Str} {mean : ExcName → Option Value} {mg mb : Str → Option Value} {x : Str} {np pos : Pos} {b₀ : Stmt} {suite : List Stmt} {hs : List ExceptHandler} {T' : String}
theorem clause_x {Q : Flow → Shared → Prop} (F : Fr h₀ L s.heap m) (N : News h₀ L s.heap ((e, ob) :: (T, ot) :: rest)) (xo : XO e T ob ot X c fl) (hap : ∀ p ∈ rest, p.1 ≠ e ∧ p.1 ≠ T) (X₀ : K.In h₀) (P : Top p loose mean mg mb h₀)
    (ex : nsIn K mainGlobals x = some none) (hv : bootBuiltins x = some (.type T')) (hn : x ≠ "__name__")
    (hexc : isSubtype (.type T') (.type "BaseException") = pure true) (hnt : isSubtype (.type ((Manifest.find? T').elim "type" fun y => y.metatype)) (.type "tuple") = pure false) (hsub : isSubtype (.type X) (.type T') = pure true)
    (k : ∀ h' ot', Fr h₀ L h' m → News h₀ L h' ((e, ob) :: (T, ot') :: rest) → XO e T ob ot' X c .none → wpAny (model prog w) ((A₀.deeper (envOf name scope L a cd)).mark (some (.ref e))) (execs (b₀ :: suite) (envOf name scope L a cd)) Q E { s with heap := h' })
    (hE : PassesOwnAt (model prog w) ((A₀.deeper (envOf name scope L a cd)).mark (some (.ref e))) (A₀.deeper (envOf name scope L a cd)) (envOf name scope L a cd) E)
    (hk : scope.kind = .function := by rfl) (hxk : (envOf name scope L a cd).kindOf x = some .globalImplicit := by rfl) (hd : (x == ("__debug__" : Str)) = false := by decide) :
    wpAny (model prog w) (A₀.deeper (envOf name scope L a cd)) (handleBy (.ref e) (envOf name scope L a cd) (.ExceptHandler (some (.Name x np)) none (b₀ :: suite) pos :: hs)) Q E s := by
  refine wpAny_handleBy_builtin (X := X) (T := T') (b := true) hexc hnt hsub (wpAny_passesOwnAt hE (name_B F X₀ (topRead_of P) ex hv hn ⟨rfl, ⟨ob, (N _ (.head _)).1, xo.cls⟩, ?_⟩ hk hxk hd))
  rw [if_pos rfl]
  exact set_x none F N xo hap fun h' ot' F' N' x' => wpAny_passesOwnAt hE (k h' ot' F' N' x')
end
section
variable {prog : Program} {w : World} {A : Around} {E : Value → Shared → Prop} {s : Shared}
theorem item_or_x {value slice : Expr} {l : Addr} {vs : List Value} {xs : List Str} {k : Int} {j : Nat} {u : Tok} {Q : Value → Shared → Prop} (hA : CanRaise A.handled s.heap) (hl : s.heap.IsList l vs.toArray) (hS : StrsAre vs xs) (hk : k = (j : Int)) (hj : j < 1000000)
    (h0 : xs.length ≤ j → ∀ h' tk e, NewX0 A.handled s.heap h' e "IndexError" → E (.ref e) { s with heap := h', toks := tk })
    (h1 : ∀ x t, xs[j]? = some x → Q (.str x t) s)
    (hs : subscripted slice false (.ref l) (.int k u) = operate [.ref l, .int k u] (getItem (.ref l) (.int k u)) := by with_unfolding_all rfl) (hg : ∀ r, letTemporaryGo value (.ref l) r = pure () := by intro _; with_unfolding_all rfl) :
    wpAny (model prog w) A (subscriptTail value slice (.ref l) (.int k u)) Q E s := by
  have hlen := hS.len_eq
  rcases Nat.lt_or_ge j xs.length with h | h
  · obtain ⟨t, ht⟩ := hS.at (List.getElem?_eq_getElem h)
    subst hk
    exact item_list hl (by omega) (by omega) (by simpa using ht) (h1 _ _ (List.getElem?_eq_getElem h)) hs hg
  · exact item_out_x hA hl hk (by omega) hj (h0 h) hs hg
theorem can_none {H : Option Value} {h : Heap} (e : H = none) : CanRaise H h := .inl e
end

theorem can_x {h₀ h : Heap} {L e T : Addr} {ob ot : Obj} {X : String} {fl : Value} {rest : List (Addr × Obj)} (N : News h₀ L h ((e, ob) :: (T, ot) :: rest)) (x : XO e T ob ot X .none fl) : CanRaise (some (.ref e)) h := by
  obtain ⟨vs, hd, _, h2⟩ := x.dat
  exact .inr ⟨e, ob, vs, rfl, (N _ (.head _)).1, hd, h2⟩
section
variable {prog : Program} {w : World} {A : Around} {E : Value → Shared → Prop} {s : Shared} {env : Env}
theorem try_x {body orelse : List Stmt} {h₀ : ExceptHandler} {hs : List ExceptHandler} {pos : Pos} {Q : Flow → Shared → Prop} (Exc : Value → Shared → Prop)
    (hexc : ∀ e s₁, Exc e s₁ → wpAny (model prog w) A (noteFrame e env) (fun _ s₂ => wpAny (model prog w) A (setFlight e none) (fun _ s₃ => wpAny (model prog w) A (handleBy e env (h₀ :: hs)) Q E s₃) E s₂) E s₁)
    (hbody : ∀ E' : Value → Shared → Prop, (∀ e s₁, Exc e s₁ → E' e s₁) → (∀ A' A'', SameStack A' A → PassesOwnAt (model prog w) A' A'' env E') → wpAny (model prog w) A (execs body env) (fun f s₁ => match f with | .next => wpAny (model prog w) A (execs orelse env) Q E s₁ | f => Q f s₁) E' s) :
    wpAny (model prog w) A (exec (.Try body (h₀ :: hs) orelse [] pos) env) Q E s := by
  refine wpAny_Try_except (hbody _ hexc ?_)
  intro A' A'' hS e s' h
  exact wpAny_mono (wpAny_look_again hS h) (fun _ _ h₁ => h₁) fun _ _ x => x
theorem tryf_x {body : List Stmt} {f₀ : Stmt} {fs : List Stmt} {pos : Pos} {Q : Flow → Shared → Prop} (Exc : Value → Shared → Prop)
    (hraise : ∀ e s₁, Exc e s₁ → ∃ ea, e = .ref ea ∧ wpAny (model prog w) A (noteFrame e env) (fun _ s₂ => wpAny (model prog w) A (noteFrame e env) (fun _ s₀ => wpAny (model prog w) A (setFlight e none) (fun _ s₁ =>
      wpAny (model prog w) (A.mark (some e)) (execs (f₀ :: fs) env) (fun g s₂ => match g with | .next => wpAny (model prog w) A (PySem.passOn "try.finally" e env) Q E s₂ | g => wpAny (model prog w) A (setFlight e none) (fun _ s₃ => Q g s₃) E s₂) E s₁) E s₀) E s₂) (fun _ _ => False) s₁)
    (hp : ∀ A' A'', SameStack A' A → PassesOwnAt (model prog w) A' A'' env E)
    (hbody : ∀ E' : Value → Shared → Prop, (∀ e s₁, Exc e s₁ → E' e s₁) → PassesOwn (model prog w) A env E' → wpAny (model prog w) A (execs body env) (fun f s₁ => f = .next ∧ wpAny (model prog w) A (execs (f₀ :: fs) env) Q E s₁) E' s) :
    wpAny (model prog w) A (exec (.Try body [] [] (f₀ :: fs) pos) env) Q E s := by
  refine wpAny_Try_finally (wpAny_mono (hbody _ (fun e s₁ hx => ?_) ?_) (fun f s₁ hf => ?_) fun _ _ x => x)
  · obtain ⟨ea, rfl, h⟩ := hraise e s₁ hx
    refine wpAny_mono h (fun _ s₂ h₂ => ⟨ref_ne_byPass ea, wpAny_mono h₂ (fun _ s₀ h₀ => wpAny_mono h₀ (fun _ s₁ h₁ => wpAny_passesOwnAt (hp _ _ (SameStack.mark _ _)) h₁) fun _ _ x => x) fun _ _ x => x⟩) fun _ _ x => x.elim
  · intro e s' h
    exact wpAny_mono (wpAny_look_again (SameStack.refl A) h) (fun _ _ h₁ => h₁) fun _ _ x => x
  · obtain ⟨rfl, hf⟩ := hf
    dsimp only
    refine wpAny_execs_nil (wpAny_passesOwnAt (hp _ _ (SameStack.refl A)) (wpAny_mono hf (fun g s' hg => ?_) fun _ _ x => x))
    cases g <;> exact hg
end
end
section
theorem strs_dat {ns : List (Addr × Obj)} : ∀ {vs : List Value} {xs : List Str}, StrsAre vs xs → DatAll ns vs (xs.map Dat.str)
  | _, _, .nil => .nil
  | _, _, .cons y t r => .cons (.str y t) (strs_dat r)
theorem StrsAre.snoc {x : Str} {t : Tok} : ∀ {vs : List Value} {xs : List Str}, StrsAre vs xs → StrsAre (vs ++ [.str x t]) (xs ++ [x])
  | _, _, .nil => .cons x t .nil
  | _, _, .cons y u r => .cons y u (StrsAre.snoc r)
theorem eqGives_str (a b : Str) (t u : Tok) : MeetsSeq.EqGives (.str a t) (.str b u) (decide (a = b)) := fun _ _ _ _ _ _ h => wpAny_eqBool_str h
noncomputable def isS (x : Str) : Value → Bool
  | .str a _ => decide (a = x)
  | _ => false
theorem StrsAre.eqs {x : Str} {t : Tok} : ∀ {vs : List Value} {xs : List Str}, StrsAre vs xs → ∀ y, y ∈ vs → MeetsSeq.EqGives y (.str x t) (isS x y)
  | _, _, .nil, _, h => nomatch h
  | _, _, .cons a u r, y, h => by
    rcases List.mem_cons.mp h with rfl | h
    · exact eqGives_str a x u t
    · exact StrsAre.eqs r y h
end
set_option hygiene false in
local macro_rules | `(tactic| omega) => `(tactic| first | (with_reducible first | ((first | refine Sm.le2 rfl ?_ ?_ | refine Sm.lt2 rfl ?_ ?_ | refine Sm.le rfl ?_ | refine Sm.lt rfl ?_ | refine Sm.ilt rfl ?_ | refine Sm.ge rfl ?_ | refine Sm.no ‹_› rfl ?_) <;> (iterate 5 first | done | exact Sm.a ‹_› rfl | exact Sm.b ‹_› rfl | exact Sm.k rfl | refine Sm.d ‹_› ?_ | refine Sm.c ‹_› ?_ | refine Sm.e ‹_› ?_ | refine Sm.m ?_ | refine Sm.s ?_); done) | exact rfl | exact q4 ‹_› | exact q5 ‹_› rfl | exact q1 ‹_› rfl | exact q2 ‹_› rfl | exact q3 ‹_› rfl | exact q6 rfl | exact q7 rfl | exact q8 _ _ | exact q9 ‹_› | exact q10 ‹_› ‹_› | exact q11 ‹_› ‹_› | exact q12 _ | exact q13 ‹_› | exact q14 ‹_›) | decide | omega +splitDisjunctions)
set_option hygiene false in
local macro_rules | `(tactic| walk_at "pc_enter") => `(tactic| (refine wpAny_call ?_; walk_at "pc_enter0"))
set_option hygiene false in
local macro_rules | `(tactic| walk_at "pck") => `(tactic| ((case k1 | k2 | k3 | k5 => k_asm); (case k6 | k7 => k_is); (case k8 => simp only [recursionLimit] at *; omega); (case k9 => first | exact BindsTo.of_eq rfl | exact binds_K (by k_in) rfl (by k_is) rfl rfl rfl); (case c2 | c3 | c4 => exact rfl)))
set_option hygiene false in
local macro_rules | `(tactic| walk_at "pe0") => `(tactic| (refine' code_pure ?k1 ?k2 ?k3 ?k5 ?kA ?kF ?kK ?k6 ?k7 ?k8 ?k9 ?kB ?_ ?c2 ?c3 ?c4 ?c5; (case kA | kF => exact rfl); (case kK => assumption); walk_at "pck"; (case c5 => decide); (case kB => exact locs rfl); k_whole))
local macro_rules | `(tactic| walk_at "pc_enter0") => `(tactic| (k_dflt (walk_at "pe0"; intro L' h' F' N' B' X' T'; (try dsimp only); (try k_lift B'); (try k_fold))))
set_option hygiene false in
local macro_rules | `(tactic| walk_at "my_fit") => `(tactic| (simp only [List.size_toArray] at *; omega))
set_option hygiene false in
local macro_rules | `(tactic| walk_at "call builtin:len") => `(tactic| ((with_reducible show wpAny _ _ (call (Value.builtin "len") [Value.ref _]) _ _ _); refine PyProof.Rows.len_list (by is_list) (by walk_at "my_fit") ?_; (try simp only [List.size_toArray])))
local macro_rules | `(tactic| walk_at "oi") => `(tactic| (intro v' h' tk' K' P' F' N'; (first | (obtain ⟨t', hv'⟩ := P'; subst hv'; (try dsimp only); (try k_fold)) | skip)))
set_option hygiene false in
local macro_rules | `(tactic| o_head $H) => `(tactic| (k_dflt (refine' pc_use $H ?B ?F ?X ?T ?N ?hk ?hpre ?hd ?hu ?_; (case B | F | X | T | N => k_asm); (case hk => first | exact rfl | assumption); (case hpre => first | trivial | assumption | walk_at "my_pre"); (case hd => (simp only [recursionLimit] at *; omega)); (case hu => (simp only [cLine] at *; omega)); k_whole); walk_at "oi"))
set_option hygiene false in
local macro_rules | `(tactic| walk_at "my_list") => `(tactic| first | (with_reducible assumption) | exact Fr.lst (by assumption) (by assumption) | exact News.isList (by assumption) (by k_mem) | assumption)
set_option hygiene false in
local macro_rules | `(tactic| walk_at "my_len") => `(tactic| ((try simp only [List.length_append, List.length_cons, List.length_nil, List.length_take, List.length_drop]); omega))
set_option hygiene false in
local macro_rules | `(tactic| walk_at "subscriptTail") => `(tactic| ((with_reducible show wpAny _ _ (subscriptTail _ _ (Value.ref _) (Value.int _ _)) _ _ _); (refine item_any (by walk_at "my_list") (by first | (with_reducible assumption) | (simp; done)) (by first | rfl | omega) (by omega) ?_)))
local macro_rules | `(tactic| walk_at "ai") => `(tactic| (intro a' h' F' l' N'; (try simp only [Int.toNat_natCast] at N'); (try dsimp only)))
set_option hygiene false in
local macro_rules | `(tactic| walk_at "subscriptTail Name Slice ref ref") => `(tactic| ((with_reducible show wpAny _ _ (subscriptTail _ _ (Value.ref _) (Value.ref _)) _ _ _); (first | (refine slice_upto (by assumption) (by assumption) (by walk_at "my_list") (by omega) (by walk_at "my_len") ?_) | (refine slice_from (by assumption) (by assumption) (by walk_at "my_list") (by omega) (by walk_at "my_len") ?_)); walk_at "ai"))
set_option hygiene false in
local macro_rules | `(tactic| walk_at "binaryOp Add ref ref") => `(tactic| ((with_reducible show wpAny _ _ (binaryOp _ (Value.ref _) (Value.ref _)) _ _ _); (refine add_any (by assumption) (by assumption) (by walk_at "my_list") (by walk_at "my_list") (by walk_at "my_len") ?_); walk_at "ai"))
set_option hygiene false in
local macro_rules | `(tactic| walk_at "call builtin:iter") => `(tactic| ((with_reducible show wpAny _ _ (call (Value.builtin "iter") [Value.ref _]) _ _ _); (refine iter_any (by assumption) (by assumption) (by walk_at "my_list") ?_); walk_at "ai"))
set_option hygiene false in
local macro_rules | `(tactic| walk_at "peC") => `(tactic| (refine' code_pureC ?k1 ?k2 ?k3 ?k5 ?kA ?kF ?kK ?k6 ?k7 ?k8 ?k9 ?kB ?kD ?_ ?c2 ?c3 ?c4; (case kA | kF => exact rfl); (case kK => assumption); walk_at "pck"; (case kB => exact rfl); (case kD => decide +kernel); k_whole))
local macro_rules | `(tactic| walk_at "pc_enterC") => `(tactic| (refine wpAny_call ?_; k_dflt (walk_at "peC"; intro L' h' tk' cells' F' N' Y' B' X' T'; k_cells Y'; (try simp only [List.cons_append, List.nil_append] at N'); (try dsimp only); (try k_lift B'); (try k_fold))))
local macro_rules | `(tactic| walk_at "subscriptTail Name Slice str ref") => `(tactic| ((with_reducible show wpAny _ _ (subscriptTail _ _ (Value.str _ _) (Value.ref _)) _ _ _); (refine slice_strN_nn (by assumption) (by assumption) ?_); intro h' t' k' F' N'; (try dsimp only)))
set_option hygiene false in
local macro_rules | `(tactic| walk_at "pe1") => `(tactic| (refine' code_tries ?k1 ?k2 ?k3 ?k5 ?k6 ?k7 ?k8 ?k9 ?kB ?_ ?c2 ?c3 ?c4 ?c5; walk_at "pck"; (case c5 => decide); (case kB => exact locs rfl); k_whole))
local macro_rules | `(tactic| walk_at "pd_enter") => `(tactic| (refine wpAny_call ?_; k_dflt (walk_at "pe1"; intro oL' h' oD' oC' oN' F' N'; (try dsimp only); (try k_fold))))
set_option hygiene false in
local macro_rules | `(tactic| walk_at "ku") => `(tactic| (k_unfold; (try clear QS); (try clear ES); (try dsimp only)))
set_option hygiene false in
local macro_rules | `(tactic| walk_at "one") => `(tactic| (first | walk_at "ku" | walk1 | (dsimp only; walk1) | (leave1; try dsimp only) | (dsimp only; walk_at "ku")))
set_option hygiene false in
local macro_rules | `(tactic| o_head !$n) => `(tactic| repeat' ((fail_if_success (with_reducible (refine Stp.stop $n ?_ ?_; constructor))); walk_at "one"))
set_option hygiene false in
local macro_rules | `(tactic| walk_at "execs cons") => `(tactic| (first | (k_here; k_gentoks) | (refine wpAny_execs_cons ?_; (try (k_fold; (rename Value → Shared → Prop => ES); (rename Flow → Shared → Prop => QS))))))
section
noncomputable def Sm (n : Nat) : Prop := n < 256
theorem Sm.a {n k : Nat} (h : n ≤ k) (e : Nat.ble k 255 = true) : Sm n := Nat.lt_succ_of_le (Nat.le_trans h (Nat.le_of_ble_eq_true e))
theorem Sm.b {n k : Nat} (h : n < k) (e : Nat.ble k 256 = true) : Sm n := Nat.lt_of_lt_of_le h (Nat.le_of_ble_eq_true e)
theorem Sm.c {i n : Nat} (h : i < n) (s : Sm n) : Sm i := Nat.lt_trans h s
theorem Sm.e {i n : Nat} (h : i ≤ n) (s : Sm n) : Sm i := Nat.lt_of_le_of_lt h s
theorem Sm.d {n m : Nat} (h : n = m) (s : Sm m) : Sm n := h ▸ s
theorem Sm.le {n C : Nat} (e : Nat.ble 256 C = true) (s : Sm n) : n ≤ C := Nat.le_trans (Nat.le_of_lt s) (Nat.le_of_ble_eq_true e)
theorem Sm.lt {n C : Nat} (e : Nat.ble 256 C = true) (s : Sm n) : n < C := Nat.lt_of_lt_of_le s (Nat.le_of_ble_eq_true e)
theorem Sm.ilt {n : Nat} {C : Int} (e : decide ((256 : Int) ≤ C) = true) (s : Sm n) : (n : Int) < C := Int.lt_of_lt_of_le (Int.ofNat_lt.mpr s) (of_decide_eq_true e)
theorem Sm.no {n : Nat} {C : Int} (h : (n : Int) ≥ C) (e : decide ((256 : Int) ≤ C) = true) (s : Sm n) : False := absurd (Int.lt_of_le_of_lt h (Int.ofNat_lt.mpr s)) (Int.not_lt.mpr (of_decide_eq_true e))
theorem q1 {n k C : Nat} (h : n ≤ k) (e : Nat.ble k C = true) : n ≤ C := Nat.le_trans h (Nat.le_of_ble_eq_true e)
theorem q2 {n k C : Nat} (h : n ≤ k) (e : Nat.ble (k + 1) C = true) : n < C := Nat.lt_of_le_of_lt h (Nat.le_of_ble_eq_true e)
theorem q3 {n k C : Nat} (h : n < k) (e : Nat.ble k C = true) : n < C := Nat.lt_of_lt_of_le h (Nat.le_of_ble_eq_true e)
theorem q4 {d a c : Nat} (h : d + a < c) : d < c := Nat.lt_of_le_of_lt (Nat.le_add_right _ _) h
theorem q5 {d a c x y : Nat} (h : d + a < c) (e : Nat.ble (x + y) a = true) : d + x + y < c := by
  rw [Nat.add_assoc]; exact Nat.lt_of_le_of_lt (Nat.add_le_add_left (Nat.le_of_ble_eq_true e) _) h
theorem q6 {n : Nat} {C : Int} (e : decide (C < 0) = true) : C < (n : Int) := Int.lt_of_lt_of_le (of_decide_eq_true e) (Int.natCast_nonneg n)
theorem q7 {n : Nat} {C : Int} (e : decide (C ≤ 0) = true) : C ≤ (n : Int) := Int.le_trans (of_decide_eq_true e) (Int.natCast_nonneg n)
theorem q8 (m n : Nat) : -(m : Int) ≤ (n : Int) := Int.le_trans (Int.neg_nonpos_of_nonneg (Int.natCast_nonneg m)) (Int.natCast_nonneg n)
theorem q9 {i n : Nat} (h : i < n) : (i : Int) < (n : Int) := Int.ofNat_lt.mpr h
theorem q10 {i n m : Nat} (h : i < m) (e : n = m) : i < n := e ▸ h
theorem q11 {i n m : Nat} (h : i < m) (e : m = n) : i < n := e ▸ h
theorem Sm.ge {n : Nat} {C : Int} (e : decide ((256 : Int) ≤ C) = true) (s : Sm n) : ¬ (n : Int) ≥ C := fun h => Sm.no h e s
theorem Sm.k {n : Nat} (e : Nat.ble n 255 = true) : Sm n := Sm.a (Nat.le_refl n) e
theorem Sm.m {a b : Nat} (s : Sm b) : Sm (min a b) := Sm.e (Nat.min_le_right a b) s
theorem Sm.s {a b : Nat} (s : Sm a) : Sm (a - b) := Sm.e (Nat.sub_le a b) s
theorem Sm.le2 {a b C : Nat} (e : Nat.ble 512 C = true) (s : Sm a) (t : Sm b) : a + b ≤ C := Nat.le_trans (Nat.add_le_add (Nat.le_of_lt s) (Nat.le_of_lt t)) (Nat.le_of_ble_eq_true e)
theorem Sm.lt2 {a b C : Nat} (e : Nat.ble 512 C = true) (s : Sm a) (t : Sm b) : a + b < C := Nat.lt_of_lt_of_le (Nat.add_lt_add s t) (Nat.le_of_ble_eq_true e)
theorem q12 (i : Nat) : (0 : Int) ≤ (i : Int) + 1 := Int.natCast_nonneg (i + 1)
theorem range0 (n : Nat) : Builtin.Range.rangeSize 0 n 1 = (n : Int) := by rw [rangeSize_nat, Int.sub_zero]; rfl
theorem q13 {i m : Nat} (h : i < m) : i + 1 ≤ m := h
theorem q14 {i k : Nat} (h : i + 1 ≤ k) : i ≤ k := Nat.le_of_succ_le h
theorem meas1 {i k n m : Nat} (h : i + 1 ≤ k) (h2 : k ≤ n) : n - k + m < n - i + m := Nat.add_lt_add_right (Nat.sub_lt_sub_left (Nat.lt_of_lt_of_le h h2) h) m
theorem meas2 {i k n m : Nat} (h : i + 1 ≤ k) (h2 : k ≤ n) : m + (n - k) < m + (n - i) := Nat.add_lt_add_left (Nat.sub_lt_sub_left (Nat.lt_of_lt_of_le h h2) h) m
theorem meas3 {i k n j l m : Nat} (h : i + 1 ≤ k) (h2 : k ≤ n) (h3 : j + 1 ≤ l) (h4 : l ≤ m) : n - k + (m - l) < n - i + (m - j) := Nat.lt_trans (meas1 h h2) (meas2 h3 h4)
theorem meas {i n : Nat} (h : i < n) : n - (i + 1) < n - i := Nat.sub_lt_sub_left h (Nat.lt_succ_self i)
theorem len_ne3 {c a b : Nat} (e : c = a - b) (h : (c : Int) ≠ 0) : b < a := Nat.lt_of_not_le fun g => h (by rw [e, Nat.sub_eq_zero_of_le g]; rfl)
theorem len_ne0 {c a b : Nat} (e : c = b) (f : b = a) (h : (c : Int) ≠ 0) : 0 < a := Nat.pos_of_ne_zero fun g => h (by rw [e, f, g]; rfl)
theorem len_eq3 {c a b : Nat} (e : c = a - b) (h : (c : Int) = 0) : a ≤ b := Nat.le_of_sub_eq_zero (e.symm.trans (Int.ofNat.inj h))
theorem len_eq00 {c a b : Nat} (e : c = b) (f : b = a) (h : (c : Int) = 0) : a ≤ 0 := Nat.le_of_eq ((e.trans f).symm.trans (Int.ofNat.inj h))
end
section
inductive Stp : Nat × Nat → Prop → Prop
  | s1 {n x : Nat} {v1 v2 v3 v4 v5 v6} : Stp (n, x) (wpAny v1 v2 (pyIter v3) v4 v5 v6)
  | s2 {n x : Nat} {v1 v2 v3 v4 v5 v6 v7 v8 v9 v10} : Stp (n, x) (wpAny v1 v2 (exec (Stmt.While v3 v4 v5 v6) v7) v8 v9 v10)
  | s3 {n x : Nat} {v1 v2 v3 v4 v5 v6 v7 v8 v9 v10 v11} : Stp (n, x) (wpAny v1 v2 (exec (Stmt.Try v3 v4 v5 v6 v7) v8) v9 v10 v11)
  | s4 {n x : Nat} {v1 v2 v3 v4 v5 v6 v7 v8 v9 v10} : Stp (n, x) (wpAny v1 v2 (eval (Expr.ListComp v3 v4 v5 v6) v7) v8 v9 v10)
  | s5 {n x : Nat} {v1 v2 v3 v4 v5 v6 v7 v8 v9 v10 v11 v12 v13 v14 v15} : Stp (n, x) (LCt.CompSrcT v1 v2 v3 v4 v5 v6 v7 v8 v9 v10 v11 v12 v13 v14 v15)
  | s6 {n x : Nat} {v1 v2 v3 v4 v5 v6 v7 v8 v9 v10 v11 v12 v13 v14} : Stp (n, x) (LCg.CompSrc v1 v2 v3 v4 v5 v6 v7 v8 v9 v10 v11 v12 v13 v14)
  | s7 {n x : Nat} {v1 v2 v3 v4 v5 v6} : Stp (n, x) (InvEndG v1 v2 v3 v4 v5 v6)
  | s8 {n x : Nat} {v1 v2 v3 v4 v5 v6 v7 v8 v9 v10 v11 v12} : Stp (n + 1, x) (wpAny v1 v2 (exec (Stmt.Assign v3 (Expr.ListComp v4 v5 v6 v7) v8) v9) v10 v11 v12)
  | s9 {n x : Nat} {v1 v2 v3 v4 v5 v6 v7 v8 v9 v10 v11} : Stp (n + 1, x) (wpAny v1 v2 (exec (Stmt.For v3 v4 v5 v6 v7) v8) v9 v10 v11)
  | s10 {n x : Nat} {v1 v2 v3 v4 v5 v6 v7} : Stp (n + 1, x) (TurnG v1 v2 v3 v4 v5 v6 v7)
  | s11 {n x : Nat} {v1 v2 v3 v4 v5 v6 v7} : Stp (n + 2, x) (wpAny v1 v2 (getMethod (Value.ref v3) (PySem.Str.ofString "count") v4) v5 v6 v7)
  | s12 {n x : Nat} {v1 v2 v3 v4 v5 v6 v7} : Stp (n + 2, x) (wpAny v1 v2 (compareOp CmpOp.NotIn v3 v4) v5 v6 v7)
  | s13 {n x : Nat} {v1 v2 v3 v4 v5 v6 v7 v8 v9 v10 v11 v12} : Stp (n + 2, x) (wpAny v1 v2 (subscriptTail v3 (Expr.Slice v4 v5 v6 v7) v8 v9) v10 v11 v12)
  | s14 {n x : Nat} {v1 v2 v3 v4 v5 v6 v7} : Stp (n + 2, x) (wpAny v1 v2 (call (Value.builtin v3) [Value.ref v4]) v5 v6 v7)
  | s15 {n x : Nat} {v1 v2 v3 v4 v5 v6 v7 v8} : Stp (n + 2, x) (wpAny v1 v2 (call (Value.builtin v3) [Value.ref v4, v5]) v6 v7 v8)
  | s16 {n x : Nat} {v1 v2 v3 v4 v5 v6 v7 v8} : Stp (n + 2, x) (InvPostG v1 v2 v3 v4 v5 v6 v7 v8)
  | s17 {n x : Nat} {v1 v2 v3 v4 v5 v6} : Stp (n + 3, x) (wpAny v1 v2 (call (Value.type "zip") v3) v4 v5 v6)
  | s18 {n x : Nat} {v1 v2 v3 v4 v5 v6 v7} : Stp (n + 3, x) (wpAny v1 v2 (call (Value.ref v3) v4) v5 v6 v7)
  | s19 {n x : Nat} {v1 v2 v3 v4 v5 v6 v7 v8} : Stp (n + 3, x) (wpAny v1 v2 (compareOp v3 (Value.ref v4) (Value.ref v5)) v6 v7 v8)
  | s20 {n x : Nat} {v1 v2 v3 v4 v5 v6 v7 v8 v9 v10 v11 v12 v13 v14 v15} : Stp (n + 4, x) (LCp.SrcLP v1 v2 v3 v4 v5 v6 v7 v8 v9 v10 v11 v12 v13 v14 v15)
  | s21 {n x : Nat} {v1 v2 v3 v4 v5 v6 v7 v8 v9} : Stp (n + 4, x) (wpAny v1 v2 (subscriptTail v3 v4 v5 v6) v7 v8 v9)
  | s22 {n x : Nat} {v1 v2 v3 v4 v5 v6 v7 v8} : Stp (n + 5, x) (wpAny v1 v2 (binaryOp v3 (Value.ref v4) (Value.ref v5)) v6 v7 v8)
  | s23 {n : Nat} {v1 v2 v3 v4 v5 v6 v7 v8 v9 v10 v11 v12 v13 v14} : Stp (n, 1) (wpAny v1 v2 (exec (Stmt.Assign v3 (Expr.Subscript v4 (Expr.Slice none (some (Expr.BoolOp v5 v6 v7)) none v8) v9) v10) v11) v12 v13 v14)
  | s24 {n : Nat} {v1 v2 v3 v4 v5 v6 v7 v8 v9 v10 v11 v12 v13 v14 v15 v16} : Stp (n, 2) (wpAny v1 v2 (exec (Stmt.If (Expr.Compare (Expr.Call v3 v4 v5 v6) v7 v8 v9) v10 v11 v12) v13) v14 v15 v16)
theorem Stp.stop {P : Prop} (q : Nat × Nat) (_ : Stp q P) (p : P) : P := p
end
section
structure Cx (σ : Type) where
  x : σ
  w : World
  p : Program
  loose : List Str
  mean : ExcName → Option Value
  mg : Str → Option Value
  mb : Str → Option Value
  dp : Nat
  un : Nat
  gd : Option (List Code)
  cn : Str
  cs : Scope
  a : Addr
  ccd : Value
  cl : List (Str × Addr)
  outer : List Env
  A₀ : Around
  base : Heap
  h₀ : Heap
  L : Addr
  m : Str → Option Value
  s : Shared
  Q : Value → Shared → Prop
  E : Value → Shared → Prop
noncomputable def w0 : World := ⟨fun _ _ => 0, { strHash := fun _ => 0, shareClass := fun _ => 0, mergeTok := id, idOf := fun _ => 0, idOfShared := fun _ _ => 0, followText := fun _ => false, idOfImm := fun _ => 0 }⟩
noncomputable def Cx.any {σ : Type} (x : σ) : Cx σ := ⟨x, w0, default, [], fun _ => none, fun _ => none, fun _ => none, 0, 0, none, default, default, 0, .none, [], [], {}, default, default, 0, fun _ => none, {}, fun _ _ => True, fun _ _ => True⟩
noncomputable def PB {σ : Type} (Hy : Cx σ → Prop) (lv : Nat) (f : Addr) (vs : σ → List Value) (Pre : σ → Heap → Prop) (Post : σ → Heap → Value → Heap → Prop) (c : Cx σ) : Prop :=
  Hy c → Below c.A₀ c.base c.outer c.h₀ → Fr c.h₀ c.L c.s.heap c.m → (hd.heap_1 c.w.params).In c.h₀ → Top c.p c.loose c.mean c.mg c.mb c.h₀ → c.cs.kind = .function → Pre c.x c.s.heap → c.dp + lv < recursionLimit → c.un + 20 * lv < cLine →
    (∀ (v : Value) (h' : Heap) (tk' : Nat), (∀ b o, c.s.heap.get? b = some o → h'.get? b = some o) → Post c.x c.s.heap v h' → c.Q v ⟨h', c.s.gens, c.s.drawn, tk', c.s.os⟩) →
    wpAny (model PySem.Challenge.rw_oy0158_01.row.toRowW.prog c.w) (ktrTop c.dp c.un c.gd c.cn c.cs c.L c.a c.ccd c.cl c.outer) (call (.ref f) (vs c.x)) c.Q c.E c.s
noncomputable def Cx.bad {σ : Type} (x : σ) (P : Cx σ → Prop) : Cx σ := @Classical.epsilon _ ⟨Cx.any x⟩ fun c => ¬ P c
theorem Cx.all {σ : Type} {x : σ} {P : Cx σ → Prop} {K : Cx σ} (e : K = Cx.bad x P) (h : P K) (c : Cx σ) : P c := by
  cases Classical.em (P c) with
  | inl y => exact y
  | inr n => rw [e] at h; exact absurd h (@Classical.epsilon_spec_aux _ ⟨Cx.any x⟩ (fun c => ¬ P c) ⟨c, n⟩)
theorem PB.claim {σ : Type} {x0 : σ} {Hy : Cx σ → Prop} {lv : Nat} {f : Addr} {vs : σ → List Value} {Pre : σ → Heap → Prop} {Post : σ → Heap → Value → Heap → Prop} {K : Cx σ} (e : K = Cx.bad x0 (PB Hy lv f vs Pre Post)) (h : PB Hy lv f vs Pre Post K)
    (x : σ) (w : World) (p : Program) (loose : List Str) (mean : ExcName → Option Value) (mg mb : Str → Option Value) (hy : ∀ dp un gd cn cs a ccd cl outer A₀ base h₀ L m s Q E, Hy ⟨x, w, p, loose, mean, mg, mb, dp, un, gd, cn, cs, a, ccd, cl, outer, A₀, base, h₀, L, m, s, Q, E⟩) :
    PClaim w p loose mean mg mb lv f (vs x) (Pre x) (Post x) := fun dp un gd cn cs a ccd cl outer A₀ base h₀ L m s Q E =>
  Cx.all e h ⟨x, w, p, loose, mean, mg, mb, dp, un, gd, cn, cs, a, ccd, cl, outer, A₀, base, h₀, L, m, s, Q, E⟩ (hy _ _ _ _ _ _ _ _ _ _ _ _ _ _ _ _ _)
end
section
noncomputable def cmp3 (x y : Int) : Int := if x > y then 1 else if x < y then -1 else 0
noncomputable def subCost (x y : Str) : Int := if x = y then 0 else if Txt.lower x = Txt.lower y then 1 else 2
section
variable (w : World) (p : Program) (loose : List Str) (mean : ExcName → Option Value) (mg mb : Str → Option Value)
set_option maxRecDepth 100000 in
set_option maxHeartbeats 8000000 in
theorem sub_spec (x y : Str) (tx ty : Tok) :
    PClaim w p loose mean mg mb 1 21 [.str x tx, .str y ty] (fun _ => x.length ≤ 3 ∧ y.length ≤ 3) (fun _ v _ => ∃ t, v = .int (subCost x y) t) := by
  dsimp only [PClaim]
  k_fill
  intro dp un gd cn cs a ccd cl outer A₀ base h₀ L m s Q E B F X T hk hpre hdp hun hret
  w_top off
  walk_at "pc_enter"
  o_head !(0, 0)
  all_goals (refine hret _ _ _ (Fr.keep (h₀ := s.heap) (by assumption)) (isInt_of ?_))
  all_goals (unfold subCost; simp_all)
set_option maxRecDepth 100000 in
set_option maxHeartbeats 8000000 in
theorem cmp3_spec (x y : Int) (tx ty : Tok) :
    PClaim w p loose mean mg mb 1 65 [.int x tx, .int y ty] (fun _ => True) (fun _ v _ => ∃ t, v = .int (cmp3 x y) t) := by
  dsimp only [PClaim]
  k_fill
  intro dp un gd cn cs a ccd cl outer A₀ base h₀ L m s Q E B F X T hk hpre hdp hun hret
  w_top off
  walk_at "pc_enter"
  o_head !(0, 0)
  all_goals (refine hret _ _ _ (Fr.keep (h₀ := s.heap) (by assumption)) (isInt_of ?_))
  all_goals (unfold cmp3; simp_all)
  all_goals (by_cases h1 : y < x <;> by_cases h2 : x < y <;> simp [h1, h2, b2i] <;> omega)
end
end
section
noncomputable def S (l : List Nat) : Str := ⟨l.toArray⟩
theorem S_len (l : List Nat) : (S l).length = l.length := by simp [S, PySem.Str.length]
theorem S_cps (l : List Nat) : (S l).cps = l.toArray := rfl
theorem S_of (x : Str) : x = S x.cps.toList := by cases x; simp [S]
theorem S_inj {a b : List Nat} (h : S a = S b) : a = b := by simpa [S] using h
theorem S_beq (a b : List Nat) : (S a == S b) = decide (a = b) := by
  by_cases h : a = b
  · subst h; simp
  · rw [decide_eq_false h]
    exact beq_eq_false_iff_ne.mpr fun e => h (S_inj e)
theorem S_from (l : List Nat) (i : Nat) : Txt.slice (S l) (some (i : Int)) none = S (l.drop i) := by
  by_cases h : i ≤ l.length
  · rw [slice_from_eq (b := (l.length : Int)) (by omega) (by rw [S_len]; omega) (by rw [S_len])]
    simp only [S, Int.toNat_natCast]
    congr 2
    rw [List.take_of_length_le (by simp)]
  · rw [slice_beyond (by rw [S_len]; omega), List.drop_eq_nil_of_le (by omega)]; rfl
theorem S_item (l : List Nat) (i : Nat) (h : i < l.length) : Txt.item (S l) (i : Int) = S [l[i]] := item_meets (by omega) (by simp [S, h])
theorem S_item_neg (l : List Nat) (j : Nat) (h : j < l.length) : Txt.item (S l) (-(j : Int) - 1) = S [l.reverse[j]'(by simpa using h)] := by
  have := item_closes_neg (x := S l) (i := -(j : Int) - 1) (j := -(j : Int) - 1 + (S l).length) (by omega) (by rw [S_len]; omega) rfl
  rw [eq_of_beq this, S_len, show (-(j : Int) - 1 + (l.length : Nat)).toNat = l.length - 1 - j from by omega, S_cps]
  simp only [S, List.getElem_reverse]
  congr 2
  have : l.length - 1 - j < l.length := by omega
  simp [Array.getD, this]
theorem S_all (l : List Nat) : Txt.slice (S l) none none = S l := by
  unfold Txt.slice
  rw [if_pos]
  have : (Builtin.Str.strSliceIndices none none 1 (S l).length).length = (S l).length := by
    unfold Builtin.Str.strSliceIndices sliceRange
    simp
    split <;> omega
  simp [this]
theorem S_neg (l : List Nat) (k : Nat) (h1 : 1 ≤ k) (h2 : k ≤ l.length) : Txt.slice (S l) none (some (-(k : Int))) = S ((l.reverse.drop k).reverse) := by
  have e : Builtin.Str.strSliceIndices none (some (-(k : Int))) 1 (S l).length = List.range (l.length - k) := by
    rw [S_len]
    unfold Builtin.Str.strSliceIndices sliceRange
    simp only [show (1 : Int) > 0 by decide, if_true]
    have c : (if (0 : Int) < max 0 (min (if -(k : Int) < 0 then -(k : Int) + (l.length : Int) else -(k : Int)) (l.length : Int)) then (max 0 (min (if -(k : Int) < 0 then -(k : Int) + (l.length : Int) else -(k : Int)) (l.length : Int)) - 0 + 1 - 1) / 1 else 0).toNat = l.length - k := by
      rw [if_pos (show -(k : Int) < 0 by omega), show -(k : Int) + (l.length : Int) = ((l.length - k : Nat) : Int) by omega, Int.min_eq_left (Int.ofNat_le.mpr (Nat.sub_le l.length k)), Int.max_eq_right (Int.natCast_nonneg _)]
      split
      · rw [Int.ediv_one, Int.sub_zero, Int.add_sub_cancel]; rfl
      · rename_i hn
        exact (Nat.eq_zero_of_not_pos fun h => hn (Int.ofNat_lt.mpr h)).symm
    rw [c]
    have : (fun (k : Nat) => (0 + 1 * (k : Int)).toNat) = fun k => k := by funext q; rw [Int.zero_add, Int.one_mul]; rfl
    rw [this, List.map_id']
  unfold Txt.slice
  rw [e, if_neg (by simp [S_len]; omega)]
  have t : l.take (l.length - k) = (l.reverse.drop k).reverse := by rw [List.drop_reverse, List.reverse_reverse]
  rw [← t]
  unfold S
  congr 2
  apply List.ext_getElem?
  intro n
  have fm : ∀ m, m ≤ l.length → (List.range m).filterMap (fun x => l[x]?) = l.take m := by
    intro m
    induction m with
    | zero => intro _; simp
    | succ m ih => intro hm; rw [List.range_succ, List.filterMap_append, ih (by omega), List.take_add_one]; simp [show m < l.length by omega]
  have := fm (l.length - k) (by omega)
  simp only [List.getElem?_toArray]
  rw [this]
noncomputable def strip : List Nat → List Nat → List Nat × List Nat
  | a :: x, b :: y => if a = b then strip x y else (a :: x, b :: y)
  | x, y => (x, y)
theorem strip_step {xs ys : List Nat} {i : Nat} (h1 : i < xs.length) (h2 : i < ys.length) (e : xs[i] = ys[i]) : strip (xs.drop i) (ys.drop i) = strip (xs.drop (i + 1)) (ys.drop (i + 1)) := by
  rw [List.drop_eq_getElem_cons h1, List.drop_eq_getElem_cons h2, strip, if_pos e]
theorem strip_end {xs ys : List Nat} {i : Nat} (h : xs.length ≤ i ∨ ys.length ≤ i ∨ ∃ (h1 : i < xs.length) (h2 : i < ys.length), xs[i] ≠ ys[i]) : strip (xs.drop i) (ys.drop i) = (xs.drop i, ys.drop i) := by
  rcases h with h | h | ⟨h1, h2, e⟩
  · rw [List.drop_eq_nil_of_le h, strip]; intro a x b y q; cases q
  · rw [List.drop_eq_nil_of_le h, strip]; intro a x b y _ q; cases q
  · rw [List.drop_eq_getElem_cons h1, List.drop_eq_getElem_cons h2, strip, if_neg e]
end
section
noncomputable def inR (sub d0 d r : Int) : Int := if d + sub < (if d0 < r then d0 else r) + 2 then d + sub else (if d0 < r then d0 else r) + 2
noncomputable def inStep (bch : Nat) (p : List Nat) (i : Nat) (st : List Int × Int × Int × Int) : List Int × Int × Int × Int :=
  let r := inR (subCost (S [bch]) (S [p.getD i 0])) (st.1.getD i 0) st.2.1 st.2.2.1
  (st.1.set i r, st.1.getD i 0, r, if r < st.2.2.2 then r else st.2.2.2)
noncomputable def inN (bch : Nat) (p : List Nat) (st : List Int × Int × Int × Int) : Nat → List Int × Int × Int × Int
  | 0 => st
  | i + 1 => inStep bch p i (inN bch p st i)
noncomputable def row0 (p : List Nat) : List Int := (List.range p.length).map fun (j : Nat) => 2 + (j : Int) * 2
noncomputable def outSt (p q : List Nat) (row : List Int) (i : Nat) : List Int × Int × Int × Int := inN (q.getD i 0) p (row, (i : Int) * 2, (i : Int) * 2, 9223372036854775807) p.length
noncomputable def outN (p q : List Nat) : Nat → List Int × Int
  | 0 => (row0 p, 0)
  | i + 1 => ((outSt p q (outN p q i).1 i).1, (outSt p q (outN p q i).1 i).2.2.1)
noncomputable def outMn (p q : List Nat) (i : Nat) : Int := (outSt p q (outN p q i).1 i).2.2.2
noncomputable def levCore (p q : List Nat) : Int := if (List.range q.length).any (fun i => decide (2 < outMn p q i)) then 3 else (outN p q q.length).2
noncomputable def levM (p q : List Nat) : Int := if ((q.length : Int) - p.length) * 2 > 2 then 3 else levCore p q
noncomputable def levB (p q : List Nat) : Int := if p = [] ∨ q = [] then 2 * ((p.length : Int) + q.length) else levM (if q.length < p.length then q else p) (if q.length < p.length then p else q)
noncomputable def levA (p q : List Nat) : Int := levB (strip p.reverse q.reverse).1.reverse (strip p.reverse q.reverse).2.reverse
noncomputable def levL (x y : List Nat) : Int := if x = y then 0 else levA (strip x y).1 (strip x y).2
theorem inN_len {bch : Nat} {p : List Nat} {st : List Int × Int × Int × Int} (i : Nat) : (inN bch p st i).1.length = st.1.length := by
  induction i with
  | zero => rfl
  | succ i ih => simp [inN, inStep, ih]
theorem inN_next {bch : Nat} {p : List Nat} {st : List Int × Int × Int × Int} {k : Nat} {d r m : Int} (hv : (d, r, m) = (inN bch p st k).2) :
    inN bch p st (k + 1) = ((inN bch p st k).1.set k (inR (subCost (S [bch]) (S [p.getD k 0])) ((inN bch p st k).1.getD k 0) d r), (inN bch p st k).1.getD k 0, inR (subCost (S [bch]) (S [p.getD k 0])) ((inN bch p st k).1.getD k 0) d r,
      if inR (subCost (S [bch]) (S [p.getD k 0])) ((inN bch p st k).1.getD k 0) d r < m then inR (subCost (S [bch]) (S [p.getD k 0])) ((inN bch p st k).1.getD k 0) d r else m) := by
  show inStep bch p k (inN bch p st k) = _
  unfold inStep
  rw [← hv]
theorem outN_len (p q : List Nat) (i : Nat) : (outN p q i).1.length = p.length := by
  induction i with
  | zero => simp [outN, row0]
  | succ i ih => simp only [outN, outSt, inN_len, ih]
noncomputable def RowO (o : Obj) (vs : List Value) : Prop := o.cls = .type "list" ∧ ∃ n, o.data = .seq vs.toArray n
noncomputable def IntsV (vs : List Value) (row : List Int) : Prop := vs.length = row.length ∧ ∀ (j : Nat) (x : Int), row[j]? = some x → ∃ t, vs[j]? = some (Value.int x t)
theorem IntsV.get {vs : List Value} {row : List Int} (h : IntsV vs row) {i : Nat} (hi : i < row.length) : ∃ t, vs[i]? = some (Value.int (row.getD i 0) t) := by
  obtain ⟨t, ht⟩ := h.2 i row[i] (List.getElem?_eq_getElem hi)
  exact ⟨t, by rw [ht]; simp [List.getD, List.getElem?_eq_getElem hi]⟩
theorem IntsV.set {vs : List Value} {row : List Int} (h : IntsV vs row) (i : Nat) (x : Int) (t : Tok) : IntsV (vs.set i (.int x t)) (row.set i x) := by
  refine ⟨by simp [h.1], fun j y hy => ?_⟩
  by_cases e : i = j
  · subst e
    rw [List.getElem?_set] at hy ⊢
    rw [h.1]
    simp only [if_true] at hy ⊢
    split at hy
    · rename_i hl; cases hy; exact ⟨t, by rw [if_pos hl]⟩
    · cases hy
  · rw [List.getElem?_set_ne e] at hy ⊢
    exact h.2 j y hy
section
variable {prog : Program} {w : World} {A : Around} {E : Value → Shared → Prop} {s : Shared} {h₀ : Heap} {L : Addr} {m : Str → Option Value} {rest : List (Addr × Obj)}
theorem News.rowL {h : Heap} {news : List (Addr × Obj)} {l : Addr} {o : Obj} {vs : List Value} (N : News h₀ L h news) (hm : (l, o) ∈ news) (ho : RowO o vs) : h.IsList l vs.toArray := ⟨o, (N _ hm).1, ho.1, ho.2⟩
theorem row_set {l : Addr} {o : Obj} {vs : List Value} {k : Int} {j : Nat} {t : Tok} {v : Value} {Q : Unit → Shared → Prop} (F : Fr h₀ L s.heap m) (N : News h₀ L s.heap ((l, o) :: rest)) (hr : RowO o vs) (hk : k = (j : Int)) (hj : j < vs.length) (hjj : j < 1000) (hne : ∀ p ∈ rest, p.1 ≠ l)
    (h : ∀ o' h', Fr h₀ L h' m → News h₀ L h' ((l, o') :: rest) → RowO o' (vs.set j v) → Q () { s with heap := h' }) : wpAny (model prog w) A (setItem (.ref l) (.int k t) v) Q E s := by
  subst hk
  refine wpAny_setItem_list (News.rowL N (.head _) hr) (by omega) (by omega) (by simpa using hj) fun h' hl hs => ?_
  obtain ⟨o', ho, hc, n, hd⟩ := hl
  refine h o' h' (F.update N (.head _) hs) ?_ ⟨hc, n, by simpa using hd⟩
  intro p hp
  rcases List.mem_cons.mp hp with rfl | hp
  · exact ⟨ho, (N _ (.head _)).2⟩
  · exact ⟨(hs.2 _ (hne p hp)).trans (N _ (.tail _ hp)).1, (N _ (.tail _ hp)).2⟩
theorem list_row0 {r : Addr} {b : Int} {t u v : Tok} {n : Nat} {news : List (Addr × Obj)} {Q : Value → Shared → Prop} (hh : A.handled = none) (F : Fr h₀ L s.heap m) (N : News h₀ L s.heap news)
    (hr : IsRange s.heap r 2 b 2 t u v) (hb : b = 2 * ((n : Int) + 1)) (hn : n ≤ 1000) (p : List Nat) (hp : n = p.length)
    (h : ∀ a o vs h' tk, (∀ q ∈ news, q.1 ≠ a) → Fr h₀ L h' m → News h₀ L h' ((a, o) :: news) → RowO o vs → IntsV vs (row0 p) → Q (.ref a) { s with heap := h', toks := tk }) :
    wpAny (model prog w) A (call (.type "list") [.ref r]) Q E s := by
  have hsz : Builtin.Range.rangeSize 2 b 2 = (n : Int) := by unfold Builtin.Range.rangeSize; simp; split <;> omega
  refine call_list_range hh hr (by unfold Builtin.Range.small; rw [hsz]; simp only [Builtin.Range.rangeFitsLong, Bool.and_eq_true, Bool.or_eq_true, decide_eq_true_eq, beq_iff_eq, show (2 : Int) > 0 by decide, if_true]; omega) hsz (by omega) fun h' tk acc c hk ho hi => ?_
  have hnone : h₀.get? s.heap.objs.size = none := next_is_new F
  have hsep : ∀ q ∈ news, q.1 ≠ s.heap.objs.size := fun q hq e => absurd (Heap.lt_size (N q hq).1) (by rw [e]; exact Nat.lt_irrefl _)
  refine h _ { cls := .type "list", dict := none, data := .seq acc c, slots := #[] } acc.toList h' tk hsep (F.keeps hk) ?_ ⟨rfl, c, by simp⟩ ⟨by simp [hi.1, row0, hp], fun j x hx => ?_⟩
  · intro q hq
    rcases List.mem_cons.mp hq with rfl | hq
    · exact ⟨ho, fun e => absurd F.ns.lt (by rw [← e]; exact Nat.lt_irrefl _), hnone⟩
    · exact ⟨hk _ _ (N q hq).1, (N q hq).2⟩
  · unfold row0 at hx
    rw [List.getElem?_map] at hx
    have hj : j < acc.size := by
      rw [hi.1, hp]
      by_cases hj : j < p.length
      · exact hj
      · rw [List.getElem?_eq_none (by simpa using hj)] at hx; cases hx
    obtain ⟨tt, ht⟩ := hi.2 j acc[j] (Array.getElem?_eq_getElem hj)
    refine ⟨tt, ?_⟩
    rw [Array.getElem?_toList, Array.getElem?_eq_getElem hj, ht]
    rw [List.getElem?_range (by rw [hi.1, hp] at hj; exact hj)] at hx
    cases hx; rfl
end
end
section
theorem hk_one {m' : Str → Option Value} {x : Str} {v : Value} (h : m' x = some v) : ∀ p ∈ [(x, v)], m' p.1 = some p.2 := fun p hp => by rw [List.mem_singleton.mp hp]; exact h
theorem itemn_same {a b : List Nat} {j : Nat} {k : Int} (h1 : j < a.length) (h2 : j < b.length) (e : (Txt.item (S a) k == Txt.item (S b) k) = true) (hk : k = -(j : Int) - 1) : a.reverse[j]'(by simpa using h1) = b.reverse[j]'(by simpa using h2) := by
  rw [hk, S_item_neg a j h1, S_item_neg b j h2, S_beq] at e; simpa using e
theorem itemn_other {a b : List Nat} {j : Nat} {k : Int} (h1 : j < a.length) (h2 : j < b.length) (e : (Txt.item (S a) k == Txt.item (S b) k) = false) (hk : k = -(j : Int) - 1) : a.reverse[j]'(by simpa using h1) ≠ b.reverse[j]'(by simpa using h2) := by
  rw [hk, S_item_neg a j h1, S_item_neg b j h2, S_beq] at e; simpa using e
theorem len_ne {l : List Nat} {i : Nat} (h : ((Txt.slice (S l) (some (i : Int)) none).length : Int) ≠ 0) : i < l.length := by
  rw [S_from, S_len, List.length_drop] at h; omega
theorem len_eq0 {l : List Nat} {i : Nat} (h : ((Txt.slice (S l) (some (i : Int)) none).length : Int) = 0) : l.length ≤ i := by
  rw [S_from, S_len, List.length_drop] at h; omega
theorem item_same {a b : List Nat} {i : Nat} (h1 : i < a.length) (h2 : i < b.length) (e : (Txt.item (S a) (i : Int) == Txt.item (S b) (i : Int)) = true) : a[i] = b[i] := by
  rw [S_item a i h1, S_item b i h2, S_beq] at e; simpa using e
theorem item_other {a b : List Nat} {i : Nat} (h1 : i < a.length) (h2 : i < b.length) (e : (Txt.item (S a) (i : Int) == Txt.item (S b) (i : Int)) = false) : a[i] ≠ b[i] := by
  rw [S_item a i h1, S_item b i h2, S_beq] at e; simpa using e
inductive CutA (s0 : Shared) (h0 : Heap) (L : Addr) (nw : List (Addr × Obj)) (m2 : Str → Option Value) (x : Str) (v : Tok → Value) (f : Flow) (s' : Shared) : Prop
  | intro (hf : f = .next) (t' : Tok) (h' : Heap) (tk' : Nat) (he : s' = { s0 with heap := h', toks := tk' }) (F : Fr h0 L h' (fun z => if z = x then some (v t') else m2 z)) (N : News h0 L h' nw)
theorem wp_cutA {M : Model} {A : Around} {E : Value → Shared → Prop} {s : Shared} {t : Sem Flow} {Q : Flow → Shared → Prop} {h0 : Heap} {L : Addr} {nw} {m2 : Str → Option Value} {s0 : Heap} (_ : Fr h0 L s0 m2) (x : Str) (v : Tok → Value) (h1 : wpAny M A t (CutA s h0 L nw m2 x v) E s)
    (h2 : ∀ t' h' tk', Fr h0 L h' (fun z => if z = x then some (v t') else m2 z) → News h0 L h' nw → Q .next { s with heap := h', toks := tk' }) : wpAny M A t Q E s :=
  wpAny_mono h1 (fun f s' h => by obtain ⟨rfl, t', h', tk', rfl, F, N⟩ := h; exact h2 t' h' tk' F N) fun _ _ e => e
inductive CutS (s0 : Shared) (h0 : Heap) (L : Addr) (m2 : Str → Option Value) (p q : List Nat) (f : Flow) (s' : Shared) : Prop
  | intro (hf : f = .next) (ta tb : Tok) (h' : Heap) (tk' : Nat) (he : s' = { s0 with heap := h', toks := tk' }) (F : Fr h0 L h' (fun z => if z = Str.ofString "a" then some (.str (S p) ta) else if z = Str.ofString "b" then some (.str (S q) tb) else m2 z)) (N : News h0 L h' [])
theorem wp_cutS {M : Model} {A : Around} {E : Value → Shared → Prop} {s : Shared} {t : Sem Flow} {Q : Flow → Shared → Prop} {h0 : Heap} {L : Addr} {m2 : Str → Option Value} {s0 : Heap} (_ : Fr h0 L s0 m2) (p q : List Nat) (h1 : wpAny M A t (CutS s h0 L m2 p q) E s)
    (h2 : ∀ ta tb h' tk', Fr h0 L h' (fun z => if z = Str.ofString "a" then some (.str (S p) ta) else if z = Str.ofString "b" then some (.str (S q) tb) else m2 z) → News h0 L h' [] → Q .next { s with heap := h', toks := tk' }) : wpAny M A t Q E s :=
  wpAny_mono h1 (fun f s' h => by obtain ⟨rfl, ta, tb, h', tk', rfl, F, N⟩ := h; exact h2 ta tb h' tk' F N) fun _ _ e => e
theorem Fr_same {h0 h : Heap} {L : Addr} {m m' : Str → Option Value} (F : Fr h0 L h m) (e : ∀ z, m z = m' z) : Fr h0 L h m' := (funext e : m = m') ▸ F
section
variable (w : World) (p : Program) (loose : List Str) (mean : ExcName → Option Value) (mg mb : Str → Option Value)
section
local macro_rules | `(tactic| walk_at "call ref") => `(tactic| (o_head (sub_spec _ _ _ _ _ _ _ _ _ _)))
local macro_rules | `(tactic| walk_at "subscriptTail Name BinOp str int") => `(tactic| ((first | (rename (_ → _) ∧ _ => junk; clear junk) | (rename (_ : Int) ≠ 0 => hz; with_reducible first | replace hz := len_ne3 ‹_› hz | replace hz := len_ne0 ‹_› ‹_› hz | clear hz)); walk_at "subscriptTail Name BinOp str int"))
local macro_rules | `(tactic| walk_at "junk") => `(tactic| repeat (rename (_ → _) ∧ _ => junk; clear junk))
local macro_rules | `(tactic| walk_at "my_pre") => `(tactic| (constructor <;> decide))
local macro_rules | `(tactic| walk_at "call type:list") => `(tactic| ((with_reducible show wpAny _ _ (call (Value.type _) [Value.ref _]) _ _ _); (rename IsRange _ _ _ _ _ _ _ _ => R'); (rename Fr _ _ _ _ => F'); (rename News _ _ _ _ => N'); refine list_row0 rfl F' N' R' (by rw [S_len]) (by omega) _ rfl ?_; intro D' o' vs' h' tk' l' F' N' R' V'; (try dsimp only)))
local macro_rules | `(tactic| walk_at "setItem ref int") => `(tactic| ((with_reducible show wpAny _ _ (setItem (Value.ref _) (Value.int _ _) _) _ _ _); (rename Fr _ _ _ _ => F'); (rename News _ _ _ _ => N'); refine row_set F' N' (by assumption) rfl (by omega) (by omega) (by assumption) ?_; intro o' h' F' N' R'; (try dsimp only)))
local macro_rules | `(tactic| walk_at "my_list") => `(tactic| exact News.rowL (by assumption) (.head _) (by with_reducible assumption))
noncomputable def S8 : Cx (List Nat × List Nat × Tok × Tok × Tok) → Prop := PB (fun _ => True) 2 28 (fun q => [.str (S q.1) q.2.2.1, .str (S q.2.1) q.2.2.2.1, .int 2 q.2.2.2.2]) (fun q => (fun _ => q.1.length ≤ 30 ∧ q.2.1.length ≤ 30)) (fun q => (fun _ v _ => ∃ t, v = .int (levL q.1 q.2.1) t))
@[irreducible] noncomputable def K8 : Cx (List Nat × List Nat × Tok × Tok × Tok) := Cx.bad ([], [], 0, 0, 0) S8
set_option maxRecDepth 100000 in
set_option maxHeartbeats 8000000 in
theorem lev_spec_at : S8 K8 := by
  dsimp only [S8, PB]
  k_fill
  intro _ B F X T hk hpre hdp hun hret
  obtain ⟨hx, hy⟩ := hpre
  have hlx := S_len K8.x.1
  have hly := S_len K8.x.2.1
  w_top off
  walk_at "pc_enter"
  o_head !(0, 0)
  · exact hret _ _ _ (Fr.keep (h₀ := K8.s.heap) (by assumption)) (isInt_of (by rename_i he; have := S_inj (eq_of_beq he); unfold levL; rw [if_pos this]))
  rename_i tk9 hne hh1 F1 N1
  have hne' : K8.x.1 ≠ K8.x.2.1 := fun e => by rw [e] at hne; simp at hne
  refine mw_while (σ := Nat × Tok) (fun _ => []) (fun c => [(Str.ofString "pre", .int (c.1 : Int) c.2)]) (fun _ => True) [] (fun c => strip (K8.x.1.drop c.1) (K8.x.2.1.drop c.1) = strip K8.x.1 K8.x.2.1 ∧ c.1 ≤ K8.x.1.length) (fun c => strip K8.x.1 K8.x.2.1 = (K8.x.1.drop c.1, K8.x.2.1.drop c.1)) (fun c => K8.x.1.length - c.1) (0, tk9) F1 N1 trivial ?_ ?_ ?_ ?_
  · intro q hq; simp at hq; subst hq; rfl
  · exact ⟨by simp, by simp⟩
  · rintro ⟨i, t⟩ u h tk2 - ⟨hP, hi⟩ F2 N2
    clear F1 N1
    dsimp only [kstB] at F2 N2 hP hi ⊢
    o_head !(0, 0)
    · have h1 := len_ne (l := K8.x.1) (i := i) (by with_reducible assumption)
      have h2 := len_ne (l := K8.x.2.1) (i := i) (by with_reducible assumption)
      refine ksw_end (i + 1, _) (by assumption) (by assumption) (fun _ h => nomatch h) trivial (hk_one rfl) ?_ ⟨?_, h1⟩ (meas h1)
      · intro z hz _
        have : z ≠ Str.ofString "pre" := hz _ (.head _)
        simp [this]
      · rw [← strip_step h1 h2 (item_same h1 h2 (by with_reducible assumption))]; exact hP
    · have h1 := len_ne (l := K8.x.1) (i := i) (by with_reducible assumption)
      have h2 := len_ne (l := K8.x.2.1) (i := i) (by with_reducible assumption)
      refine WEx.intro (by assumption) (by assumption) ?_
      rw [← hP]; exact strip_end (.inr (.inr ⟨h1, h2, item_other h1 h2 (by with_reducible assumption)⟩))
    · refine WEx.intro (by assumption) (by assumption) ?_
      rw [← hP]; exact strip_end (.inr (.inl (len_eq0 (by with_reducible assumption))))
    · refine WEx.intro (by assumption) (by assumption) ?_
      rw [← hP]; exact strip_end (.inl (len_eq0 (by with_reducible assumption)))
  · rintro ⟨i, t⟩ u h tk2 - hP F2 N2
    clear F1 N1
    dsimp only [kstB] at F2 N2 hP ⊢
    o_head !(0, 0)
    simp only [S_from] at *
    generalize hp0 : K8.x.1.drop i = p0 at *
    generalize hq0 : K8.x.2.1.drop i = q0 at *
    have hp1 : p0.length ≤ 30 := by rw [← hp0, List.length_drop]; exact Nat.le_trans (Nat.sub_le _ _) hx
    have hq1 : q0.length ≤ 30 := by rw [← hq0, List.length_drop]; exact Nat.le_trans (Nat.sub_le _ _) hy
    have hlp := S_len p0
    have hlq := S_len q0
    rename_i tk0 _ N1 _ _ F1
    refine mw_while (σ := Nat × Tok) (fun _ => []) (fun c => [(Str.ofString "post", .int (-(c.1 : Int)) c.2)]) (fun _ => True) [] (fun c => strip (p0.reverse.drop c.1) (q0.reverse.drop c.1) = strip p0.reverse q0.reverse ∧ c.1 ≤ p0.length ∧ c.1 ≤ q0.length) (fun c => strip p0.reverse q0.reverse = (p0.reverse.drop c.1, q0.reverse.drop c.1) ∧ c.1 ≤ p0.length ∧ c.1 ≤ q0.length) (fun c => p0.length - c.1) (0, tk0) F1 N1 trivial ?_ ?_ ?_ ?_
    · intro q hq; simp at hq; subst hq; rfl
    · exact ⟨by simp, by simp, by simp⟩
    · rintro ⟨j, t⟩ u h tk2 - ⟨hP2, hj1, hj2⟩ F2 N2
      clear F1 N1
      dsimp only [kstB] at F2 N2 hP2 hj1 hj2 ⊢
      cases j with
      | zero =>
        have F3 : Fr K8.s.heap _ h (fun z => if z = Str.ofString "post" then some (Value.int 0 t) else _) := F2
        clear F2
        have sa := congrArg Str.length (S_all p0)
        have sb := congrArg Str.length (S_all q0)
        clear hret hp0 hq0 hP hx hy hne hlx hly
        o_head !(0, 0)
        · have h1 : 0 < p0.length := by with_reducible assumption
          have h2 : 0 < q0.length := by with_reducible assumption
          refine ksw_end (0 + 1, _) (by assumption) (by assumption) (fun _ h => nomatch h) trivial (hk_one rfl) ?_ ⟨?_, h1, h2⟩ (meas h1)
          · intro z hz _
            have : z ≠ Str.ofString "post" := hz _ (.head _)
            simp [this]
          · rw [← strip_step (by simpa using h1) (by simpa using h2) (itemn_same h1 h2 (by with_reducible assumption) (by omega))]; exact hP2
        · have h1 : 0 < p0.length := by with_reducible assumption
          have h2 : 0 < q0.length := by with_reducible assumption
          refine WEx.intro (by assumption) (by assumption) ⟨?_, hj1, hj2⟩
          rw [← hP2]; exact strip_end (.inr (.inr ⟨by simpa using h1, by simpa using h2, itemn_other h1 h2 (by with_reducible assumption) (by omega)⟩))
        all_goals first
          | (exfalso; omega)
          | ((try dsimp only); refine WEx.intro (by assumption) (by assumption) ⟨?_, hj1, hj2⟩; rw [← hP2]; first | exact strip_end (.inr (.inl (by rw [List.length_reverse]; first | exact len_eq3 sb ‹_› | exact len_eq00 sb hlq ‹_›))) | exact strip_end (.inl (by rw [List.length_reverse]; first | exact len_eq3 sa ‹_› | exact len_eq00 sa hlp ‹_›)))
      | succ j =>
        have sa := (congrArg Str.length (S_neg p0 (j + 1) (by omega) (by omega))).trans (S_len _)
        have sb := (congrArg Str.length (S_neg q0 (j + 1) (by omega) (by omega))).trans (S_len _)
        simp only [List.length_reverse, List.length_drop] at sa sb
        clear hret hp0 hq0 hP hx hy hne hlx hly
        o_head !(0, 0)
        all_goals walk_at "junk"
        · have h1 : (j + 1) < p0.length := by with_reducible assumption
          have h2 : (j + 1) < q0.length := by with_reducible assumption
          refine ksw_end ((j + 1) + 1, _) (by assumption) (by assumption) (fun _ h => nomatch h) trivial (hk_one (congrArg (fun q => some (Value.int q _)) (show (-((j + 1 : Nat) : Int) - 1) = -((j + 1 + 1 : Nat) : Int) from rfl))) ?_ ⟨?_, h1, h2⟩ (meas h1)
          · intro z hz _
            have : z ≠ Str.ofString "post" := hz _ (.head _)
            simp [this]
          · rw [← strip_step (by simpa using h1) (by simpa using h2) (itemn_same h1 h2 (by with_reducible assumption) (by omega))]; exact hP2
        · have h1 : (j + 1) < p0.length := by with_reducible assumption
          have h2 : (j + 1) < q0.length := by with_reducible assumption
          refine WEx.intro (by assumption) (by assumption) ⟨?_, hj1, hj2⟩
          rw [← hP2]; exact strip_end (.inr (.inr ⟨by simpa using h1, by simpa using h2, itemn_other h1 h2 (by with_reducible assumption) (by omega)⟩))
        all_goals first
          | (exfalso; omega)
          | ((try dsimp only); refine WEx.intro (by assumption) (by assumption) ⟨?_, hj1, hj2⟩; rw [← hP2]; first | exact strip_end (.inr (.inl (by rw [List.length_reverse]; first | exact len_eq3 sb ‹_› | exact len_eq00 sb hlq ‹_›))) | exact strip_end (.inl (by rw [List.length_reverse]; first | exact len_eq3 sa ‹_› | exact len_eq00 sa hlp ‹_›)))
    · rintro ⟨j, t⟩ u h tk2 - ⟨hP2, hj1, hj2⟩ F2 N2
      clear F1 N1
      dsimp only [kstB] at F2 N2 hP2 hj1 hj2 ⊢
      have cut1 : ∀ {p0 : List Nat}, j ≤ p0.length → (if j = 0 then Txt.slice (S p0) none none else Txt.slice (S p0) none (some (-(j : Int)))) = S ((p0.reverse.drop j).reverse) := by
        intro p0 hj
        split
        · rename_i h; subst h; rw [S_all]; simp
        · exact S_neg _ _ (by omega) hj
      o_head !(0, 1)
      refine wp_cutA (nw := []) F2 (Str.ofString "a") (fun t => .str (S ((p0.reverse.drop j).reverse)) t) ?_ ?_
      · have c1 := cut1 hj1
        clear hret hp0 hq0 hP hx hy hne hlx hly hP2 cut1
        cases j with
        | zero =>
          have F3 : Fr K8.s.heap _ h (fun z => if z = Str.ofString "post" then some (Value.int 0 t) else _) := F2
          clear F2
          o_head !(0, 0)
          rename_i F4 N4
          rw [if_pos rfl] at c1
          rw [c1] at F4
          exact .intro rfl _ _ _ rfl F4 N4
        | succ j =>
          o_head !(0, 0)
          all_goals first
            | (exfalso; omega)
            | (rename_i F4 N4
               rw [if_neg (by omega)] at c1
               rw [c1] at F4
               exact .intro rfl _ _ _ rfl F4 N4)
      intro ta h3 tk3 F3 N3
      clear F2 N2
      (try dsimp only)
      o_head !(0, 1)
      refine wp_cutA (nw := []) F3 (Str.ofString "b") (fun t => .str (S ((q0.reverse.drop j).reverse)) t) ?_ ?_
      · have c1 := cut1 hj2
        clear hret hp0 hq0 hP hx hy hne hlx hly hP2 cut1
        cases j with
        | zero =>
          have F2 : Fr K8.s.heap _ h3 (fun z => if z = Str.ofString "a" then _ else if z = Str.ofString "post" then some (Value.int 0 t) else _) := F3
          clear F3
          o_head !(0, 0)
          rename_i F4 N4
          rw [if_pos rfl] at c1
          rw [c1] at F4
          exact .intro rfl _ _ _ rfl F4 N4
        | succ j =>
          o_head !(0, 0)
          all_goals first
            | (exfalso; omega)
            | (rename_i F4 N4
               rw [if_neg (by omega)] at c1
               rw [c1] at F4
               exact .intro rfl _ _ _ rfl F4 N4)
      intro tb h4 tk4 F4 N4
      clear F3 N3 cut1
      have hp2 : ((p0.reverse.drop j).reverse).length ≤ 30 := by rw [List.length_reverse, List.length_drop, List.length_reverse]; exact Nat.le_trans (Nat.sub_le _ _) hp1
      have hq2 : ((q0.reverse.drop j).reverse).length ≤ 30 := by rw [List.length_reverse, List.length_drop, List.length_reverse]; exact Nat.le_trans (Nat.sub_le _ _) hq1
      generalize hp3 : (p0.reverse.drop j).reverse = p3 at *
      generalize hq3 : (q0.reverse.drop j).reverse = q3 at *
      have hl3 := S_len p3
      have hl4 := S_len q3
      clear hlp hlq hlx hly hp1 hq1
      (try dsimp only)
      o_head !(0, 2)
      · refine wp_cutS F4 (if q3.length < p3.length then q3 else p3) (if q3.length < p3.length then p3 else q3) ?_ ?_
        · clear hret hp0 hq0 hP hx hy hne hP2 hp3 hq3 hj1 hj2
          o_head !(0, 0)
          · rename_i F5 N5
            rw [if_pos (by omega), if_pos (by omega)]
            refine .intro rfl tb ta _ _ rfl (Fr_same F5 fun z => ?_) (fun _ h => nomatch h)
            by_cases h1 : z = Str.ofString "a" <;> simp [h1]
          · rw [if_neg (by omega), if_neg (by omega)]
            refine .intro rfl ta tb _ _ rfl (Fr_same F4 fun z => ?_) (fun _ h => nomatch h)
            by_cases h1 : z = Str.ofString "a"
            · subst h1; rfl
            · by_cases h2 : z = Str.ofString "b"
              · subst h2; rfl
              · simp [h1, h2]
        · intro ta' tb' h5 tk5 F5 N5
          clear F4 N4
          have hlev : levL K8.x.1 K8.x.2.1 = levM (if q3.length < p3.length then q3 else p3) (if q3.length < p3.length then p3 else q3) := by
            unfold levL levA levB
            rw [if_neg hne', hP]
            dsimp only
            rw [hP2]
            dsimp only
            rw [hp3, hq3, if_neg]
            rintro (h | h)
            · subst h; simp at hl3; omega
            · subst h; simp at hl4; omega
          have hl5 : 1 ≤ (if q3.length < p3.length then q3 else p3).length ∧ (if q3.length < p3.length then q3 else p3).length ≤ (if q3.length < p3.length then p3 else q3).length ∧ (if q3.length < p3.length then p3 else q3).length ≤ 30 := by
            by_cases h : q3.length < p3.length
            · simp only [if_pos h]; omega
            · simp only [if_neg h]; omega
          generalize (if q3.length < p3.length then q3 else p3) = p5 at *
          generalize (if q3.length < p3.length then p3 else q3) = q5 at *
          clear hp0 hq0 hP hx hy hne hP2 hp3 hq3 hj1 hj2 hl3 hl4 hp2 hq2 hne'
          obtain ⟨hl5, hl6, hl7⟩ := hl5
          have hlp := S_len p5
          have hlq := S_len q5
          dsimp only
          o_head !(0, 0)
          · refine hret _ _ _ (Fr.keep (h₀ := K8.s.heap) (by assumption)) (isInt_of ?_)
            rw [hlev]; unfold levM
            rw [if_pos (by omega)]; rfl
          rename_i D o vs _ _ hDD R V _ tk6 _ _ _ _ _ _ _ _ R6 F6 N6 _
          have hlev2 : levL K8.x.1 K8.x.2.1 = levCore p5 q5 := by rw [hlev]; unfold levM; rw [if_neg (by omega)]
          refine' mf_range (σ := Obj × List Value × Int × Tok) (fun c => [(D, c.1)]) [] (fun c => [(Str.ofString "result", .int c.2.2.1 c.2.2.2)]) (fun _ c => RowO c.1 c.2.1) [Str.ofString "bchar", Str.ofString "distance", Str.ofString "minimum", Str.ofString "index", Str.ofString "substitute", Str.ofString "insert_delete"] (fun i c => IntsV c.2.1 (outN p5 q5 i).1 ∧ c.2.2.1 = (outN p5 q5 i).2 ∧ ∀ j, j < i → ¬ 2 < outMn p5 q5 j) [D] (o, vs, 0, tk6) rfl R6 (by omega) F6 N6 ?hn ?hadr ?hf ?hk ?hp ?turn ?done
          case hn => intro q h; simpa using h
          case hadr => intro _; rfl
          case hf => exact R
          case hk => intro q hq; rw [List.mem_singleton.mp hq]; rfl
          case hp => exact ⟨V, rfl, fun j hj => absurd hj (Nat.not_lt_zero j)⟩
          case turn =>
            rintro ⟨o2, vs2, res2, tk2⟩ tl i t7 u7 h7 tk7 own hi hs7 ho7 hf7 ⟨V7, hr7, hp7⟩ F7 N7
            clear F6 N6 R6
            dsimp only [List.nil_append, List.append_nil, List.cons_append, kstB] at F7 N7 V7 hr7 hp7 hf7
            dsimp only
            o_head !(0, 0)
            rename_i _ _ _ _ _ _ _ _ _ _ _ R8 F8 N8 _
            have hsep : ∀ p ∈ tl ++ own, p.1 ≠ D := fun p hp => ho7 p hp D (.head _)
            clear F7 N7
            refine' mf_range (σ := Obj × List Value × (Int × Int × Int) × Tok × Tok × Tok) (fun c => [(D, c.1)]) (tl ++ own) (fun c => [(Str.ofString "distance", .int c.2.2.1.1 c.2.2.2.1), (Str.ofString "result", .int c.2.2.1.2.1 c.2.2.2.2.1), (Str.ofString "minimum", .int c.2.2.1.2.2 c.2.2.2.2.2)]) (fun _ c => RowO c.1 c.2.1) [Str.ofString "substitute", Str.ofString "insert_delete"] (fun k c => IntsV c.2.1 (inN (q5.getD i 0) p5 ((outN p5 q5 i).1, (i : Int) * 2, (i : Int) * 2, 9223372036854775807) k).1 ∧ c.2.2.1 = (inN (q5.getD i 0) p5 ((outN p5 q5 i).1, (i : Int) * 2, (i : Int) * 2, 9223372036854775807) k).2) (D :: (tl ++ own).map (·.1)) (o2, vs2, ((i : Int) * 2, (i : Int) * 2, 9223372036854775807), (_, _, _)) rfl R8 (by omega) F8 N8 ?hn2 ?hadr2 ?hf2 ?hk2 ?hp2 ?turn2 ?done2
            case hk2 =>
              intro q hq
              rcases List.mem_cons.mp hq with rfl | hq
              · rfl
              rcases List.mem_cons.mp hq with rfl | hq
              · rfl
              rw [List.mem_singleton.mp hq]; rfl
            case hn2 => intro q h; simpa using h
            case hadr2 => intro _; rfl
            case hf2 => exact hf7
            case hp2 => exact ⟨V7, rfl⟩
            case turn2 =>
              rintro ⟨o3, vs3, ⟨d3, r3, m3⟩, t31, t32, t33⟩ tl' k t9 u9 h9 tk9 own' hi9 hs9 ho9 hf9 ⟨V9, hv9⟩ F9 N9
              clear F8 N8 R8
              dsimp only [List.nil_append, List.append_nil, List.cons_append, kstB] at F9 N9 V9 hv9 hf9
              dsimp only
              have hk3 : k < (inN (q5.getD i 0) p5 ((outN p5 q5 i).1, (i : Int) * 2, (i : Int) * 2, 9223372036854775807) k).1.length := by
                rw [inN_len, outN_len]; omega
              obtain ⟨t10, ht10⟩ := V9.get hk3
              have hk4 : k < vs3.length := by rw [V9.1]; exact hk3
              have hpre : (Txt.item (S q5) (i : Int)).length ≤ 3 ∧ (Txt.item (S p5) (k : Int)).length ≤ 3 := by
                have h5 : i < q5.length := by omega
                have h6 : k < p5.length := by omega
                rw [S_item q5 i h5, S_item p5 k h6, S_len, S_len]; simp
              have hsep2 : ∀ p ∈ (tl ++ own) ++ (tl' ++ own'), p.1 ≠ D := by
                intro p hp
                rcases List.mem_append.mp hp with hp | hp
                · exact hsep p hp
                · exact ho9 p hp D (.head _)
              have e1 : subCost (Txt.item (S q5) (i : Int)) (Txt.item (S p5) (k : Int)) = subCost (S [q5.getD i 0]) (S [p5.getD k 0]) := by
                have h5 : i < q5.length := by omega
                have h6 : k < p5.length := by omega
                rw [S_item q5 i h5, S_item p5 k h6]; simp [List.getD, h5, h6]
              clear hret hlev hlev2 hp7 V7 hr7
              have hk9 : k < 31 := by omega
              o_head !(0, 0)
              · rename_i o10 _ R10 hmin _ F10 N10
                refine' kd_end (o10, _, (_, _, _), _, _, _) [] hs9 F10 N10 ?n1 ?n2 rfl (fun _ h => nomatch h) (fun _ h => nomatch h) ?n3 ?n4 R10 ⟨?n5, ?n6⟩
                case n3 =>
                  intro q hq
                  rcases List.mem_cons.mp hq with rfl | hq
                  · rfl
                  rcases List.mem_cons.mp hq with rfl | hq
                  · rfl
                  rw [List.mem_singleton.mp hq]; rfl
                case n1 => intro q hq; simp at hq ⊢; rcases hq with h | h | h | h <;> simp [h]
                case n2 => intro q hq; simp [hq]
                case n4 =>
                  intro z h1 h2 h3
                  have a1 := h2 _ (.head _)
                  have a2 := h2 _ (.tail _ (.head _))
                  have a3 := h2 _ (.tail _ (.tail _ (.head _)))
                  dsimp only at a1 a2 a3
                  simp only [List.contains_cons, List.contains_nil, Bool.or_eq_false_iff, beq_eq_false_iff_ne] at h3
                  simp [a1, a2, a3, h1, h3.1, h3.2.1]
                case n5 => rw [inN_next hv9, ← e1]; exact V9.set _ _ _
                case n6 => rw [inN_next hv9, ← e1]; dsimp only; rw [if_pos (show inR _ _ _ _ < m3 from hmin)]; rfl
              · rename_i o10 _ F10 N10 R10 hmin
                refine' kd_end (o10, _, (_, _, _), _, _, _) [] hs9 F10 N10 ?n1 ?n2 rfl (fun _ h => nomatch h) (fun _ h => nomatch h) ?n3 ?n4 R10 ⟨?n5, ?n6⟩
                case n3 =>
                  intro q hq
                  rcases List.mem_cons.mp hq with rfl | hq
                  · rfl
                  rcases List.mem_cons.mp hq with rfl | hq
                  · rfl
                  rw [List.mem_singleton.mp hq]; rfl
                case n1 => intro q hq; simp at hq ⊢; rcases hq with h | h | h | h <;> simp [h]
                case n2 => intro q hq; simp [hq]
                case n4 =>
                  intro z h1 h2 h3
                  have a1 := h2 _ (.head _)
                  have a2 := h2 _ (.tail _ (.head _))
                  have a3 := h2 _ (.tail _ (.tail _ (.head _)))
                  dsimp only at a1 a2 a3
                  simp only [List.contains_cons, List.contains_nil, Bool.or_eq_false_iff, beq_eq_false_iff_ne] at h3
                  simp [a1, a2, a3, h1, h3.1, h3.2.1]
                case n5 => rw [inN_next hv9, ← e1]; exact V9.set _ _ _
                case n6 => rw [inN_next hv9, ← e1]; dsimp only; rw [if_neg (show ¬ inR _ _ _ _ < m3 from hmin)]; rfl
            case done2 =>
              rintro ⟨o3, vs3, ⟨d3, r3, m3⟩, t31, t32, t33⟩ tl' u9 h9 tk9 ho9 hf9 ⟨V9, hv9⟩ F9 N9
              clear F8 N8 R8
              dsimp only [List.nil_append, List.append_nil, List.cons_append, kstB] at F9 N9 V9 hv9 hf9
              dsimp only
              o_head !(0, 0)
              · rename_i hmn
                refine hret _ _ _ (Fr.keep (h₀ := K8.s.heap) (by assumption)) (isInt_of ?_)
                rw [hlp] at hv9
                have e3 : m3 = outMn p5 q5 i := congrArg (·.2.2) hv9
                rw [hlev2]
                unfold levCore
                rw [if_pos]
                · rfl
                · rw [List.any_eq_true]; exact ⟨i, List.mem_range.mpr (by omega), by rw [← e3]; exact decide_eq_true hmn⟩
              · rename_i hmn
                rw [hlp] at hv9 V9
                have e3 : m3 = outMn p5 q5 i := congrArg (·.2.2) hv9
                have e4 : r3 = (outN p5 q5 (i + 1)).2 := congrArg (·.2.1) hv9
                refine' kd_end (o3, vs3, r3, t32) [] hs7 F9 N9 ?n1 ?n2 rfl (fun _ h => nomatch h) (fun _ h => nomatch h) ?n3 ?n4 hf9 ⟨V9, e4, ?n6⟩
                case n3 => intro q hq; rw [List.mem_singleton.mp hq]; rfl
                case n1 => intro q hq; simp at hq ⊢; rcases hq with h | h <;> simp [h]
                case n2 => intro q hq; simp [hq]
                case n4 =>
                  intro z h1 h2 h3
                  have a1 := h2 _ (.head _)
                  dsimp only at a1
                  simp only [List.contains_cons, List.contains_nil, Bool.or_eq_false_iff, beq_eq_false_iff_ne] at h3
                  obtain ⟨b1, b2, b3, b4, b5, b6, -⟩ := h3
                  simp [a1, h1, b1, b2, b3, b4, b5, b6]
                case n6 =>
                  intro j hj
                  by_cases e : j = i
                  · subst e; rw [← e3]; exact hmn
                  · exact hp7 j (by omega)
          case done =>
            rintro ⟨o2, vs2, res2, tk2⟩ tl u7 h7 tk7 ho7 hf7 ⟨V7, hr7, hp7⟩ F7 N7
            clear F6 N6 R6
            dsimp only [List.nil_append, List.append_nil, List.cons_append, kstB] at F7 N7 V7 hr7 hp7 hf7
            dsimp only
            o_head !(0, 0)
            refine hret _ _ _ (Fr.keep (h₀ := K8.s.heap) (by assumption)) (isInt_of ?_)
            rw [hlev2, hr7]
            unfold levCore
            rw [hlq, if_neg]
            intro h
            rw [List.any_eq_true] at h
            obtain ⟨j, hj, h⟩ := h
            exact hp7 j (by rw [hlq]; exact List.mem_range.mp hj) (of_decide_eq_true h)
      · refine hret _ _ _ (Fr.keep (h₀ := K8.s.heap) (by assumption)) (isInt_of ?_)
        have h3 : q3 = [] := by cases q3 with | nil => rfl | cons _ _ => simp at hl4; omega
        unfold levL levA levB
        rw [if_neg hne', hP]
        dsimp only
        rw [hP2]
        dsimp only
        rw [hp3, hq3, if_pos (.inr h3), hl3, hl4]
      · refine hret _ _ _ (Fr.keep (h₀ := K8.s.heap) (by assumption)) (isInt_of ?_)
        have h3 : p3 = [] := by cases p3 with | nil => rfl | cons _ _ => simp at hl3; omega
        unfold levL levA levB
        rw [if_neg hne', hP]
        dsimp only
        rw [hP2]
        dsimp only
        rw [hp3, hq3, if_pos (.inl h3), hl3, hl4]
theorem lev_spec (xs ys : List Nat) (tx ty t2 : Tok) :
    PClaim w p loose mean mg mb 2 28 [.str (S xs) tx, .str (S ys) ty, .int 2 t2] (fun _ => xs.length ≤ 30 ∧ ys.length ≤ 30) (fun _ v _ => ∃ t, v = .int (levL xs ys) t) :=
  PB.claim (by unfold K8; rfl) lev_spec_at (xs, ys, tx, ty, t2) w p loose mean mg mb fun _ _ _ _ _ _ _ _ _ _ _ _ _ _ _ _ _ => trivial
end
end
end
section
noncomputable def diffs (x y : Str) (i : Nat) : Nat := ((List.range i).filter fun (j : Nat) => Txt.item x (0 + (j : Int)) != Txt.item y (0 + (j : Int))).length
theorem diffs_le (x y : Str) (i : Nat) : diffs x y i ≤ i := by unfold diffs; exact Nat.le_trans (List.length_filter_le _ _) (by simp)
theorem diffs_succ (x y : Str) (i : Nat) : diffs x y (i + 1) = diffs x y i + (if (Txt.item x (0 + (i : Int)) != Txt.item y (0 + (i : Int))) = true then 1 else 0) := by
  unfold diffs
  rw [List.range_succ, List.filter_append, List.length_append]
  congr 1
  cases h : (Txt.item x (0 + (i : Int)) != Txt.item y (0 + (i : Int))) <;> simp only [List.filter_cons, List.filter_nil, h] <;> rfl
noncomputable def del (x : Str) (i : Nat) : Str := Txt.slice x none (some (i : Int)) ++ Txt.slice x (some ((i : Int) + 1)) none
noncomputable def hit (x y l o : Str) (i : Nat) : Bool := del l i == o || (x.length == y.length && del x i == del y i)
noncomputable def costF (x y : Str) : Int := if (Txt.lower x == Txt.lower y) = true then min (diffs x y x.length : Int) 3
  else if y.length ≤ x.length then (if (List.range x.length).any (hit x y x y) = true then 2 else 3)
  else (if (List.range y.length).any (hit x y y x) = true then 2 else 3)
theorem hitA {x y l o : Str} {i : Nat} (h : (Txt.slice l none (some (i : Int)) ++ Txt.slice l (some ((i : Int) + 1)) none == o) = true) : hit x y l o i = true := by unfold hit del; rw [h]; rfl
theorem hitB {x y l o : Str} {i : Nat} (e : (x.length : Int) = (y.length : Int)) (h : (Txt.slice x none (some (i : Int)) ++ Txt.slice x (some ((i : Int) + 1)) none == Txt.slice y none (some (i : Int)) ++ Txt.slice y (some ((i : Int) + 1)) none) = true) : hit x y l o i = true := by
  unfold hit del; rw [h, show x.length = y.length from by omega]; simp
theorem hitC {x y l o : Str} {i : Nat} (h : (Txt.slice l none (some (i : Int)) ++ Txt.slice l (some ((i : Int) + 1)) none == o) = false) (e : ¬ (x.length : Int) = (y.length : Int)) : hit x y l o i = false := by
  unfold hit del; rw [h, show (x.length == y.length) = false from by simp; omega]; rfl
theorem hitD {x y l o : Str} {i : Nat} (h : (Txt.slice l none (some (i : Int)) ++ Txt.slice l (some ((i : Int) + 1)) none == o) = false) (k : (Txt.slice x none (some (i : Int)) ++ Txt.slice x (some ((i : Int) + 1)) none == Txt.slice y none (some (i : Int)) ++ Txt.slice y (some ((i : Int) + 1)) none) = false) : hit x y l o i = false := by
  unfold hit del; rw [h, k]; simp
theorem hit_on {x y l o : Str} {i : Nat} (h : ∀ j, j < i → hit x y l o j = false) (h2 : hit x y l o i = false) : ∀ j, j < i + 1 → hit x y l o j = false := fun j hj => by
  rcases Nat.lt_or_ge j i with q | q
  · exact h j q
  · rw [show j = i from by omega]; exact h2
theorem any_hit {f : Nat → Bool} {n i : Nat} (hi : i < n) (h : f i = true) : (List.range n).any f = true := List.any_eq_true.mpr ⟨i, List.mem_range.mpr hi, h⟩
theorem any_no {f : Nat → Bool} {n : Nat} (h : ∀ i, i < n → f i = false) : (List.range n).any f = false := List.any_eq_false.mpr fun i hi => by rw [h i (List.mem_range.mp hi)]; exact Bool.false_ne_true
theorem cost_x {x y : Str} {i : Nat} (h : (Txt.lower x == Txt.lower y) = false) (hl : (y.length : Int) ≤ (x.length : Int)) (hi : i < x.length) (hh : hit x y x y i = true) : 2 = costF x y := by
  unfold costF; rw [h, if_neg Bool.false_ne_true, if_pos (by omega), if_pos (any_hit hi hh)]
theorem cost_y {x y : Str} {i : Nat} (h : (Txt.lower x == Txt.lower y) = false) (hl : ¬ (y.length : Int) ≤ (x.length : Int)) (hi : i < y.length) (hh : hit x y y x i = true) : 2 = costF x y := by
  unfold costF; rw [h, if_neg Bool.false_ne_true, if_neg (by omega), if_pos (any_hit hi hh)]
theorem cost_nx {x y : Str} (h : (Txt.lower x == Txt.lower y) = false) (hl : (y.length : Int) ≤ (x.length : Int)) (hh : ∀ i, i < x.length → hit x y x y i = false) : 3 = costF x y := by
  unfold costF; rw [h, if_neg Bool.false_ne_true, if_pos (by omega), any_no hh, if_neg Bool.false_ne_true]
theorem cost_ny {x y : Str} (h : (Txt.lower x == Txt.lower y) = false) (hl : ¬ (y.length : Int) ≤ (x.length : Int)) (hh : ∀ i, i < y.length → hit x y y x i = false) : 3 = costF x y := by
  unfold costF; rw [h, if_neg Bool.false_ne_true, if_neg (by omega), any_no hh, if_neg Bool.false_ne_true]
section
variable (w : World) (p : Program) (loose : List Str) (mean : ExcName → Option Value) (mg mb : Str → Option Value)
section
noncomputable def S7 : Cx (Str × Str × Tok × Tok) → Prop := PB (fun _ => True) 2 89 (fun q => [.str q.1 q.2.2.1, .str q.2.1 q.2.2.2]) (fun q => (fun h => q.1.length ≤ 50 ∧ q.2.1.length ≤ 50 ∧ (Txt.lower q.1 = Txt.lower q.2.1 → q.1.length = q.2.1.length))) (fun q => (fun h v h' => ∃ t, v = .int (costF q.1 q.2.1) t))
@[irreducible] noncomputable def K7 : Cx (Str × Str × Tok × Tok) := Cx.bad (default, default, 0, 0) S7
set_option maxRecDepth 100000 in
set_option maxHeartbeats 1000000 in
theorem cost_spec_at : S7 K7 := by
  dsimp only [S7, PB]
  k_fill
  intro _ B F X T hk hpre hdp hun hret
  obtain ⟨hx, hy, hlow⟩ := hpre
  w_top off
  walk_at "pc_enterC"
  rename_i L' hh0 tk0 F0 B0 X0 T0 o1 o2 d1 d2 N0
  o_head !(0, 0)
  · -- the sizes
    rename_i hE
    have hxy : K7.x.1.length = K7.x.2.1.length := hlow (by simpa using hE)
    refine LCt.ListComp_T (F₀ := by k_asm) (by with_unfolding_all rfl) (by decide) (by rfl) (by decide) (by rfl) ?_
    o_head !(0, 0)
    refine LCt.CompSrcT.range rfl (by k_asm) (by k_asm) (by assumption) (small_one (by omega) (by omega) (by omega) (by omega)) (range0 _) (by rw [sizeLine_eq]; omega) ?_
    intro g
    dsimp only
    refine cr_invT (fun i ys nw => nw = [(L' + 1 + 1, o1), (L' + 1, o2)] ∧ ys.length = diffs K7.x.1 K7.x.2.1 i) ⟨rfl, rfl⟩ ?_ ?_
    · intro i ys nw v I oI C oC D m₂ h tk E' hi hJ hv hC hm F2 N2 off ne
      obtain ⟨t, rfl⟩ := hv
      obtain ⟨rfl, hlen⟩ := hJ
      have hi2 : i < K7.x.1.length := hi
      clear hi
      rw [Int.zero_add] at hm
      simp only [LCg.Off3, and_true] at off
      obtain ⟨⟨oa, ob, oc⟩, od, oe, of⟩ := off
      o_head !(0, 0)
      all_goals (rename_i hne; rw [diffs_succ, Int.zero_add, hne]; simp [hlen])
    · intro ys nw hJ
      obtain ⟨rfl, hlen⟩ := hJ
      intro D h2 tk2 F2 N2 off2
      dsimp only
      have hb := diffs_le K7.x.1 K7.x.2.1 K7.x.1.length
      o_head !(0, 0)
      refine hret _ _ _ (Fr.keep (h₀ := K7.s.heap) (by assumption)) (isInt_of ?_)
      unfold costF
      rw [if_pos hE, hlen]
      split <;> omega
  · rename_i hne hle _ _ _ _ _ _ _ _ _ _ _ _ _ _ _
    refine' mf_range (σ := Unit) (fun _ => []) [(L' + 1 + 1, o1), (L' + 1, o2)] (fun _ => []) (fun _ _ => True) [] (fun i _ => ∀ j, j < i → hit K7.x.1 K7.x.2.1 K7.x.1 K7.x.2.1 j = false) [L' + 1 + 1, L' + 1] () ?hh ?hr ?hsm ?F ?N ?hn ?hadr ?hf ?hk ?hp ?turn ?done
    case hh => rfl
    case hr => k_asm
    case F => k_asm
    case N => k_asm
    case hn => intro q h; simp at h; rcases h with rfl | rfl <;> simp
    case hadr => intro _; rfl
    case hf => trivial
    case hk => intro _ h; simp at h
    case hp => intro j hj; exact absurd hj (Nat.not_lt_zero j)
    case hsm => omega
    case turn =>
      intro c' tl' i' t' u' h' tk' own' hi' hs' ho' hf' hp' F' N'
      dsimp only [List.nil_append, List.append_nil, List.cons_append, kstB] at F' N'
      dsimp only
      o_head !(0, 0)
      all_goals first
        | (exfalso; omega)
        | (refine hret _ _ _ (Fr.keep (h₀ := K7.s.heap) (by assumption)) (isInt_of ?_)
           exact cost_x (by with_reducible assumption) (by omega) hi' (by first | exact hitA (by with_reducible assumption) | exact hitB (by omega) (by with_reducible assumption)))
        | (refine kd_end () [] hs' (by assumption) (by assumption) ?_ ?_ rfl (fun _ h => nomatch h) (fun _ h => nomatch h) (fun _ h => nomatch h) ?_ trivial ?_
           · intro q hq
             simp only [List.nil_append, List.cons_append, List.mem_cons, List.mem_append] at hq ⊢
             rcases hq with h | h | h <;> simp [h]
           · intro q hq
             simp [hq]
           · intro z hz _ _
             simp [hz]
           · exact hit_on hp' (by first | exact hitD (by with_reducible assumption) (by with_reducible assumption) | exact hitC (by with_reducible assumption) (by omega)))
    case done =>
      intro c' tl' u' h' tk' ho' hf' hp' F' N'
      dsimp only [List.nil_append, List.append_nil, List.cons_append, kstB] at F' N'
      dsimp only
      o_head !(0, 0)
      try dsimp only
      o_head !(0, 0)
      refine hret _ _ _ (Fr.keep (h₀ := K7.s.heap) (by assumption)) (isInt_of ?_)
      exact cost_nx (by with_reducible assumption) (by omega) hp'
  · rename_i hne hle _ _ _ _ _ _ _ _ _ _ _ _ _ _ _
    refine' mf_range (σ := Unit) (fun _ => []) [(L' + 1 + 1, o1), (L' + 1, o2)] (fun _ => []) (fun _ _ => True) [] (fun i _ => ∀ j, j < i → hit K7.x.1 K7.x.2.1 K7.x.2.1 K7.x.1 j = false) [L' + 1 + 1, L' + 1] () ?hh ?hr ?hsm ?F ?N ?hn ?hadr ?hf ?hk ?hp ?turn ?done
    case hh => rfl
    case hr => k_asm
    case F => k_asm
    case N => k_asm
    case hn => intro q h; simp at h; rcases h with rfl | rfl <;> simp
    case hadr => intro _; rfl
    case hf => trivial
    case hk => intro _ h; simp at h
    case hp => intro j hj; exact absurd hj (Nat.not_lt_zero j)
    case hsm => omega
    case turn =>
      intro c' tl' i' t' u' h' tk' own' hi' hs' ho' hf' hp' F' N'
      dsimp only [List.nil_append, List.append_nil, List.cons_append, kstB] at F' N'
      dsimp only
      o_head !(0, 0)
      all_goals first
        | (exfalso; omega)
        | (refine hret _ _ _ (Fr.keep (h₀ := K7.s.heap) (by assumption)) (isInt_of ?_)
           exact cost_y (by with_reducible assumption) (by omega) hi' (by first | exact hitA (by with_reducible assumption) | exact hitB (by omega) (by with_reducible assumption)))
        | (refine kd_end () [] hs' (by assumption) (by assumption) ?_ ?_ rfl (fun _ h => nomatch h) (fun _ h => nomatch h) (fun _ h => nomatch h) ?_ trivial ?_
           · intro q hq
             simp only [List.nil_append, List.cons_append, List.mem_cons, List.mem_append] at hq ⊢
             rcases hq with h | h | h <;> simp [h]
           · intro q hq
             simp [hq]
           · intro z hz _ _
             simp [hz]
           · exact hit_on hp' (by first | exact hitD (by with_reducible assumption) (by with_reducible assumption) | exact hitC (by with_reducible assumption) (by omega)))
    case done =>
      intro c' tl' u' h' tk' ho' hf' hp' F' N'
      dsimp only [List.nil_append, List.append_nil, List.cons_append, kstB] at F' N'
      dsimp only
      o_head !(0, 0)
      try dsimp only
      o_head !(0, 0)
      refine hret _ _ _ (Fr.keep (h₀ := K7.s.heap) (by assumption)) (isInt_of ?_)
      exact cost_ny (by with_reducible assumption) (by omega) hp'
theorem cost_spec (x y : Str) (tx ty : Tok) :
    PClaim w p loose mean mg mb 2 89 [.str x tx, .str y ty] (fun h => x.length ≤ 50 ∧ y.length ≤ 50 ∧ (Txt.lower x = Txt.lower y → x.length = y.length)) (fun h v h' => ∃ t, v = .int (costF x y) t) :=
  PB.claim (by unfold K7; rfl) cost_spec_at (x, y, tx, ty) w p loose mean mg mb fun _ _ _ _ _ _ _ _ _ _ _ _ _ _ _ _ _ => trivial
end
end
end
section
theorem cmp3_bound (x y : Int) : -1 ≤ cmp3 x y ∧ cmp3 x y ≤ 1 := by unfold cmp3; split <;> (try split) <;> omega
section
variable (w : World) (p : Program) (loose : List Str) (mean : ExcName → Option Value) (mg mb : Str → Option Value)
section
local macro_rules | `(tactic| walk_at "call ref") => `(tactic| (o_head (cmp3_spec _ _ _ _ _ _ _ _ _ _)))
set_option maxRecDepth 100000 in
set_option maxHeartbeats 8000000 in
theorem compared_code (one two : Addr) (vs us : List Value) :
    ∀ (dp un : Nat) (gd : Option (List Code)) (cn : Str) (cs : Scope) (a : Addr) (ccd : Value) (cl : List (Str × Addr)) (outer : List Env) (A₀ : Around) (base h₀ : Heap) (L : Addr) (m : Str → Option Value) (s : Shared) (R : Result → Shared → Prop),
      Below A₀ base outer h₀ → Fr h₀ L s.heap m → (hd.heap_1 w.params).In h₀ → Top p loose mean mg mb h₀ → cs.kind = .function → (s.heap.IsList one vs.toArray ∧ s.heap.IsList two us.toArray ∧ vs.length < 100 ∧ us.length < 100) → dp + 2 < recursionLimit → un + 20 * 2 < cLine →
      (∀ (v : Value) (h' : Heap) (tk' : Nat), (∀ b o, s.heap.get? b = some o → h'.get? b = some o) → (∃ t, v = .int (3 * cmp3 us.length vs.length) t) → R (.ok (.ret v)) { s with heap := h', toks := tk' }) →
      codeAny (model PySem.Challenge.rw_oy0158_01.row.toRowW.prog w) (ktrTop dp un gd cn cs L a ccd cl outer) (.call (.ref 84) ⟨[.ref one, .ref two], []⟩) R s := by
  k_fill
  intro dp un gd cn cs a ccd cl outer A₀ base h₀ L m s R B F X T hk hpre hdp hun hret
  obtain ⟨hl1, hl2, hn1, hn2⟩ := hpre
  have hb := cmp3_bound us.length vs.length
  walk_at "pc_enter0"
  o_head !(0, 0)
  all_goals exact hret _ _ _ (Fr.keep (h₀ := s.heap) (by assumption)) (isInt_of rfl)
theorem compared_spec (one two : Addr) (vs us : List Value) :
    PClaim w p loose mean mg mb 2 84 [.ref one, .ref two] (fun h => h.IsList one vs.toArray ∧ h.IsList two us.toArray ∧ vs.length < 100 ∧ us.length < 100) (fun _ v _ => ∃ t, v = .int (3 * cmp3 us.length vs.length) t) :=
  fun dp un gd cn cs a ccd cl outer A₀ base h₀ L m s _ _ B F X T hk hpre hdp hun hret =>
    wpAny_call (compared_code w p loose mean mg mb one two vs us dp un gd cn cs a ccd cl outer A₀ base h₀ L m s _ B F X T hk hpre hdp hun hret)
end
end
end
section
noncomputable def ltS (x y : Str) : Bool := decide (x.cps.toList < y.cps.toList)
theorem dropW_len (x : Str) : ∀ l : List Str, (l.dropWhile (· == x)).length ≤ l.length
  | [] => Nat.le_refl _
  | y :: l => by
    rw [List.dropWhile_cons]
    split
    · exact Nat.le_succ_of_le (dropW_len x l)
    · exact Nat.le_refl _
noncomputable def sld : List Str → List Str → List Str → List Str → List Str × List Str
  | [], ys, M, U => (M, U ++ ys)
  | x :: xs, [], M, U => (M ++ x :: xs, U)
  | x :: xs, y :: ys, M, U => if ltS x y then sld (xs.dropWhile (· == x)) (y :: ys) (M ++ [x]) U else if ltS y x then sld (x :: xs) (ys.dropWhile (· == y)) M (U ++ [y]) else sld (xs.dropWhile (· == x)) (ys.dropWhile (· == y)) M U
termination_by xs ys => xs.length + ys.length
decreasing_by
  · have := dropW_len x xs; simp; omega
  · have := dropW_len y ys; simp; omega
  · have := dropW_len x xs; have := dropW_len y ys; simp; omega
theorem sld_end {xs ys M U : List Str} (h : xs = [] ∨ ys = []) : sld xs ys M U = (M ++ xs, U ++ ys) := by
  rcases h with rfl | rfl
  · rw [sld, List.append_nil]
  · cases xs with
    | nil => rw [sld, List.append_nil, List.append_nil]
    | cons x xs => rw [sld, List.append_nil]
theorem sld_lt {xs ys M U : List Str} {i j : Nat} {x y : Str} (hx : xs[i]? = some x) (hy : ys[j]? = some y) (h : ltS x y = true) : sld (xs.drop i) (ys.drop j) M U = sld ((xs.drop (i + 1)).dropWhile (· == x)) (ys.drop j) (M ++ [x]) U := by
  obtain ⟨h1, rfl⟩ := List.getElem?_eq_some_iff.mp hx
  obtain ⟨h2, rfl⟩ := List.getElem?_eq_some_iff.mp hy
  rw [List.drop_eq_getElem_cons h1, List.drop_eq_getElem_cons h2, sld, if_pos h]
theorem sld_gt {xs ys M U : List Str} {i j : Nat} {x y : Str} (hx : xs[i]? = some x) (hy : ys[j]? = some y) (h : ltS x y = false) (h' : ltS y x = true) : sld (xs.drop i) (ys.drop j) M U = sld (xs.drop i) ((ys.drop (j + 1)).dropWhile (· == y)) M (U ++ [y]) := by
  obtain ⟨h1, rfl⟩ := List.getElem?_eq_some_iff.mp hx
  obtain ⟨h2, rfl⟩ := List.getElem?_eq_some_iff.mp hy
  rw [List.drop_eq_getElem_cons h1, List.drop_eq_getElem_cons h2, sld, if_neg (by rw [h]; decide), if_pos h']
theorem sld_eq {xs ys M U : List Str} {i j : Nat} {x y : Str} (hx : xs[i]? = some x) (hy : ys[j]? = some y) (h : ltS x y = false) (h' : ltS y x = false) : sld (xs.drop i) (ys.drop j) M U = sld ((xs.drop (i + 1)).dropWhile (· == x)) ((ys.drop (j + 1)).dropWhile (· == y)) M U := by
  obtain ⟨h1, rfl⟩ := List.getElem?_eq_some_iff.mp hx
  obtain ⟨h2, rfl⟩ := List.getElem?_eq_some_iff.mp hy
  rw [List.drop_eq_getElem_cons h1, List.drop_eq_getElem_cons h2, sld, if_neg (by rw [h]; decide), if_neg (by rw [h']; decide)]
theorem skip_on {xs : List Str} {k i : Nat} {x z : Str} (hP : (xs.drop k).dropWhile (· == x) = (xs.drop i).dropWhile (· == x)) (hz : xs[k]? = some z) (e : z = x) : (xs.drop (k + 1)).dropWhile (· == x) = (xs.drop i).dropWhile (· == x) := by
  obtain ⟨h1, rfl⟩ := List.getElem?_eq_some_iff.mp hz
  rw [← hP, List.drop_eq_getElem_cons h1, List.dropWhile_cons, if_pos (by simpa using e)]
theorem skip_stop {xs : List Str} {k i : Nat} {x z : Str} (hP : (xs.drop k).dropWhile (· == x) = (xs.drop i).dropWhile (· == x)) (hz : xs[k]? = some z) (e : z ≠ x) : xs.drop k = (xs.drop i).dropWhile (· == x) := by
  obtain ⟨h1, rfl⟩ := List.getElem?_eq_some_iff.mp hz
  rw [← hP, List.drop_eq_getElem_cons h1, List.dropWhile_cons, if_neg (by simpa using e)]
theorem skip_out {xs : List Str} {k i : Nat} {x : Str} (hP : (xs.drop k).dropWhile (· == x) = (xs.drop i).dropWhile (· == x)) (hk : xs.length ≤ k) : xs.drop k = (xs.drop i).dropWhile (· == x) := by
  rw [← hP, List.drop_eq_nil_of_le hk]; rfl
section
variable {prog : Program} {w : World} {A : Around} {E : Value → Shared → Prop} {s : Shared} {h₀ : Heap} {L : Addr} {m : Str → Option Value} {news : List (Addr × Obj)}
theorem extend_any {D b : Addr} {its its2 : Array Value} {n n2 : Nat} {Q : Value → Shared → Prop} (F : Fr h₀ L s.heap m) (N : News h₀ L s.heap news) (hD : (D, listOf its n) ∈ news) (hb : (b, listOf its2 n2) ∈ news) (hz : its.size + its2.size < 1000)
    (h : ∀ h' n', Fr h₀ L h' m → (∀ q ∈ news, q.1 ≠ D → h'.get? q.1 = some q.2) → h'.get? D = some (listOf (its ++ its2) n') → Q .none { s with heap := h' }) : wpAny (model prog w) A (call (.builtin "list.extend") [.ref D, .ref b]) Q E s := by
  have z := N (D, listOf its n) hD
  have s2 := Heap.SameBut.update s.heap D (Obj.mapSeq (· ++ its2))
  obtain ⟨c2, hc2⟩ : ∃ c2, (s.heap.update D (Obj.mapSeq (· ++ its2))).get? D = some (seqObj "list" (its ++ its2) c2) := ⟨_, get?_update_seq z.1 (· ++ its2)⟩
  exact call_meets PySem.F.slot_list_extend ⟨_, z.1, rfl⟩ PySem.F.entry_list_extend (PySem.F.args_list_extend_2 _ _) (PySem.AutoSeq1.list_extend_list_list_0 D its n b its2 n2 (extend_door (by rw [sizeLine_eq]; omega)) (by first | (rw [Array.length_toList, sizeLine_eq]; omega) | (rw [sizeLine_eq]; omega)) (by rw [sizeLine_eq]; omega))
    ⟨z.1, (N _ hb).1, h _ c2 (F.change s2 z.2.1 z.2.2) (fun q hq hn => (s2.2 _ hn).trans (N q hq).1) hc2⟩
end
theorem News.swap {h₀ h h' : Heap} {L D : Addr} {news news1 : List (Addr × Obj)} {o o' : Obj} (N : News h₀ L h news) (hD : (D, o) ∈ news) (K : ∀ q ∈ news, q.1 ≠ D → h'.get? q.1 = some q.2) (G : h'.get? D = some o') (hn : ∀ p ∈ news1, p = (D, o') ∨ (p ∈ news ∧ p.1 ≠ D)) : News h₀ L h' news1 := by
  intro p hp
  rcases hn p hp with rfl | ⟨h1, h2⟩
  · exact ⟨G, (N _ hD).2⟩
  · exact ⟨K p h1 h2, (N p h1).2⟩
theorem fr_kst {h₀ h : Heap} {L : Addr} {m : Str → Option Value} (ps : List (Str × Value)) (F : Fr h₀ L h m) (hp : ∀ p ∈ ps, m p.1 = some p.2) : Fr h₀ L h (kstB (fun z => if ([] : List Str).contains z then m z else m z) ps) := ksw_fr (stored := []) (m₀ := m) hp (fun _ _ _ => rfl) F
noncomputable def SkN (h₀ : Heap) (L : Addr) (s : Shared) (Led : List (Addr × Obj)) (m₀ : Str → Option Value) (ix : Str) (xs : List Str) (x : Str) (k : Nat) (f : Flow) (s₃ : Shared) : Prop :=
  f = .next ∧ xs[k]? = some x ∧ ∃ t h tk m', s₃ = { s with heap := h, toks := tk } ∧ Fr h₀ L h m' ∧ News h₀ L h Led ∧ m' ix = some (.int ((k + 1 : Nat) : Int) t) ∧ ∀ z, z ≠ ix → m' z = m₀ z
noncomputable def SkE (h₀ : Heap) (L : Addr) (s : Shared) (Led : List (Addr × Obj)) (m₀ : Str → Option Value) (ix : Str) (xs : List Str) (x : Str) (k : Nat) (t : Tok) (s₃ : Shared) : Prop :=
  (∃ z, xs[k]? = some z ∧ z ≠ x) ∧ ∃ h tk, s₃ = { s with heap := h, toks := tk } ∧ Fr h₀ L h (fun z => if z = ix then some (.int (k : Int) t) else m₀ z) ∧ News h₀ L h Led
section
variable {prog : Program} {w : World} {A : Around} {E : Value → Shared → Prop} {Q : Flow → Shared → Prop} {s : Shared} {env : Env} {h₀ : Heap} {L : Addr}
theorem skip_rule {test : Expr} {body : List Stmt} {pos : Pos} {ix : Str} {xs : List Str} {x : Str} {i0 : Nat} {t0 : Tok} {m₀ : Str → Option Value} (Led : List (Addr × Obj))
    (F : Fr h₀ L s.heap m₀) (N : News h₀ L s.heap Led) (h0 : m₀ ix = some (.int (i0 : Int) t0)) (hi : i0 ≤ xs.length)
    (turn : ∀ (k : Nat) (t : Tok) h tk, i0 ≤ k → k ≤ xs.length → (xs.length ≤ k → xs.drop k = (xs.drop i0).dropWhile (· == x)) → Fr h₀ L h (fun z => if z = ix then some (.int (k : Int) t) else m₀ z) → News h₀ L h Led →
      wpAny (model prog w) A (isTrue test env (eval test env)) (fun b s₂ => if b = true then wpAny (model prog w) A (execs body env) (SkN h₀ L s Led m₀ ix xs x k) E s₂ else SkE h₀ L s Led m₀ ix xs x k t s₂) E { s with heap := h, toks := tk })
    (exit : ∀ (k : Nat) (t : Tok) h tk, i0 ≤ k → k ≤ xs.length → xs.drop k = (xs.drop i0).dropWhile (· == x) → Fr h₀ L h (fun z => if z = ix then some (.int (k : Int) t) else m₀ z) → News h₀ L h Led → Q .next { s with heap := h, toks := tk })
    (hE : PassesOwn (model prog w) A env E) : wpAny (model prog w) A (exec (.While test body [] pos) env) Q E s := by
  have fr : ∀ {h : Heap} {m' : Str → Option Value} {k : Nat} {t : Tok}, Fr h₀ L h m' → m' ix = some (.int (k : Int) t) → (∀ z, z ≠ ix → m' z = m₀ z) → Fr h₀ L h (fun z => if z = ix then some (.int (k : Int) t) else m₀ z) := by
    intro h m' k t F' h1 h2
    have : m' = fun z => if z = ix then some (.int (k : Int) t) else m₀ z := by
      funext z
      by_cases e : z = ix
      · rw [if_pos e, e]; exact h1
      · rw [if_neg e]; exact h2 z e
    exact this ▸ F'
  refine mw_while (σ := Nat × Tok) (fun _ => Led) (fun c => [(ix, .int (c.1 : Int) c.2)]) (fun _ => True) [] (fun c => i0 ≤ c.1 ∧ c.1 ≤ xs.length ∧ (xs.drop c.1).dropWhile (· == x) = (xs.drop i0).dropWhile (· == x))
    (fun c => i0 ≤ c.1 ∧ c.1 ≤ xs.length ∧ xs.drop c.1 = (xs.drop i0).dropWhile (· == x)) (fun c => xs.length - c.1) (i0, t0) F N trivial ?_ ⟨Nat.le_refl _, hi, rfl⟩ ?_ ?_ hE
  · intro q hq
    rw [List.mem_singleton.mp hq]; exact h0
  · rintro ⟨k, t⟩ u h tk - ⟨h1, h2, h3⟩ F2 N2
    have F3 : Fr h₀ L h (fun z => if z = ix then some (.int (k : Int) t) else m₀ z) := by
      refine fr F2 (by simp [kstB]) (fun z hz => by simp [kstB, hz])
    refine wpAny_mono (turn k t h tk h1 h2 (fun hk => skip_out h3 hk) F3 N2) (fun b s₂ hb => ?_) fun _ _ e => e
    cases b with
    | true =>
      simp only [if_true] at hb ⊢
      refine wpAny_mono hb (fun f s₃ hf => ?_) fun _ _ e => e
      obtain ⟨rfl, hx, t', h', tk', m', rfl, F4, N4, e1, e2⟩ := hf
      have hlt := (List.getElem?_eq_some_iff.mp hx).1
      refine ksw_end (k + 1, t') F4 N4 (fun _ h => h) trivial ?_ ?_ ⟨by omega, hlt, skip_on h3 hx rfl⟩ (by dsimp only; omega)
      · intro q hq
        rw [List.mem_singleton.mp hq]; exact e1
      · intro z hz _
        exact e2 z (hz (ix, .int ((k + 1 : Nat) : Int) t') (.head _))
    | false =>
      simp only [Bool.false_eq_true, if_false] at hb ⊢
      obtain ⟨⟨z, hz, hzx⟩, h', tk', rfl, F4, N4⟩ := hb
      refine ⟨h', tk', rfl, ?_, N4, h1, h2, skip_stop h3 hz hzx⟩
      have : kstB (fun z => if ([] : List Str).contains z = true then u z else m₀ z) [(ix, Value.int (k : Int) t)] = fun z => if z = ix then some (.int (k : Int) t) else m₀ z := by
        funext z; simp [kstB]
      exact this ▸ F4
  · rintro ⟨k, t⟩ u h tk - ⟨h1, h2, h3⟩ F2 N2
    exact exit k t h tk h1 h2 h3 (fr F2 (by simp [kstB]) (fun z hz => by simp [kstB, hz])) N2
end
theorem kst_turn {ix : Str} {v v0 : Value} {u : Str → Option Value} {ps : List (Str × Value)} : (fun z => if z = ix then some v else kstB u ((ix, v0) :: ps) z) = kstB u ((ix, v) :: ps) := by
  funext z
  by_cases e : z = ix <;> simp [kstB, e]
theorem fr_same {h₀ h : Heap} {L : Addr} {m m' : Str → Option Value} (F : Fr h₀ L h m) (e : ∀ z, m z = m' z) : Fr h₀ L h m' := (funext e : m = m') ▸ F
end
section
theorem ltS_irr (x : Str) : ltS x x = false := by
  unfold ltS; exact decide_eq_false (List.lt_irrefl _)
theorem ltS_trans {x y z : Str} (h1 : ltS x y = true) (h2 : ltS y z = true) : ltS x z = true := by
  unfold ltS at *; exact decide_eq_true (List.lt_trans (of_decide_eq_true h1) (of_decide_eq_true h2))
theorem ltS_eq {x y : Str} (h1 : ltS x y = false) (h2 : ltS y x = false) : x = y := by
  unfold ltS at *
  have a := List.not_lt.mp (of_decide_eq_false h1)
  have b := List.not_lt.mp (of_decide_eq_false h2)
  have e : x.cps.toList = y.cps.toList := List.le_antisymm b a
  cases x; cases y
  simp only at e
  congr 1
  exact Array.toList_inj.mp e
theorem ltS_not {x y z : Str} (h1 : ltS x y = false) (h2 : ltS y z = false) : ltS x z = false := by
  unfold ltS at *
  have a := List.not_lt.mp (of_decide_eq_false h1)
  have b := List.not_lt.mp (of_decide_eq_false h2)
  exact decide_eq_false (List.not_lt.mpr (List.le_trans b a))
theorem ltS_asymm {x y : Str} (h1 : ltS x y = true) : ltS y x = false := by
  cases h : ltS y x with
  | false => rfl
  | true => have := ltS_trans h1 h; rw [ltS_irr] at this; cases this
noncomputable def maxS : List Str → Str
  | [] => default
  | x :: r => r.foldl (fun b a => if ltS b a then a else b) x
theorem maxS_fold : ∀ (r : List Str) (x : Str), (r.foldl (fun b a => if ltS b a then a else b) x) ∈ x :: r ∧ ∀ a ∈ x :: r, ltS (r.foldl (fun b a => if ltS b a then a else b) x) a = false
  | [], x => ⟨.head _, fun a ha => by rw [List.mem_singleton.mp ha]; exact ltS_irr x⟩
  | y :: r, x => by
    simp only [List.foldl_cons]
    by_cases h : ltS x y = true
    · rw [if_pos h]
      obtain ⟨h1, h2⟩ := maxS_fold r y
      refine ⟨.tail _ h1, fun a ha => ?_⟩
      rcases List.mem_cons.mp ha with rfl | ha
      · have := h2 y (.head _)
        exact ltS_not this (ltS_asymm h)
      · exact h2 a ha
    · rw [if_neg h]
      have h' : ltS x y = false := by simpa using h
      obtain ⟨h1, h2⟩ := maxS_fold r x
      refine ⟨?_, fun a ha => ?_⟩
      · rcases List.mem_cons.mp h1 with e | e
        · rw [e]; exact .head _
        · exact .tail _ (.tail _ e)
      · rcases List.mem_cons.mp ha with rfl | ha
        · exact h2 a (.head _)
        rcases List.mem_cons.mp ha with rfl | ha
        · exact ltS_not (h2 x (.head _)) h'
        · exact h2 a (.tail _ ha)
theorem maxS_is {ys : List Str} {M : Str} (h1 : M ∈ ys) (h2 : ∀ a ∈ ys, ltS M a = false) : M = maxS ys := by
  cases ys with
  | nil => cases h1
  | cons x r =>
    obtain ⟨h3, h4⟩ := maxS_fold r x
    exact ltS_eq (h2 _ h3) (h4 _ h1)
theorem argBest_max {ys : List Str} : ∀ k, k < ys.length → argBest (fun i j => ltS (ys.getD j default) (ys.getD i default)) k ≤ k ∧ ∀ i, i ≤ k → ltS (ys.getD (argBest (fun i j => ltS (ys.getD j default) (ys.getD i default)) k) default) (ys.getD i default) = false
  | 0, _ => ⟨Nat.le_refl _, fun i hi => by rw [Nat.le_zero.mp hi]; exact ltS_irr _⟩
  | k + 1, hk => by
    obtain ⟨h1, h2⟩ := argBest_max (ys := ys) k (by omega)
    simp only [argBest]
    split
    · rename_i h
      refine ⟨Nat.le_refl _, fun i hi => ?_⟩
      rcases Nat.lt_or_ge k i with hlt | hge
      · rw [show i = k + 1 by omega]; exact ltS_irr _
      · exact ltS_not (ltS_asymm h) (h2 i hge)
    · rename_i h
      refine ⟨by omega, fun i hi => ?_⟩
      rcases Nat.lt_or_ge k i with hlt | hge
      · rw [show i = k + 1 by omega]; simpa using h
      · exact h2 i hge
noncomputable def SortedS (l : List Str) : Prop := l.Pairwise fun a b => ltS b a = false
theorem sorted_one {a b : List Str} (h : a.Perm b) (ha : SortedS a) (hb : SortedS b) : a = b :=
  List.Perm.eq_of_pairwise (fun _ _ _ _ h1 h2 => ltS_eq h2 h1) ha hb h
noncomputable def sortS (l : List Str) : List Str := l.mergeSort (fun a b => !ltS b a)
theorem sortS_perm (l : List Str) : (sortS l).Perm l := List.mergeSort_perm _ _
theorem sortS_sorted (l : List Str) : SortedS (sortS l) := by
  have := List.pairwise_mergeSort (le := fun a b => !ltS b a) (fun a b c h1 h2 => by simp only [Bool.not_eq_true'] at *; exact ltS_not h2 h1)
    (fun a b => by
      cases h : ltS b a with
      | false => rfl
      | true => simp [ltS_asymm h]) l
  exact this.imp fun {a b} h => by simpa using h
theorem sortedS_pair : ∀ {l : List Str}, sortedS l = true → SortedS l := by
  have key : ∀ (l : List Str) (p : Str), risingS p l = true → (∀ a ∈ l, ltS a p = false) ∧ SortedS l := by
    intro l
    induction l with
    | nil => intro p _; exact ⟨fun a h => (nomatch h), List.Pairwise.nil⟩
    | cons x r ih =>
      intro p h
      change (!PySem.Spec.ltCps x.cps.toList p.cps.toList && risingS x r) = true at h
      rw [Bool.and_eq_true, Bool.not_eq_true', ltCps_eq] at h
      obtain ⟨h1, h2⟩ := ih x h.2
      refine ⟨fun a ha => ?_, List.pairwise_cons.mpr ⟨h1, h2⟩⟩
      rcases List.mem_cons.mp ha with rfl | ha
      · exact h.1
      · exact ltS_not (h1 a ha) h.1
  intro l h
  cases l with
  | nil => exact .nil
  | cons x r => exact List.pairwise_cons.mpr (key r x h)
theorem sortS_is {l s : List Str} (hp : s.Perm l) (hs : sortedS s = true) : s = sortS l := sorted_one (hp.trans (sortS_perm l).symm) (sortedS_pair hs) (sortS_sorted l)
section
variable {prog : Program} {w : World} {A : Around} {E : Value → Shared → Prop} {s : Shared} {h₀ : Heap} {L : Addr} {m : Str → Option Value} {news : List (Addr × Obj)}
theorem max_strs {l : Addr} {vs : List Value} {xs : List Str} {Q : Value → Shared → Prop} (hh : A.handled = none) (F : Fr h₀ L s.heap m) (N : News h₀ L s.heap news) (hl : s.heap.IsList l vs.toArray) (hS : StrsAre vs xs) (hne : xs ≠ [])
    (h : ∀ h' tk t, Fr h₀ L h' m → News h₀ L h' news → Q (.str (maxS xs) t) { s with heap := h', toks := tk }) : wpAny (model prog w) A (call (.builtin "max") [.ref l]) Q E s := by
  have hlen := hS.len_eq
  have hpos : 0 < xs.length := List.length_pos_iff.mpr hne
  obtain ⟨ol, hol, _⟩ := id hl
  have hlt := Heap.lt_size hol
  have hlI : l ≠ s.heap.objs.size := Nat.ne_of_lt hlt
  refine call_max_walk (wpAny_pyIter_list hl ?_)
  have W := Walks.list (prog := prog) (w := w) (A := A.in1) hh s.heap.objs.size l hlI vs.toArray
  refine ⟨_, _, _, _, _, _, fun i j => ltS (xs.getD j default) (xs.getD i default), rfl, W, ⟨⟨_, Heap.get?_push_size _ rfl, rfl, rfl⟩, hl.at fun o e => Heap.get?_push_of_some _ e⟩, ?_, by simpa [hlen] using hpos, fun i j vi vj s Q E hi hj h => ?_, fun v h' tk hP hk => ?_⟩
  · intro b hb
    show b < (s.heap.push _).objs.size
    rcases List.mem_cons.mp hb with rfl | hb
    · simp
    · rw [List.mem_singleton.mp hb]; exact Nat.lt_of_lt_of_le hlt (by simp)
  · obtain ⟨b, t, rfl, e1⟩ := hS.item i vi (by simpa using hi)
    obtain ⟨c, u, rfl, e2⟩ := hS.item j vj (by simpa using hj)
    simp only [List.getD_eq_getElem?_getD, e1, e2, Option.getD_some] at h
    exact P.gt_str h
  · have hsz : vs.toArray.size = xs.length := by simp [hlen]
    rw [hsz] at hP
    obtain ⟨b, t, rfl, e1⟩ := hS.item _ v ((List.getElem?_toArray).symm.trans hP)
    obtain ⟨h1, h2⟩ := argBest_max (ys := xs) (xs.length - 1) (by omega)
    have hb : b = maxS xs := by
      refine maxS_is (List.mem_of_getElem? e1) fun a ha => ?_
      obtain ⟨i, hi, rfl⟩ := List.mem_iff_getElem.mp ha
      have := h2 i (by omega)
      rw [List.getD_eq_getElem?_getD, e1, Option.getD_some] at this
      simpa [List.getD_eq_getElem?_getD, hi] using this
    have kp : ∀ b o, s.heap.get? b = some o → h'.get? b = some o := fun b o e => hk b o (fun hm => by rw [List.mem_singleton.mp hm] at e; exact Nat.lt_irrefl _ (Heap.lt_size e)) (Heap.get?_push_of_some _ e)
    rw [hb]; exact h h' tk t (F.keeps kp) (N.grown kp)
end
end
section
theorem StrsAre.any {x : Str} : ∀ {vs : List Value} {xs : List Str}, StrsAre vs xs → vs.any (isS x) = xs.contains x
  | _, _, .nil => rfl
  | _, _, .cons a u r => by
    rw [List.any_cons, List.contains_cons, StrsAre.any r]
    congr 1
    simp only [isS]
    by_cases h : a = x
    · subst h; simp
    · rw [decide_eq_false h]; exact (beq_eq_false_iff_ne.mpr (Ne.symm h)).symm
section
variable {prog : Program} {w : World} {A : Around} {E : Value → Shared → Prop} {s : Shared}
theorem notIn_strs {l : Addr} {vs : List Value} {xs : List Str} {x : Str} {t : Tok} {Q : Value → Shared → Prop} (hl : s.heap.IsList l vs.toArray) (hS : StrsAre vs xs) (h : Q (.bool (!xs.contains x)) s) : wpAny (model prog w) A (compareOp .NotIn (.str x t) (.ref l)) Q E s :=
  SeqInW.notIn_listW (isS x) (fun y hy => StrsAre.eqs hS y (by simpa using hy)) hl (by rw [List.any_toArray, StrsAre.any hS]; exact h)
end
noncomputable def lackC (xs ys : List Str) (k : Nat) (x : Str) : Bool := !ys.contains x && (!(xs.take k).contains x || ltS (maxS ys) x)
noncomputable def lackN (xs ys : List Str) : Nat → List Str
  | 0 => []
  | k + 1 => lackN xs ys k ++ (match xs[k]? with | some x => if lackC xs ys k x then [x] else [] | none => [])
noncomputable def lackS (xs ys : List Str) : List Str := sortS (lackN xs ys xs.length)
section
variable (w : World) (p : Program) (loose : List Str) (mean : ExcName → Option Value) (mg mb : Str → Option Value)
local macro_rules | `(tactic| walk_at "compareOp NotIn str ref") => `(tactic| (refine notIn_strs (by walk_at "my_list") (by first | with_reducible assumption | exact StrsAre.take' (by with_reducible assumption) _) ?_))
local macro_rules | `(tactic| walk_at "call builtin:max") => `(tactic| (refine max_strs rfl (by assumption) (by assumption) (by walk_at "my_list") (by with_reducible assumption) (by assumption) ?_; intro h' tk' t' F' N'))
noncomputable def S10 : Cx (Addr × Addr × List Value × List Value × List Str × List Str) → Prop := PB (fun _ => True) 2 101 (fun q => [.ref q.1, .ref q.2.1]) (fun q => (fun h => h.IsList q.1 q.2.2.1.toArray ∧ h.IsList q.2.1 q.2.2.2.1.toArray ∧ StrsAre q.2.2.1 q.2.2.2.2.1 ∧ StrsAre q.2.2.2.1 q.2.2.2.2.2 ∧ q.2.2.2.2.1.length < 60 ∧ q.2.2.2.2.2.length < 60 ∧ q.2.2.2.2.2 ≠ [])) (fun q => (fun h v h' => ∃ a objs, v = .ref a ∧ Made h h' objs ∧ DatIn objs (.ref a) (.list ((lackS q.2.2.2.2.1 q.2.2.2.2.2).map Dat.str))))
@[irreducible] noncomputable def K10 : Cx (Addr × Addr × List Value × List Value × List Str × List Str) := Cx.bad (0, 0, [], [], [], []) S10
set_option maxRecDepth 100000 in
set_option maxHeartbeats 8000000 in
theorem lacking_spec_at : S10 K10 := by
  dsimp only [S10, PB]
  k_fill
  intro _ B F X T hk hpre hdp hun hret
  obtain ⟨hl, ho, hS, hO, hn1, hn2, hne⟩ := hpre
  have hlv := hS.len_eq
  have hlu := hO.len_eq
  w_top off
  walk_at "pc_enter"
  refine wpAny_execs_cons ?_
  o_head !(1, 0)
  rename_i L' _ B1 X1 T1 R _ _ _ F1 N1
  refine For_invV K10.s.heap (by rfl) (by rfl) ?_ (by intro _; rfl)
  o_head !(1, 0)
  refine' mf_range (σ := List Value × List Str × Nat) (fun c => [(R, listOf c.1.toArray c.2.2)]) [] (fun _ => []) (fun _ _ => True) [] (fun i c => StrsAre c.1 c.2.1 ∧ c.2.1 = lackN K10.x.2.2.2.2.1 K10.x.2.2.2.2.2 i ∧ c.1.length ≤ i) [R] ([], [], 0) ?hh ?hr ?hsm ?F ?N ?hn ?hadr ?hf ?hk ?hp ?turn ?done
  case hh => rfl
  case hr => k_asm
  case F => k_asm
  case N => k_asm
  case hn => intro _ h; exact h
  case hadr => intro _; rfl
  case hf => trivial
  case hk => intro _ h; exact nomatch h
  case hp => exact ⟨.nil, rfl, Nat.le_refl _⟩
  case hsm => omega
  case turn =>
    intro c' tl' i' t' u' h' tk' own' hi' hs' ho' hf' hp' F' N'
    obtain ⟨cv, cx, cn⟩ := c'
    obtain ⟨hp1, hp2, hp3⟩ := hp'
    dsimp only [List.nil_append, List.append_nil, List.cons_append, kstB] at F' N' hp1 hp2 hp3 ⊢
    have hi2 : i' < K10.x.2.2.2.2.1.length := by omega
    obtain ⟨tx, hx⟩ := hS.at (List.getElem?_eq_getElem hi2)
    have hlen := hp1.len_eq
    have hp1k : id (StrsAre cv cx) := hp1
    generalize hxe : K10.x.2.2.2.2.1[i'] = x at hx
    have hxs : K10.x.2.2.2.2.1[i']? = some x := by rw [← hxe]; exact List.getElem?_eq_getElem hi2
    have hgd : K10.x.2.2.2.2.1.getD ((i' : Int)).toNat Str.empty = x := by rw [Int.toNat_natCast, List.getD_eq_getElem?_getD, hxs]; rfl
    o_head !(2, 0)
    refine notIn_strs (hl := ho.at fun o e => F'.keep _ o e) hO ?_
    rw [hgd]
    cases hc1 : K10.x.2.2.2.2.2.contains x with
    | true =>
      have hC : lackC K10.x.2.2.2.2.1 K10.x.2.2.2.2.2 i' x = false := by unfold lackC; rw [hc1]; rfl
      simp only [Bool.not_true]
      o_head !(2, 0)
      dsimp only [InvPostG]
      refine kd_end (cv, cx, cn) [] hs' F' N' ?_ ?_ rfl (fun _ h => nomatch h) (fun _ h => nomatch h) (fun _ h => nomatch h) ?_ trivial ⟨show StrsAre cv cx from hp1k, ?_, by dsimp only; omega⟩
      · intro p hp
        simp only [List.nil_append, List.cons_append, List.mem_cons] at hp ⊢
        rcases hp with rfl | hp
        · simp
        · simp [hp]
      · intro p hp
        simp [hp]
      · intro z hz _ _
        simp [hz]
      · simp only [lackN, hxs]
        rw [← hp2, hC]
        simp
    | false =>
      simp only [Bool.not_false]
      o_head !(2, 0)
      refine slice_upto F' N' (hl.at fun o e => F'.keep _ o e) (by omega) (by omega) ?_
      intro a9 h9 F9 l9 N9
      (try simp only [Int.toNat_natCast] at N9)
      (try dsimp only)
      o_head !(2, 0)
      refine notIn_strs (N9.isList (.head _)) (hS.take' _) ?_
      rw [hgd]
      cases hc2 : (K10.x.2.2.2.2.1.take i').contains x with
      | false =>
        have hC : lackC K10.x.2.2.2.2.1 K10.x.2.2.2.2.2 i' x = true := by unfold lackC; rw [hc1, hc2]; rfl
        simp only [Bool.not_false]
        o_head !(2, 0)
        rw [hgd]
        rename_i t0
        refine append_any F9 N9 (.tail _ (.head _)) (by simp only [List.size_toArray]; rw [sizeLine_eq]; omega) ((R, listOf (cv ++ [Value.str x t0]).toArray (cn + 1)) :: (tl' ++ own')) ?_ ?_
        · intro p hp
          rcases List.mem_cons.mp hp with rfl | hp
          · left; simp
          · refine .inr ⟨?_, ?_⟩
            · simp only [List.mem_cons]; exact .inr (.inr (hp))
            · exact ho' p hp R (.head _)
        intro h11 F11 N11
        o_head !(2, 0)
        refine kd_end (cv ++ [.str x t0], cx ++ [x], cn + 1) [] hs' F11 N11 ?_ ?_ rfl (fun _ h => nomatch h) (fun _ h => nomatch h) (fun _ h => nomatch h) ?_ trivial ⟨StrsAre.snoc (show StrsAre cv cx from hp1k), ?_, by simp; omega⟩
        · intro p hp
          simp only [List.nil_append, List.cons_append, List.mem_cons] at hp ⊢
          rcases hp with rfl | hp
          · simp
          · simp [hp]
        · intro p hp
          simp [hp]
        · intro z hz _ _
          simp [hz]
        · simp only [lackN, hxs]
          rw [← hp2, hC]
          rfl
      | true =>
        simp only [Bool.not_true]
        o_head !(2, 0)
        refine max_strs rfl F9 N9 (ho.at fun o e => F9.keep _ o e) hO hne ?_
        intro h10 tk10 t10 F10 N10
        (try dsimp only)
        rw [hgd]
        o_head !(2, 0)
        · rename_i hlt t0
          have hC : lackC K10.x.2.2.2.2.1 K10.x.2.2.2.2.2 i' x = true := by unfold lackC; rw [hc1, hc2]; simpa [ltS] using hlt
          rw [hgd]
          refine append_any F10 N10 (.tail _ (.head _)) (by simp only [List.size_toArray]; rw [sizeLine_eq]; omega) ((R, listOf (cv ++ [Value.str x t0]).toArray (cn + 1)) :: (tl' ++ own')) ?_ ?_
          · intro p hp
            rcases List.mem_cons.mp hp with rfl | hp
            · left; simp
            · refine .inr ⟨?_, ?_⟩
              · simp only [List.mem_cons]; exact .inr (.inr (hp))
              · exact ho' p hp R (.head _)
          intro h11 F11 N11
          o_head !(2, 0)
          refine kd_end (cv ++ [.str x t0], cx ++ [x], cn + 1) [] hs' F11 N11 ?_ ?_ rfl (fun _ h => nomatch h) (fun _ h => nomatch h) (fun _ h => nomatch h) ?_ trivial ⟨StrsAre.snoc (show StrsAre cv cx from hp1k), ?_, by simp; omega⟩
          · intro p hp
            simp only [List.nil_append, List.cons_append, List.mem_cons] at hp ⊢
            rcases hp with rfl | hp
            · simp
            · simp [hp]
          · intro p hp
            simp [hp]
          · intro z hz _ _
            simp [hz]
          · simp only [lackN, hxs]
            rw [← hp2, hC]
            rfl
        · rename_i hlt
          have hC : lackC K10.x.2.2.2.2.1 K10.x.2.2.2.2.2 i' x = false := by unfold lackC; rw [hc1, hc2]; simpa [ltS] using hlt
          dsimp only [InvPostG]
          refine kd_end (cv, cx, cn) [] hs' F10 N10 ?_ ?_ rfl (fun _ h => nomatch h) (fun _ h => nomatch h) (fun _ h => nomatch h) ?_ trivial ⟨show StrsAre cv cx from hp1k, ?_, by dsimp only; omega⟩
          · intro p hp
            simp only [List.nil_append, List.cons_append, List.mem_cons] at hp ⊢
            rcases hp with rfl | hp
            · simp
            · simp [hp]
          · intro p hp
            simp [hp]
          · intro z hz _ _
            simp [hz]
          · simp only [lackN, hxs]
            rw [← hp2, hC]
            simp
  case done =>
    intro c' tl' u' h' tk' ho' hf' hp' F' N'
    obtain ⟨cv, cx, cn⟩ := c'
    obtain ⟨hp1, hp2, hp3⟩ := hp'
    dsimp only [List.nil_append, List.append_nil, List.cons_append, kstB] at F' N' hp1 hp2 hp3 ⊢
    o_head !(2, 0)
    have hlr : h'.IsList R cv.toArray := N'.isList (.head _)
    refine sorted_N_str F' N' hlr hp1 (by omega) (fun h2 vs2 ss2 e2 F2 N2 hs2 hperm hsort => ?_)
    (try dsimp only)
    o_head !(2, 0)
    (try dsimp only)
    have hss : ss2 = lackS K10.x.2.2.2.2.1 K10.x.2.2.2.2.2 := by rw [sortS_is hperm hsort, hp2, hlv]; rfl
    subst hss
    refine hret _ _ _ (Fr.keep (h₀ := K10.s.heap) F2) ⟨_, _, rfl, news_made N2 (fun _ h => h), .list (n := e2) (.head _) (strs_dat hs2)⟩
theorem lacking_spec (one other : Addr) (vs us : List Value) (xs ys : List Str) :
    PClaim w p loose mean mg mb 2 101 [.ref one, .ref other] (fun h => h.IsList one vs.toArray ∧ h.IsList other us.toArray ∧ StrsAre vs xs ∧ StrsAre us ys ∧ xs.length < 60 ∧ ys.length < 60 ∧ ys ≠ [])
      (fun h v h' => ∃ a objs, v = .ref a ∧ Made h h' objs ∧ DatIn objs (.ref a) (.list ((lackS xs ys).map Dat.str))) :=
  PB.claim (by unfold K10; rfl) lacking_spec_at (one, other, vs, us, xs, ys) w p loose mean mg mb fun _ _ _ _ _ _ _ _ _ _ _ _ _ _ _ _ _ => trivial
end
end
section
section
variable (w : World) (p : Program) (loose : List Str) (mean : ExcName → Option Value) (mg mb : Str → Option Value)
variable (Nm : Str → Prop) (levF : Str → Str → Int)
variable (LEV : ∀ (x y : Str) (tx ty t2 : Tok), PClaim w p loose mean mg mb 3 28 [.str x tx, .str y ty, .int 2 t2] (fun _ => Nm x ∧ Nm y) (fun _ v _ => ∃ t, v = .int (levF x y) t))
noncomputable def gdat (gs : List (List Str)) : List Dat := gs.map fun g => Dat.list (g.map Dat.str)
noncomputable def groupIns (levF : Str → Str → Int) : List (List Str) → Str → List (List Str)
  | [], nm => [[nm]]
  | [] :: r, nm => [] :: groupIns levF r nm
  | (y :: g) :: r, nm => if levF y nm ≤ 2 then (y :: g ++ [nm]) :: r else (y :: g) :: groupIns levF r nm
theorem groupIns_far {levF : Str → Str → Int} {nm : Str} : ∀ {gs : List (List Str)}, (∀ j, j < gs.length → ∀ y r, gs[j]? = some (y :: r) → ¬ levF y nm ≤ 2) → groupIns levF gs nm = gs ++ [[nm]]
  | [], _ => rfl
  | [] :: r, h => by rw [groupIns, groupIns_far fun j hj y q e => h (j + 1) (by simp; omega) y q (by simpa using e)]; rfl
  | (y :: g) :: r, h => by rw [groupIns, if_neg (h 0 (by simp) y g rfl), groupIns_far fun j hj y q e => h (j + 1) (by simp; omega) y q (by simpa using e)]; rfl
theorem groupIns_near {levF : Str → Str → Int} {nm : Str} {y : Str} {g : List Str} : ∀ {gs : List (List Str)} {i : Nat}, (∀ j, j < i → ∀ y r, gs[j]? = some (y :: r) → ¬ levF y nm ≤ 2) → gs[i]? = some (y :: g) → levF y nm ≤ 2 →
    groupIns levF gs nm = gs.take i ++ [y :: g ++ [nm]] ++ gs.drop (i + 1)
  | [], _, _, e, _ => by simp at e
  | _ :: _, 0, _, e, hn => by simp at e; subst e; simp [groupIns, hn]
  | [] :: r, i + 1, h, e, hn => by rw [groupIns, groupIns_near (i := i) (fun j hj y q e => h (j + 1) (by omega) y q (by simpa using e)) (by simpa using e) hn]; rfl
  | (z :: q) :: r, i + 1, h, e, hn => by rw [groupIns, if_neg (h 0 (by omega) z q rfl), groupIns_near (i := i) (fun j hj y q e => h (j + 1) (by omega) y q (by simpa using e)) (by simpa using e) hn]; rfl
theorem DatAll.take {news : List (Addr × Obj)} : ∀ {vs : List Value} {ds : List Dat}, DatAll news vs ds → ∀ k, DatAll news (vs.take k) (ds.take k)
  | _, _, .nil, k => by simp; exact .nil
  | _, _, .cons h r, 0 => by simp; exact .nil
  | _, _, .cons h r, k + 1 => by simp only [List.take_succ_cons]; exact .cons h (DatAll.take r k)
theorem DatAll.drop {news : List (Addr × Obj)} : ∀ {vs : List Value} {ds : List Dat}, DatAll news vs ds → ∀ k, DatAll news (vs.drop k) (ds.drop k)
  | _, _, .nil, k => by simp; exact .nil
  | _, _, .cons h r, 0 => by simp only [List.drop_zero]; exact .cons h r
  | _, _, .cons h r, k + 1 => by simp only [List.drop_succ_cons]; exact DatAll.drop r k
section
set_option hygiene false in
local macro_rules | `(tactic| walk_at "call ref") => `(tactic| (o_head (LEV _ _ _ _ _)))
noncomputable def S5 : Cx ((Str → Prop) × (Str → Str → Int) × Addr × List (List Str) × List (Addr × Obj) × Str × Tok) → Prop := PB (fun c => ∀ (x y : Str) (tx ty t2 : Tok), PClaim c.w c.p c.loose c.mean c.mg c.mb 3 28 [.str x tx, .str y ty, .int 2 t2] (fun _ => c.x.1 x ∧ c.x.1 y) (fun _ v _ => ∃ t, v = .int (c.x.2.1 x y) t)) 5 77 (fun q => [.ref q.2.2.1, .str q.2.2.2.2.2.1 q.2.2.2.2.2.2]) (fun q => (fun h => Held h q.2.2.2.2.1 ∧ DatIn q.2.2.2.2.1 (.ref q.2.2.1) (.list (gdat q.2.2.2.1)) ∧ q.2.2.2.1.length < 100 ∧ (∀ x ∈ q.2.2.2.1, x.length < 100 ∧ ∃ y r, x = y :: r ∧ q.1 y) ∧ q.1 q.2.2.2.2.2.1)) (fun q => (fun h v h' => ∃ a objs, v = .ref a ∧ Made h h' objs ∧ DatIn (objs ++ q.2.2.2.2.1) (.ref a) (.list (gdat (groupIns q.2.1 q.2.2.2.1 q.2.2.2.2.2.1)))))
@[irreducible] noncomputable def K5 : Cx ((Str → Prop) × (Str → Str → Int) × Addr × List (List Str) × List (Addr × Obj) × Str × Tok) := Cx.bad (fun _ => True, fun _ _ => 0, 0, [], [], default, 0) S5
set_option maxRecDepth 100000 in
set_option maxHeartbeats 8000000 in
theorem grouped_spec_at : S5 K5 := by
  dsimp only [S5, PB]
  k_fill
  intro LEV B F X T hk hpre hdp hun hret
  obtain ⟨hH, hD, hn1, hgs, hnm⟩ := hpre
  cases hD with
  | @list _ vs n ds hg hvs =>
  have hl1 : K5.s.heap.IsList K5.x.2.2.1 vs.toArray := hH.list hg
  have hlen : vs.length = K5.x.2.2.2.1.length := by rw [hvs.length]; simp [gdat]
  w_top off
  walk_at "pc_enter"
  o_head !(0, 0)
  refine' mf_range (σ := Unit) (fun _ => []) [] (fun _ => []) (fun _ _ => True) [] (fun i _ => ∀ j, j < i → ∀ y r, K5.x.2.2.2.1[j]? = some (y :: r) → ¬ K5.x.2.1 y K5.x.2.2.2.2.2.1 ≤ 2) [] () ?hh ?hr ?hsm ?F ?N ?hn ?hadr ?hf ?hk ?hp ?turn ?done
  case hh => rfl
  case hr => k_asm
  case F => k_asm
  case N => k_asm
  case hn => intro _ h; simp at h
  case hadr => intro _; rfl
  case hf => trivial
  case hk => intro _ h; simp at h
  case hp => intro j hj; exact absurd hj (Nat.not_lt_zero j)
  case hsm => omega
  case turn =>
    intro c' tl' i' t' u' h' tk' own' hi' hs' ho' hf' hp' F' N'
    dsimp only [List.nil_append, List.append_nil, kstB] at F' N'
    dsimp only
    obtain ⟨v, hv, hvd⟩ := hvs.get (k := i') (by simp [gdat]; omega)
    simp only [gdat, List.getElem_map] at hvd
    have hi2 : i' < K5.x.2.2.2.1.length := by omega
    obtain ⟨hgl, y, r, hyr, hy⟩ := hgs K5.x.2.2.2.1[i'] (List.getElem_mem hi2)
    rw [hyr] at hvd
    cases hvd with
    | @list gk us n2 _ hgk hus =>
    have hl2 : K5.s.heap.IsList gk us.toArray := hH.list hgk
    obtain ⟨u0, hu0, hu0d⟩ := hus.get (k := 0) (by simp)
    cases hu0d
    have hul : us.length < 100 := by rw [hus.length, List.length_map, ← hyr]; exact hgl
    o_head !(0, 0)
    · refine hret _ _ _ (Fr.keep (h₀ := K5.s.heap) (by assumption)) ⟨_, _, rfl, news_made (by assumption) (fun _ h => h), ?_⟩
      rw [groupIns_near hp' (show K5.x.2.2.2.1[i']? = some (y :: r) from by rw [← hyr]; simp [hi2]) (by assumption)]
      refine DatIn.list (n := 0) (List.mem_append_left _ (by k_mem)) ?_
      rw [show ((i' : Int) + 1).toNat = i' + 1 from rfl]
      simp only [gdat, List.map_append, List.map_take, List.map_drop, List.map_cons, List.map_nil]
      refine DatAll.append (DatAll.append (DatAll.right (DatAll.take hvs i')) (DatAll.one ?_)) (DatAll.right (DatAll.drop hvs (i' + 1)))
      refine DatIn.list (n := 0) (List.mem_append_left _ (by k_mem)) ?_
      exact DatAll.append (DatAll.right hus) (DatAll.one (.str _ _))
    · refine kd_end () [] hs' (by assumption) (by assumption) (fun p hp => List.mem_append_left _ (by simpa using hp)) (fun p hp => List.mem_append_right _ hp) rfl (fun _ h => nomatch h) (fun _ h => nomatch h) (fun _ h => nomatch h) ?_ trivial ?_
      · intro z hz _ _
        simp [hz]
      · intro j hj y' r' e
        by_cases hji : j < i'
        · exact hp' j hji y' r' e
        · have : j = i' := Nat.eq_of_lt_succ_of_not_lt hj (by assumption)
          subst this
          rw [List.getElem?_eq_getElem hi2, hyr] at e
          cases e
          assumption
  case done =>
    intro c' tl' u' h' tk' ho' hf' hp' F' N'
    dsimp only [List.nil_append, List.append_nil, kstB] at F' N'
    dsimp only
    o_head !(0, 0)
    refine hret _ _ _ (Fr.keep (h₀ := K5.s.heap) (by assumption)) ⟨_, _, rfl, news_made (by assumption) (fun _ h => h), ?_⟩
    rw [groupIns_far (fun j hj => hp' j (by omega))]
    refine DatIn.list (n := 0) (List.mem_append_left _ (by k_mem)) ?_
    simp only [gdat, List.map_append, List.map_cons, List.map_nil]
    refine DatAll.append (DatAll.right hvs) (DatAll.one ?_)
    exact DatIn.list (n := 0) (vs := [.str K5.x.2.2.2.2.2.1 K5.x.2.2.2.2.2.2]) (List.mem_append_left _ (by k_mem)) (DatAll.one (.str _ _))
include LEV in
theorem grouped_spec (g : Addr) (gs : List (List Str)) (ns : List (Addr × Obj)) (nm : Str) (tn : Tok) :
    PClaim w p loose mean mg mb 5 77 [.ref g, .str nm tn] (fun h => Held h ns ∧ DatIn ns (.ref g) (.list (gdat gs)) ∧ gs.length < 100 ∧ (∀ x ∈ gs, x.length < 100 ∧ ∃ y r, x = y :: r ∧ Nm y) ∧ Nm nm) (fun h v h' => ∃ a objs, v = .ref a ∧ Made h h' objs ∧ DatIn (objs ++ ns) (.ref a) (.list (gdat (groupIns levF gs nm)))) :=
  PB.claim (by unfold K5; rfl) grouped_spec_at (Nm, levF, g, gs, ns, nm, tn) w p loose mean mg mb fun _ _ _ _ _ _ _ _ _ _ _ _ _ _ _ _ _ => LEV
end
end
end
section
noncomputable abbrev DClaim (w : World) (p : Program) (loose : List Str) (mean : ExcName → Option Value) (mg mb : Str → Option Value) (lv : Nat) (f : Addr) (vs : List Value) (Pre : List (Addr × Obj) → Prop) (Post : List (Addr × Obj) → Value → List (Addr × Obj) → Prop) : Prop :=
  ∀ (dp un : Nat) (gd : Option (List Code)) (env : Env) (h₀ : Heap) (L : Addr) (m : Str → Option Value) (news : List (Addr × Obj)) (s : Shared) (Q E : Value → Shared → Prop),
    Fr h₀ L s.heap m → (hd.heap_1 w.params).In h₀ → Top p loose mean mg mb h₀ → News h₀ L s.heap news → env.frame = some L → env.scope.kind = .function → Pre news → dp + lv < recursionLimit → un + 20 * lv < cLine →
    (∀ (v : Value) (h' : Heap) (tk' : Nat) (news' : List (Addr × Obj)), Fr h₀ L h' m → News h₀ L h' news' → Post news v news' → Q v { s with heap := h', toks := tk' }) →
    wpAny (model PySem.Challenge.rw_oy0158_01.row.toRowW.prog w) { handled := none, depth := dp, frames := some [env], guards := gd, units := un } (call (.ref f) vs) Q E s
structure Dx (σ : Type) where
  x : σ
  w : World
  p : Program
  loose : List Str
  mean : ExcName → Option Value
  mg : Str → Option Value
  mb : Str → Option Value
  dp : Nat
  un : Nat
  gd : Option (List Code)
  env : Env
  h₀ : Heap
  L : Addr
  m : Str → Option Value
  news : List (Addr × Obj)
  s : Shared
  Q : Value → Shared → Prop
  E : Value → Shared → Prop
noncomputable def DB {σ : Type} (lv : Nat) (f : Addr) (vs : σ → List Value) (Pre : σ → List (Addr × Obj) → Prop) (Post : σ → List (Addr × Obj) → Value → List (Addr × Obj) → Prop) (c : Dx σ) : Prop :=
  Fr c.h₀ c.L c.s.heap c.m → (hd.heap_1 c.w.params).In c.h₀ → Top c.p c.loose c.mean c.mg c.mb c.h₀ → News c.h₀ c.L c.s.heap c.news → c.env.frame = some c.L → c.env.scope.kind = .function → Pre c.x c.news → c.dp + lv < recursionLimit → c.un + 20 * lv < cLine →
    (∀ (v : Value) (h' : Heap) (tk' : Nat) (news' : List (Addr × Obj)), Fr c.h₀ c.L h' c.m → News c.h₀ c.L h' news' → Post c.x c.news v news' → c.Q v ⟨h', c.s.gens, c.s.drawn, tk', c.s.os⟩) →
    wpAny (model PySem.Challenge.rw_oy0158_01.row.toRowW.prog c.w) { handled := none, depth := c.dp, frames := some [c.env], guards := c.gd, units := c.un } (call (.ref f) (vs c.x)) c.Q c.E c.s
noncomputable def Dx.any {σ : Type} (x : σ) : Dx σ := ⟨x, w0, default, [], fun _ => none, fun _ => none, fun _ => none, 0, 0, none, default, default, 0, fun _ => none, [], {}, fun _ _ => True, fun _ _ => True⟩
noncomputable def Dx.bad {σ : Type} (x : σ) (P : Dx σ → Prop) : Dx σ := @Classical.epsilon _ ⟨Dx.any x⟩ fun c => ¬ P c
theorem DB.claim {σ : Type} {x0 : σ} {lv : Nat} {f : Addr} {vs : σ → List Value} {Pre : σ → List (Addr × Obj) → Prop} {Post : σ → List (Addr × Obj) → Value → List (Addr × Obj) → Prop} {K : Dx σ} (e : K = Dx.bad x0 (DB lv f vs Pre Post)) (h : DB lv f vs Pre Post K)
    (x : σ) (w : World) (p : Program) (loose : List Str) (mean : ExcName → Option Value) (mg mb : Str → Option Value) :
    DClaim w p loose mean mg mb lv f (vs x) (Pre x) (Post x) := fun dp un gd env h₀ L m news s Q E => by
  have c : DB lv f vs Pre Post ⟨x, w, p, loose, mean, mg, mb, dp, un, gd, env, h₀, L, m, news, s, Q, E⟩ := by
    cases Classical.em (DB lv f vs Pre Post ⟨x, w, p, loose, mean, mg, mb, dp, un, gd, env, h₀, L, m, news, s, Q, E⟩) with
    | inl y => exact y
    | inr n => rw [e] at h; exact absurd h (@Classical.epsilon_spec_aux _ ⟨Dx.any x0⟩ (fun c => ¬ DB lv f vs Pre Post c) ⟨_, n⟩)
  exact c
structure SS where
  i : Nat
  j : Nat
  ti : Tok
  tj : Tok
  vm : List Value
  vu : List Value
  nm : Nat
  nu : Nat
  M : List Str
  U : List Str
noncomputable abbrev SS.ps (ex ac am au : Addr) (c : SS) : List (Str × Value) := [(Str.ofString "i", .int (c.i : Int) c.ti), (Str.ofString "j", .int (c.j : Int) c.tj), (Str.ofString "expected", .ref ex), (Str.ofString "actual", .ref ac), (Str.ofString "missing", .ref am), (Str.ofString "unexpected", .ref au)]
noncomputable abbrev SS.led (am au : Addr) (rest : List (Addr × Obj)) (c : SS) : List (Addr × Obj) := (au, listOf c.vu.toArray c.nu) :: (am, listOf c.vm.toArray c.nm) :: rest
structure SS.ok (xs ys : List Str) (c : SS) : Prop where
  li : c.i ≤ xs.length
  lj : c.j ≤ ys.length
  go : sld (xs.drop c.i) (ys.drop c.j) c.M c.U = sld xs ys [] []
  am : StrsAre c.vm c.M
  au : StrsAre c.vu c.U
  lm : c.M.length ≤ c.i
  lu : c.U.length ≤ c.j
noncomputable def SldX (xs ys : List Str) (ex ac am au : Addr) (h₀ : Heap) (L' L : Addr) (oL : Obj) (news : List (Addr × Obj)) (s : Shared) (e : Value) (s₁ : Shared) : Prop :=
  ∃ (c : SS) (u : Str → Option Value) (h : Heap) (tk : Nat) (ea : Addr), e = .ref ea ∧ s₁ = { s with heap := h, toks := tk } ∧ c.ok xs ys ∧ (c.i = xs.length ∨ c.j = ys.length) ∧
    ((∃ hp sl, NewX hp h ea "IndexError" ∧ Fr h₀ L' hp (kstB u (c.ps ex ac am au)) ∧ News h₀ L' hp (c.led am au (news ++ [(L, { oL with slots := sl })]))) ∨
     (∃ T ob ot cx sl, Fr h₀ L' h (kstB u (c.ps ex ac am au)) ∧ News h₀ L' h ((ea, ob) :: (T, ot) :: c.led am au (news ++ [(L, { oL with slots := sl })])) ∧ XO ea T ob ot "IndexError" cx (rawInt L') ∧ (∀ p ∈ c.led am au (news ++ [(L, { oL with slots := sl })]), p.1 ≠ ea ∧ p.1 ≠ T)))
noncomputable def SldE (xs ys : List Str) (am au : Addr) (h₀ : Heap) (L' L : Addr) (oL : Obj) (news : List (Addr × Obj)) (s : Shared) (s₁ : Shared) : Prop :=
  ∃ (u : Str → Option Value) (h : Heap) (tk : Nat) (vm vu : List Value) (nm nu : Nat) (sl : Array (Option Value)), s₁ = { s with heap := h, toks := tk } ∧ StrsAre vm (sld xs ys [] []).1 ∧ StrsAre vu (sld xs ys [] []).2 ∧
    Fr h₀ L' h (kstB u [(Str.ofString "missing", .ref am), (Str.ofString "unexpected", .ref au)]) ∧ News h₀ L' h ((au, listOf vu.toArray nu) :: (am, listOf vm.toArray nm) :: (news ++ [(L, { oL with slots := sl })]))
section
variable {xs ys : List Str} {ex ac am au : Addr} {h₀ : Heap} {L' L : Addr} {oL : Obj} {news : List (Addr × Obj)} {s : Shared}
theorem SldX.a {h : Heap} {tk : Nat} {ea : Addr} {hp : Heap} {m : Str → Option Value} (c : SS) (hok : c.ok xs ys) (hf : c.i = xs.length ∨ c.j = ys.length) (sl : Array (Option Value)) (nx : NewX hp h ea "IndexError") (F : Fr h₀ L' hp m) (hm : ∀ q ∈ c.ps ex ac am au, m q.1 = some q.2) (N : News h₀ L' hp (c.led am au (news ++ [(L, { oL with slots := sl })]))) :
    SldX xs ys ex ac am au h₀ L' L oL news s (.ref ea) { s with heap := h, toks := tk } := ⟨c, _, h, tk, ea, rfl, rfl, hok, hf, .inl ⟨hp, sl, nx, fr_kst _ F hm, N⟩⟩
theorem SldX.b {h : Heap} {tk : Nat} {ea : Addr} {m : Str → Option Value} {T : Addr} {ob ot : Obj} {cx : Value} (c : SS) (hok : c.ok xs ys) (hf : c.i = xs.length ∨ c.j = ys.length) (sl : Array (Option Value)) (F : Fr h₀ L' h m) (hm : ∀ q ∈ c.ps ex ac am au, m q.1 = some q.2) (N : News h₀ L' h ((ea, ob) :: (T, ot) :: c.led am au (news ++ [(L, { oL with slots := sl })]))) (x : XO ea T ob ot "IndexError" cx (rawInt L')) (sep : ∀ p ∈ c.led am au (news ++ [(L, { oL with slots := sl })]), p.1 ≠ ea ∧ p.1 ≠ T) :
    SldX xs ys ex ac am au h₀ L' L oL news s (.ref ea) { s with heap := h, toks := tk } := ⟨c, _, h, tk, ea, rfl, rfl, hok, hf, .inr ⟨T, ob, ot, cx, sl, fr_kst _ F hm, N, x, sep⟩⟩
theorem SldX.elim {P : Value → Shared → Prop}
    (ha : ∀ (c : SS) (u : Str → Option Value) h tk (ea : Addr) hp sl, c.ok xs ys → (c.i = xs.length ∨ c.j = ys.length) → NewX hp h ea "IndexError" → Fr h₀ L' hp (kstB u (c.ps ex ac am au)) → News h₀ L' hp (c.led am au (news ++ [(L, { oL with slots := sl })])) → P (.ref ea) { s with heap := h, toks := tk })
    (hb : ∀ (c : SS) (u : Str → Option Value) h tk (ea T : Addr) ob ot cx sl, c.ok xs ys → (c.i = xs.length ∨ c.j = ys.length) → Fr h₀ L' h (kstB u (c.ps ex ac am au)) → News h₀ L' h ((ea, ob) :: (T, ot) :: c.led am au (news ++ [(L, { oL with slots := sl })])) → XO ea T ob ot "IndexError" cx (rawInt L') → (∀ p ∈ c.led am au (news ++ [(L, { oL with slots := sl })]), p.1 ≠ ea ∧ p.1 ≠ T) → P (.ref ea) { s with heap := h, toks := tk }) :
    ∀ e s₁, SldX xs ys ex ac am au h₀ L' L oL news s e s₁ → P e s₁ := by
  rintro e s₁ ⟨c, u, h, tk, ea, rfl, rfl, hok, hf, ⟨hp, sl, hx, F, N⟩ | ⟨T, ob, ot, cx, sl, F, N, x, sep⟩⟩
  · exact ha c u h tk ea hp sl hok hf hx F N
  · exact hb c u h tk ea T ob ot cx sl hok hf F N x sep
end
theorem SldX.noted {prog : Program} {w : World} {A₀ : Around} {env : Env} {name : Str} {scope : Scope} {a : Addr} {cd : Value} {E : Value → Shared → Prop} {Q : Flow → Shared → Prop} {t : Value → Sem Flow} {xs ys : List Str} {ex ac am au : Addr} {h₀ : Heap} {L' L : Addr} {oL : Obj} {news : List (Addr × Obj)} {s : Shared}
    (hfr : A₀.frames = some [env]) (hf : env.frame = some L) (hkd : env.scope.kind ≠ .module) (hoL : ∃ es ep, oL.data = .dict es ep) (hneL : ∀ p ∈ news, p.1 ≠ L) (hLm : L < am) (hmu : am < au)
    (k : ∀ (c : SS) (u : Str → Option Value) h2 tk (ea T : Addr) ob ot cx sl, c.ok xs ys → (c.i = xs.length ∨ c.j = ys.length) → Fr h₀ L' h2 (kstB u (c.ps ex ac am au)) → News h₀ L' h2 ((ea, ob) :: (T, ot) :: c.led am au (news ++ [(L, { oL with slots := sl })])) → XO ea T ob ot "IndexError" cx .none → (∀ p ∈ c.led am au (news ++ [(L, { oL with slots := sl })]), p.1 ≠ ea ∧ p.1 ≠ T) →
      wpAny (model prog w) (A₀.deeper (envOf name scope L' a cd)) (t (.ref ea)) Q E { s with heap := h2, toks := tk }) (hk : scope.kind = .function := by rfl) :
    ∀ e s₁, SldX xs ys ex ac am au h₀ L' L oL news s e s₁ → wpAny (model prog w) (A₀.deeper (envOf name scope L' a cd)) (noteFrame e (envOf name scope L' a cd)) (fun _ s₂ => wpAny (model prog w) (A₀.deeper (envOf name scope L' a cd)) (setFlight e none) (fun _ s₃ => wpAny (model prog w) (A₀.deeper (envOf name scope L' a cd)) (t e) Q E s₃) E s₂) E s₁ := by
  refine SldX.elim (fun c u h tk ea hp sl0 hok hfin hx FX NX => ?_) (fun c u h tk ea T' ob ot cx sl hok hfin FX NX x sep => ?_)
  · have hneX : ∀ p ∈ (au, listOf c.vu.toArray c.nu) :: (am, listOf c.vm.toArray c.nm) :: news, p.1 ≠ L := by
      intro p hp
      rcases List.mem_cons.mp hp with rfl | hp
      · exact Nat.ne_of_gt (Nat.lt_trans hLm hmu)
      rcases List.mem_cons.mp hp with rfl | hp
      · exact Nat.ne_of_gt hLm
      exact hneL p hp
    refine noted_x (new := (au, listOf c.vu.toArray c.nu) :: (am, listOf c.vm.toArray c.nm) :: news) hfr hf hkd hx FX NX hoL hneX (fun h' sl T' ob ot cx hcx F' N' x sep => ?_) hk
    exact set_x none F' N' x sep fun h2 ot2 F2 N2 x2 => k c u h2 tk ea T' ob ot2 cx sl hok hfin F2 N2 x2 sep
  · exact again_x NX x (set_x none FX NX x sep fun h2 ot2 F2 N2 x2 => k c u h2 tk ea T' ob ot2 cx sl hok hfin F2 N2 x2 sep)
theorem all6 {α : Type} {p : α → Prop} {a1 a2 a3 a4 a5 a6 : α} (h1 : p a1) (h2 : p a2) (h3 : p a3) (h4 : p a4) (h5 : p a5) (h6 : p a6) : ∀ q ∈ [a1, a2, a3, a4, a5, a6], p q := List.forall_mem_cons.mpr ⟨h1, List.forall_mem_cons.mpr ⟨h2, List.forall_mem_cons.mpr ⟨h3, List.forall_mem_cons.mpr ⟨h4, List.forall_mem_cons.mpr ⟨h5, List.forall_mem_cons.mpr ⟨h6, List.forall_mem_nil _⟩⟩⟩⟩⟩⟩
theorem all8 {α : Type} {p : α → Prop} {a1 a2 a3 a4 a5 a6 a7 a8 : α} (h1 : p a1) (h2 : p a2) (h3 : p a3) (h4 : p a4) (h5 : p a5) (h6 : p a6) (h7 : p a7) (h8 : p a8) : ∀ q ∈ [a1, a2, a3, a4, a5, a6, a7, a8], p q := List.forall_mem_cons.mpr ⟨h1, List.forall_mem_cons.mpr ⟨h2, List.forall_mem_cons.mpr ⟨h3, List.forall_mem_cons.mpr ⟨h4, List.forall_mem_cons.mpr ⟨h5, List.forall_mem_cons.mpr ⟨h6, List.forall_mem_cons.mpr ⟨h7, List.forall_mem_cons.mpr ⟨h8, List.forall_mem_nil _⟩⟩⟩⟩⟩⟩⟩⟩
theorem skip_loop {prog : Program} {w : World} {A : Around} {E : Value → Shared → Prop} {s : Shared} {Q : Flow → Shared → Prop} {h₀ : Heap} {L a : Addr} {cn : Str} {cs : Scope} {ccd : Value} {ix nl nx : Str} {p1 p2 p3 p4 p5 p6 p7 p8 p9 : Pos} {kk : Nat} {xs : List Str} {vs : List Value} {x : Str} {tx : Tok} {l : Addr} {n i0 : Nat} {t0 : Tok} {m₀ : Str → Option Value} (Led : List (Addr × Obj))
    (F : Fr h₀ L s.heap m₀) (N : News h₀ L s.heap Led) (h0 : m₀ ix = some (.int (i0 : Int) t0)) (hi : i0 ≤ xs.length) (hl : (l, listOf vs.toArray n) ∈ Led) (hS : StrsAre vs xs) (hn : xs.length < 60)
    (hnl : m₀ nl = some (.ref l)) (hnx : m₀ nx = some (.str x tx)) (hcan : ∀ h, News h₀ L h Led → CanRaise A.handled h)
    (out : ∀ (k : Nat) (t : Tok) h h8 tk8 e8, i0 ≤ k → k ≤ xs.length → xs.length ≤ k → xs.drop k = (xs.drop i0).dropWhile (· == x) → NewX0 A.handled h h8 e8 "IndexError" → Fr h₀ L h (fun z => if z = ix then some (.int (k : Int) t) else m₀ z) → News h₀ L h Led → E (.ref e8) { s with heap := h8, toks := tk8 })
    (exit : ∀ (k : Nat) (t : Tok) h tk, i0 ≤ k → k ≤ xs.length → xs.drop k = (xs.drop i0).dropWhile (· == x) → Fr h₀ L h (fun z => if z = ix then some (.int (k : Int) t) else m₀ z) → News h₀ L h Led → Q .next { s with heap := h, toks := tk })
    (hE : PassesOwn (model prog w) A (envOf cn cs L a ccd) E) (hne1 : nl ≠ ix := by decide) (hne2 : nx ≠ ix := by decide) (hk : cs.kind = .function := by rfl)
    (k1 : (envOf cn cs L a ccd).kindOf ix = some .local := by rfl) (k2 : (envOf cn cs L a ccd).kindOf nl = some .local := by rfl) (k3 : (envOf cn cs L a ccd).kindOf nx = some .local := by rfl)
    (d1 : (ix == Str.ofString "__debug__") = false := by rfl) (d2 : (nl == Str.ofString "__debug__") = false := by rfl) (d3 : (nx == Str.ofString "__debug__") = false := by rfl) :
    wpAny (model prog w) A (exec (.While (.Compare (.Subscript (.Name nl p1) (.Name ix p2) p3) [.Eq] [.Name nx p4] p5) [.AugAssign (.Name ix p6) .Add (.Constant (.int 1) kk p7) p8] [] p9) (envOf cn cs L a ccd)) Q E s := by
  refine skip_rule Led F N h0 hi ?_ exit hE
  intro k t h tk hk1 hk2 hk3 F7 N7
  refine wpAny_isTrue_Compare1 ?_
  refine Subscript_ ?_
  refine nameX_L (cl := []) F7 (show (if nl = ix then _ else m₀ nl) = _ from (if_neg hne1).trans hnl) ?_ hk k2 d2
  refine nameX_L (cl := []) F7 (if_pos rfl) ?_ hk k1 d1
  refine item_or_x (j := k) (hcan _ N7) (News.isList N7 hl) hS rfl (by omega) (fun ho h8 tk8 e8 nx => out k t h h8 tk8 e8 hk1 hk2 ho (hk3 ho) nx F7 N7) (fun z tz hz => ?_)
  refine nameX_L (cl := []) F7 (show (if nx = ix then _ else m₀ nx) = _ from (if_neg hne2).trans hnx) ?_ hk k3 d3
  refine eq_str (wpAny_truthy_bool (split_bool (fun hzx => ?_) fun hzx => ?_))
  · refine wpAny_execs_cons (wpAny_AugAssign_Name (ldn F7 (if_pos rfl) ?_ hk k1))
    refine wpAny_Constant_int (iadd_int (storeX_L (cl := []) F7 N7 (fun h8 F8 N8 => ?_) hk k1))
    refine wpAny_execs_nil ?_
    obtain rfl := eq_of_beq hzx
    refine ⟨rfl, hz, _, h8, _, _, rfl, F8, N8, if_pos rfl, fun z hz => ?_⟩
    simp only [hz, if_false]
  · exact ⟨⟨_, hz, by intro e; simp [e] at hzx⟩, h, _, rfl, F7, N7⟩
section
variable (w : World) (p : Program) (loose : List Str) (mean : ExcName → Option Value) (mg mb : Str → Option Value)
local macro_rules | `(tactic| walk_at "my_list") => `(tactic| exact News.isList (by assumption) (by first
  | exact List.mem_append_left _ (by with_reducible assumption)
  | exact .tail _ (List.mem_append_left _ (by with_reducible assumption))
  | exact .tail _ (.tail _ (List.mem_append_left _ (by with_reducible assumption)))
  | exact .tail _ (.tail _ (.tail _ (List.mem_append_left _ (by with_reducible assumption))))
  | exact .tail _ (.tail _ (.tail _ (.tail _ (List.mem_append_left _ (by with_reducible assumption)))))
  | exact .tail _ (.tail _ (.tail _ (.tail _ (.tail _ (List.mem_append_left _ (by with_reducible assumption))))))
  | exact .tail _ (.tail _ (.tail _ (.tail _ (.tail _ (.tail _ (List.mem_append_left _ (by with_reducible assumption)))))))))
local macro_rules | `(tactic| walk_at "subscriptTail") => `(tactic| ((with_reducible show wpAny _ _ (subscriptTail _ _ (Value.ref _) (Value.int _ _)) _ _ _); (refine item_or_x (by first | exact can_none rfl | exact can_x (by assumption) (by assumption)) (by walk_at "my_list") (by with_reducible assumption) (by rfl) (by omega) ?_ ?_)))
noncomputable def SD1 : Dx (Addr × Addr × List Value × List Value × Nat × Nat × List Str × List Str) → Prop := DB 2 51 (fun q => [.ref q.1, .ref q.2.1]) (fun q => (fun news => (q.1, listOf q.2.2.1.toArray q.2.2.2.2.1) ∈ news ∧ (q.2.1, listOf q.2.2.2.1.toArray q.2.2.2.2.2.1) ∈ news ∧ StrsAre q.2.2.1 q.2.2.2.2.2.2.1 ∧ StrsAre q.2.2.2.1 q.2.2.2.2.2.2.2 ∧ q.2.2.2.2.2.2.1.length < 60 ∧ q.2.2.2.2.2.2.2.length < 60)) (fun q => (fun news v news' => ∃ objs, news' = objs ++ news ∧ DatIn objs v (.tuple [.list ((sld q.2.2.2.2.2.2.1 q.2.2.2.2.2.2.2 [] []).1.map .str), .list ((sld q.2.2.2.2.2.2.1 q.2.2.2.2.2.2.2 [] []).2.map .str)])))
@[irreducible] noncomputable def KD1 : Dx (Addr × Addr × List Value × List Value × Nat × Nat × List Str × List Str) := Dx.bad (0, 0, [], [], 0, 0, [], []) SD1
set_option maxRecDepth 100000 in
set_option maxHeartbeats 8000000 in
theorem sld_spec_at : SD1 KD1 := by
  dsimp only [SD1, DB]
  k_fill
  intro F X T N hf hk hpre hdp hun hret
  obtain ⟨he, ha, hS, hT, hn1, hn2⟩ := hpre
  have hle := hS.len_eq
  have hla := hT.len_eq
  have hmod : KD1.env.scope.kind ≠ .module := by rw [hk]; decide
  have hab := F.above
  w_top off
  walk_at "pd_enter"
  o_head !(0, 0)
  rename_i oL h1 oD oC oN tk0 h2 h3 tkZ am h4 l1 h5 tk1 au h6 l2 h7 F7 N7
  have hLm : KD1.L < am := l1 (KD1.L, oL) (List.mem_append_right _ (.head _))
  have hmu : am < au := l2.1
  have hmn : ∀ p ∈ KD1.news, p.1 < am := fun p hp => l1 p (List.mem_append_left _ hp)
  obtain ⟨m0, hm0, F7⟩ : ∃ m0 : Str → Option Value, (∀ q ∈ SS.ps KD1.x.1 KD1.x.2.1 am au ⟨0, 0, tk0, tk0, [], [], 0, 0, [], []⟩, m0 q.1 = some q.2) ∧ Fr KD1.h₀ KD1.s.heap.objs.size h7 m0 := by
    refine ⟨_, ?_, F7⟩
    refine all6 ?_ ?_ ?_ ?_ ?_ ?_ <;> rfl
  refine wp_cut (SldE KD1.x.2.2.2.2.2.2.1 KD1.x.2.2.2.2.2.2.2 am au KD1.h₀ KD1.s.heap.objs.size KD1.L oL KD1.news KD1.s) ?_ ?_
  · refine ksw_while (σ := SS) (fun c => c.led am au (KD1.news ++ [(KD1.L, oL)])) (fun c => c.ps KD1.x.1 KD1.x.2.1 am au) (fun _ => True) [Str.ofString "e", Str.ofString "a"] (fun c => c.ok KD1.x.2.2.2.2.2.2.1 KD1.x.2.2.2.2.2.2.2) (fun c => (KD1.x.2.2.2.2.2.2.1.length - c.i) + (KD1.x.2.2.2.2.2.2.2.length - c.j)) ⟨0, 0, tk0, tk0, [], [], 0, 0, [], []⟩ F7 N7 trivial hm0 ?_ ?_
    · exact ⟨Nat.zero_le _, Nat.zero_le _, by simp, .nil, .nil, Nat.zero_le _, Nat.zero_le _⟩
    · rintro c u h tk - hok F8 N8
      clear F7 N7
      dsimp only [SS.ps, SS.led] at F8 N8
      o_head !(0, 0)
      refine try_x (SldX KD1.x.2.2.2.2.2.2.1 KD1.x.2.2.2.2.2.2.2 KD1.x.1 KD1.x.2.1 am au KD1.h₀ KD1.s.heap.objs.size KD1.L oL KD1.news KD1.s) ?_ ?_
      · --[exc
        clear F8 N8 hok
        refine SldX.noted rfl hf hmod oD oN hLm hmu (fun c u h2 tk ea T' ob ot2 cx sl hok hfin F2 N2 x2 sep => ?_)
        (try dsimp only at N2 F2 x2 sep ⊢)
        all_goals (
          k_dflt (refine' clause_x F2 N2 x2 sep X T ?exc0 PyProof.Rows.Boot.«IndexError» ?hn PySem.F.isExc_IndexError PySem.F.notTuple_IndexError ?hs ?_ ?hE)
          case exc0 => k_dflt k_is
          case hn => decide
          case hs => rw [isSubtype_type]; kernel_rfl!
          case hE => passes_own
          intro h3 ot3 F3 N3 x3
          clear F2 N2 x2
          dsimp only [SS.ps, SS.led, kstB] at F3 N3 ⊢
          (try simp only [List.cons_append] at N3)
          have hvm := hok.am.len_eq
          have hvu := hok.au.len_eq
          have hli := hok.li
          have hlj := hok.lj
          have hlm := hok.lm
          have hlu := hok.lu
          o_head !(0, 0)
          rename_i e1 h4 F4 l4 N4
          refine extend_any (D := am) F4 N4 (.tail _ (.tail _ (.tail _ (.tail _ (.head _))))) (.head _) (by simp only [List.size_toArray, List.length_drop]; omega) (fun h5 n5 F5 K5 G5 => ?_)
          have N5 : News KD1.h₀ KD1.s.heap.objs.size h5 ((am, listOf (c.vm.toArray ++ (KD1.x.2.2.1.drop c.i).toArray) n5) :: (au, listOf c.vu.toArray c.nu) :: (KD1.news ++ [(KD1.L, { oL with slots := sl })])) := by
            refine News.swap N4 (.tail _ (.tail _ (.tail _ (.tail _ (.head _))))) K5 G5 (fun p hp => ?_)
            rcases List.mem_cons.mp hp with rfl | hp
            · exact .inl rfl
            rcases List.mem_cons.mp hp with rfl | hp
            · exact .inr ⟨.tail _ (.tail _ (.tail _ (.head _))), Nat.ne_of_gt hmu⟩
            · refine .inr ⟨.tail _ (.tail _ (.tail _ (.tail _ (.tail _ hp)))), ?_⟩
              rcases List.mem_append.mp hp with hp | hp
              · exact Nat.ne_of_lt (hmn p hp)
              · rw [List.mem_singleton.mp hp]; exact Nat.ne_of_lt hLm
          clear F4 N4 K5 G5 F3 N3 x3 l4 sep
          (try dsimp only)
          o_head !(0, 0)
          rename_i e1 h4 F4 l4 N4
          refine extend_any (D := au) F4 N4 (.tail _ (.tail _ (.head _))) (.head _) (by simp only [List.size_toArray, List.length_drop]; omega) (fun h6 n6 F6 K6 G6 => ?_)
          have N6 : News KD1.h₀ KD1.s.heap.objs.size h6 ((au, listOf (c.vu.toArray ++ (KD1.x.2.2.2.1.drop c.j).toArray) n6) :: (am, listOf (c.vm.toArray ++ (KD1.x.2.2.1.drop c.i).toArray) n5) :: (KD1.news ++ [(KD1.L, { oL with slots := sl })])) := by
            refine News.swap N4 (.tail _ (.tail _ (.head _))) K6 G6 (fun p hp => ?_)
            rcases List.mem_cons.mp hp with rfl | hp
            · exact .inl rfl
            rcases List.mem_cons.mp hp with rfl | hp
            · exact .inr ⟨.tail _ (.head _), Nat.ne_of_lt hmu⟩
            · refine .inr ⟨.tail _ (.tail _ (.tail _ hp)), ?_⟩
              rcases List.mem_append.mp hp with hp | hp
              · exact Nat.ne_of_lt (Nat.lt_trans (hmn p hp) hmu)
              · rw [List.mem_singleton.mp hp]; exact Nat.ne_of_lt (Nat.lt_trans hLm hmu)
          clear F4 N4 K6 G6 F5 N5 l4
          (try dsimp only)
          o_head !(0, 0)
          (try dsimp only [KswPost])
          have hgo := hok.go
          rw [sld_end (hfin.elim (fun e => .inl (by rw [e]; exact List.drop_length)) fun e => .inr (by rw [e]; exact List.drop_length))] at hgo
          simp only [List.append_toArray] at N6
          refine ⟨_, _, _, _, _, _, _, sl, rfl, ?_, ?_, fr_kst _ F6 ?_, N6⟩
          · rw [← hgo]; exact hok.am.append' (hS.drop' _)
          · rw [← hgo]; exact hok.au.append' (hT.drop' _)
          · intro q hq
            simp only [List.mem_cons, List.not_mem_nil, or_false] at hq
            rcases hq with rfl | rfl <;> rfl)
      · intro E' hE' pE'
        dsimp only [kstB] at F8
        have hi1 := hok.li
        have hj1 := hok.lj
        o_head !(0, 0)
        · --[exi
          rename_i ho h3 tk3 e3 nx
          (try dsimp only)
          exact hE' _ _ (SldX.a c hok (.inl (Nat.le_antisymm hi1 ho)) oL.slots nx.toNewX F8 (by refine all6 ?_ ?_ ?_ ?_ ?_ ?_ <;> rfl) N8)
        · --[exj
          rename_i x tx hx hh F9 N9 ho h3 tk3 e3 nx
          (try dsimp only)
          exact hE' _ _ (SldX.a c hok (.inr (Nat.le_antisymm hj1 ho)) oL.slots nx.toNewX F9 (by refine all6 ?_ ?_ ?_ ?_ ?_ ?_ <;> rfl) N9)
        · --[lt
          rename_i x tx hx h3 _ y ty hy h4 F9 N9 _ _ hxy
          have hvm := hok.am.len_eq
          have hlm := hok.lm
          have hxi := (List.getElem?_eq_some_iff.mp hx).1
          refine append_any F9 N9 (.tail _ (.head _)) (by simp only [List.size_toArray]; rw [sizeLine_eq]; omega) ((au, listOf c.vu.toArray c.nu) :: (am, listOf (c.vm ++ [Value.str x tx]).toArray (c.nm + 1)) :: (KD1.news ++ [(KD1.L, oL)])) ?_ ?_
          · intro p hp
            rcases List.mem_cons.mp hp with rfl | hp
            · exact .inr ⟨.head _, Nat.ne_of_gt hmu⟩
            rcases List.mem_cons.mp hp with rfl | hp
            · left; simp
            · exact .inr ⟨.tail _ (.tail _ hp), Nat.ne_of_lt (l1 p hp)⟩
          intro h5 F5 N5
          clear F9 N9
          (try dsimp only)
          o_head !(0, 0)
          rename_i h6 F6 N6
          have hok' : ∀ (k : Nat) (t : Tok), c.i + 1 ≤ k → k ≤ KD1.x.2.2.2.2.2.2.1.length → KD1.x.2.2.2.2.2.2.1.drop k = (KD1.x.2.2.2.2.2.2.1.drop (c.i + 1)).dropWhile (· == x) → SS.ok KD1.x.2.2.2.2.2.2.1 KD1.x.2.2.2.2.2.2.2 { c with i := k, ti := t, vm := c.vm ++ [.str x tx], nm := c.nm + 1, M := c.M ++ [x] } := fun k t h1 h2 h3 =>
            ⟨h2, hok.lj, by rw [← hok.go, sld_lt hx hy (decide_eq_true hxy), ← h3], StrsAre.snoc hok.am, hok.au, by simp; omega, hok.lu⟩
          have hxi1 : ((c.i : Int) + 1) = ((c.i + 1 : Nat) : Int) := rfl
          rw [hxi1] at F6
          obtain ⟨u9, hu9, F10⟩ : ∃ u9 : Str → Option Value, (∀ z, z ∉ [Str.ofString "i", Str.ofString "j", Str.ofString "e", Str.ofString "a", Str.ofString "expected", Str.ofString "actual", Str.ofString "missing", Str.ofString "unexpected"] → u9 z = m0 z) ∧ Fr KD1.h₀ KD1.s.heap.objs.size h6 (kstB u9 ((Str.ofString "i", .int ((c.i + 1 : Nat) : Int) _) :: (Str.ofString "j", .int (c.j : Int) c.tj) :: [(Str.ofString "e", .str x tx), (Str.ofString "a", .str y ty), (Str.ofString "expected", .ref KD1.x.1), (Str.ofString "actual", .ref KD1.x.2.1), (Str.ofString "missing", .ref am), (Str.ofString "unexpected", .ref au)])) := by
            refine ⟨_, ?_, fr_kst _ F6 ?_⟩
            · intro z hz
              simp only [List.mem_cons, List.not_mem_nil, or_false, not_or] at hz
              obtain ⟨q1, q2, q3, q4, q5, q6, q7, q8⟩ := hz
              simp [q1, q2, q3, q4, q5, q6, q7, q8]
            · refine all8 ?_ ?_ ?_ ?_ ?_ ?_ ?_ ?_ <;> rfl
          clear F6
          refine skip_loop (ix := Str.ofString "i") (xs := KD1.x.2.2.2.2.2.2.1) (i0 := c.i + 1) ((au, listOf c.vu.toArray c.nu) :: (am, listOf (c.vm ++ [Value.str x tx]).toArray (c.nm + 1)) :: (KD1.news ++ [(KD1.L, oL)])) F10 N6 rfl (by omega) (.tail _ (.tail _ (List.mem_append_left _ he))) hS hn1 rfl rfl (fun _ _ => can_none rfl) (fun k t h7 h8 tk8 e8 hk1 hk2 ho hk3 nx F7 N7 => ?_) ?_ (pE' _ _ (SameStack.refl _))
          · rw [kst_turn] at F7
            exact hE' _ _ (SldX.a { c with i := k, ti := t, vm := c.vm ++ [.str x tx], nm := c.nm + 1, M := c.M ++ [x] } (hok' _ _ hk1 hk2 hk3) (.inl (Nat.le_antisymm hk2 ho)) oL.slots nx.toNewX F7 (by refine all6 ?_ ?_ ?_ ?_ ?_ ?_ <;> rfl) N7)
          · intro k t h7 tk7 hk1 hk2 hk3 F7 N7
            clear F10 N6
            rw [kst_turn] at F7
            dsimp only [kstB] at F7 ⊢
            o_head !(0, 0)
            refine ksw_end { c with i := k, ti := t, vm := c.vm ++ [.str x tx], nm := c.nm + 1, M := c.M ++ [x] } F7 N7 (fun _ h => h) trivial ?_ ?_ (hok' _ _ hk1 hk2 hk3) (meas1 hk1 hk2)
            · refine all6 ?_ ?_ ?_ ?_ ?_ ?_ <;> rfl
            · intro z hz hst
              have q1 : z ≠ Str.ofString "i" := hz _ (.head _)
              have q2 : z ≠ Str.ofString "j" := hz _ (.tail _ (.head _))
              have q3 : z ≠ Str.ofString "expected" := hz _ (.tail _ (.tail _ (.head _)))
              have q4 : z ≠ Str.ofString "actual" := hz _ (.tail _ (.tail _ (.tail _ (.head _))))
              have q5 : z ≠ Str.ofString "missing" := hz _ (.tail _ (.tail _ (.tail _ (.tail _ (.head _)))))
              have q6 : z ≠ Str.ofString "unexpected" := hz _ (.tail _ (.tail _ (.tail _ (.tail _ (.tail _ (.head _))))))
              have q7 : z ≠ Str.ofString "e" ∧ z ≠ Str.ofString "a" := by simpa using hst
              simp only [kstB, q1, q2, q3, q4, q5, q6, q7.1, q7.2, if_false]
              exact hu9 z (by simp [q1, q2, q3, q4, q5, q6, q7.1, q7.2])
        · --[gt
          rename_i x tx hx h3 _ y ty hy h4 F9 N9 _ _ nxy _ _ hyx
          have hvu := hok.au.len_eq
          have hlu := hok.lu
          have hyi := (List.getElem?_eq_some_iff.mp hy).1
          refine append_any F9 N9 (.head _) (by simp only [List.size_toArray]; rw [sizeLine_eq]; omega) ((au, listOf (c.vu ++ [Value.str y ty]).toArray (c.nu + 1)) :: (am, listOf c.vm.toArray c.nm) :: (KD1.news ++ [(KD1.L, oL)])) ?_ ?_
          · intro p hp
            rcases List.mem_cons.mp hp with rfl | hp
            · left; simp
            rcases List.mem_cons.mp hp with rfl | hp
            · exact .inr ⟨.tail _ (.head _), Nat.ne_of_lt hmu⟩
            · exact .inr ⟨.tail _ (.tail _ hp), Nat.ne_of_lt (Nat.lt_trans (l1 p hp) hmu)⟩
          intro h5 F5 N5
          clear F9 N9
          (try dsimp only)
          o_head !(0, 0)
          rename_i h6 F6 N6
          have hok' : ∀ (k : Nat) (t : Tok), c.j + 1 ≤ k → k ≤ KD1.x.2.2.2.2.2.2.2.length → KD1.x.2.2.2.2.2.2.2.drop k = (KD1.x.2.2.2.2.2.2.2.drop (c.j + 1)).dropWhile (· == y) → SS.ok KD1.x.2.2.2.2.2.2.1 KD1.x.2.2.2.2.2.2.2 { c with j := k, tj := t, vu := c.vu ++ [.str y ty], nu := c.nu + 1, U := c.U ++ [y] } := fun k t h1 h2 h3 =>
            ⟨hok.li, h2, by rw [← hok.go, sld_gt hx hy (decide_eq_false nxy) (decide_eq_true hyx), ← h3], hok.am, StrsAre.snoc hok.au, hok.lm, by simp; omega⟩
          have hxi1 : ((c.j : Int) + 1) = ((c.j + 1 : Nat) : Int) := rfl
          rw [hxi1] at F6
          obtain ⟨u9, hu9, F10⟩ : ∃ u9 : Str → Option Value, (∀ z, z ∉ [Str.ofString "i", Str.ofString "j", Str.ofString "e", Str.ofString "a", Str.ofString "expected", Str.ofString "actual", Str.ofString "missing", Str.ofString "unexpected"] → u9 z = m0 z) ∧ Fr KD1.h₀ KD1.s.heap.objs.size h6 (kstB u9 ((Str.ofString "j", .int ((c.j + 1 : Nat) : Int) _) :: (Str.ofString "i", .int (c.i : Int) c.ti) :: [(Str.ofString "e", .str x tx), (Str.ofString "a", .str y ty), (Str.ofString "expected", .ref KD1.x.1), (Str.ofString "actual", .ref KD1.x.2.1), (Str.ofString "missing", .ref am), (Str.ofString "unexpected", .ref au)])) := by
            refine ⟨_, ?_, fr_kst _ F6 ?_⟩
            · intro z hz
              simp only [List.mem_cons, List.not_mem_nil, or_false, not_or] at hz
              obtain ⟨q1, q2, q3, q4, q5, q6, q7, q8⟩ := hz
              simp [q1, q2, q3, q4, q5, q6, q7, q8]
            · refine all8 ?_ ?_ ?_ ?_ ?_ ?_ ?_ ?_ <;> rfl
          clear F6
          refine skip_loop (ix := Str.ofString "j") (xs := KD1.x.2.2.2.2.2.2.2) (i0 := c.j + 1) ((au, listOf (c.vu ++ [Value.str y ty]).toArray (c.nu + 1)) :: (am, listOf c.vm.toArray c.nm) :: (KD1.news ++ [(KD1.L, oL)])) F10 N6 rfl (by omega) (.tail _ (.tail _ (List.mem_append_left _ ha))) hT hn2 rfl rfl (fun _ _ => can_none rfl) (fun k t h7 h8 tk8 e8 hk1 hk2 ho hk3 nx F7 N7 => ?_) ?_ (pE' _ _ (SameStack.refl _))
          · rw [kst_turn] at F7
            exact hE' _ _ (SldX.a { c with j := k, tj := t, vu := c.vu ++ [.str y ty], nu := c.nu + 1, U := c.U ++ [y] } (hok' _ _ hk1 hk2 hk3) (.inr (Nat.le_antisymm hk2 ho)) oL.slots nx.toNewX F7 (by refine all6 ?_ ?_ ?_ ?_ ?_ ?_ <;> rfl) N7)
          · intro k t h7 tk7 hk1 hk2 hk3 F7 N7
            clear F10 N6
            rw [kst_turn] at F7
            dsimp only [kstB] at F7 ⊢
            o_head !(0, 0)
            refine ksw_end { c with j := k, tj := t, vu := c.vu ++ [.str y ty], nu := c.nu + 1, U := c.U ++ [y] } F7 N7 (fun _ h => h) trivial ?_ ?_ (hok' _ _ hk1 hk2 hk3) (meas2 hk1 hk2)
            · refine all6 ?_ ?_ ?_ ?_ ?_ ?_ <;> rfl
            · intro z hz hst
              have q1 : z ≠ Str.ofString "i" := hz _ (.head _)
              have q2 : z ≠ Str.ofString "j" := hz _ (.tail _ (.head _))
              have q3 : z ≠ Str.ofString "expected" := hz _ (.tail _ (.tail _ (.head _)))
              have q4 : z ≠ Str.ofString "actual" := hz _ (.tail _ (.tail _ (.tail _ (.head _))))
              have q5 : z ≠ Str.ofString "missing" := hz _ (.tail _ (.tail _ (.tail _ (.tail _ (.head _)))))
              have q6 : z ≠ Str.ofString "unexpected" := hz _ (.tail _ (.tail _ (.tail _ (.tail _ (.tail _ (.head _))))))
              have q7 : z ≠ Str.ofString "e" ∧ z ≠ Str.ofString "a" := by simpa using hst
              simp only [kstB, q1, q2, q3, q4, q5, q6, q7.1, q7.2, if_false]
              exact hu9 z (by simp [q1, q2, q3, q4, q5, q6, q7.1, q7.2])
        · --[eq
          rename_i x tx hx h3 _ y ty hy h4 _ _ _ nxy _ _ nyx h6 F6 N6
          have hxi := (List.getElem?_eq_some_iff.mp hx).1
          have hyi := (List.getElem?_eq_some_iff.mp hy).1
          have hok' : ∀ (k : Nat) (t : Tok) (k2 : Nat) (t2 : Tok), c.i + 1 ≤ k → k ≤ KD1.x.2.2.2.2.2.2.1.length → KD1.x.2.2.2.2.2.2.1.drop k = (KD1.x.2.2.2.2.2.2.1.drop (c.i + 1)).dropWhile (· == x) → c.j + 1 ≤ k2 → k2 ≤ KD1.x.2.2.2.2.2.2.2.length → KD1.x.2.2.2.2.2.2.2.drop k2 = (KD1.x.2.2.2.2.2.2.2.drop (c.j + 1)).dropWhile (· == y) → SS.ok KD1.x.2.2.2.2.2.2.1 KD1.x.2.2.2.2.2.2.2 { c with i := k, ti := t, j := k2, tj := t2 } := fun k t k2 t2 h1 h2 h3 h4 h5 h6 =>
            ⟨h2, h5, by rw [← hok.go, sld_eq hx hy (decide_eq_false nxy) (decide_eq_false nyx), ← h3, ← h6], hok.am, hok.au, Nat.le_trans hok.lm (by dsimp only; omega), Nat.le_trans hok.lu (by dsimp only; omega)⟩
          have hxi1 : ((c.i : Int) + 1) = ((c.i + 1 : Nat) : Int) := rfl
          have hyi1 : ((c.j : Int) + 1) = ((c.j + 1 : Nat) : Int) := rfl
          rw [hxi1] at F6
          (try dsimp only)
          obtain ⟨u9, hu9, F10⟩ : ∃ u9 : Str → Option Value, (∀ z, z ∉ [Str.ofString "i", Str.ofString "j", Str.ofString "e", Str.ofString "a", Str.ofString "expected", Str.ofString "actual", Str.ofString "missing", Str.ofString "unexpected"] → u9 z = m0 z) ∧ Fr KD1.h₀ KD1.s.heap.objs.size h6 (kstB u9 ((Str.ofString "i", .int ((c.i + 1 : Nat) : Int) _) :: (Str.ofString "j", .int (c.j : Int) c.tj) :: [(Str.ofString "e", .str x tx), (Str.ofString "a", .str y ty), (Str.ofString "expected", .ref KD1.x.1), (Str.ofString "actual", .ref KD1.x.2.1), (Str.ofString "missing", .ref am), (Str.ofString "unexpected", .ref au)])) := by
            refine ⟨_, ?_, fr_kst _ F6 ?_⟩
            · intro z hz
              simp only [List.mem_cons, List.not_mem_nil, or_false, not_or] at hz
              obtain ⟨q1, q2, q3, q4, q5, q6, q7, q8⟩ := hz
              simp [q1, q2, q3, q4, q5, q6, q7, q8]
            · refine all8 ?_ ?_ ?_ ?_ ?_ ?_ ?_ ?_ <;> rfl
          clear F6
          have hneX : ∀ p ∈ (au, listOf c.vu.toArray c.nu) :: (am, listOf c.vm.toArray c.nm) :: KD1.news, p.1 ≠ KD1.L := by
            intro p hp
            rcases List.mem_cons.mp hp with rfl | hp
            · exact Nat.ne_of_gt (Nat.lt_trans hLm hmu)
            rcases List.mem_cons.mp hp with rfl | hp
            · exact Nat.ne_of_gt hLm
            exact oN p hp
          refine tryf_x (fun e s₁ => ∃ (k : Nat) (t : Tok) (h : Heap) (tk : Nat) (ea : Addr) (hp : Heap), e = .ref ea ∧ s₁ = { KD1.s with heap := h, toks := tk } ∧ k = KD1.x.2.2.2.2.2.2.1.length ∧ KD1.x.2.2.2.2.2.2.1.drop k = (KD1.x.2.2.2.2.2.2.1.drop (c.i + 1)).dropWhile (· == x) ∧ NewX0 none hp h ea "IndexError" ∧
            Fr KD1.h₀ KD1.s.heap.objs.size hp (kstB u9 ((Str.ofString "i", .int (k : Int) t) :: (Str.ofString "j", .int (c.j : Int) c.tj) :: [(Str.ofString "e", .str x tx), (Str.ofString "a", .str y ty), (Str.ofString "expected", .ref KD1.x.1), (Str.ofString "actual", .ref KD1.x.2.1), (Str.ofString "missing", .ref am), (Str.ofString "unexpected", .ref au)])) ∧ News KD1.h₀ KD1.s.heap.objs.size hp ((au, listOf c.vu.toArray c.nu) :: (am, listOf c.vm.toArray c.nm) :: (KD1.news ++ [(KD1.L, oL)]))) ?_ pE' ?_
          · --[eqr
            clear F10 N6
            rintro e s₁ ⟨k, t, h, tk, ea, hp, rfl, rfl, hk, hks, nx, FX, NX⟩
            refine ⟨ea, rfl, ?_⟩
            refine noted_x (new := (au, listOf c.vu.toArray c.nu) :: (am, listOf c.vm.toArray c.nm) :: KD1.news) rfl hf hmod nx.toNewX FX NX oD hneX (fun h' sl T' ob ot cx hcx F' N' x' sep => ?_)
            have hcx0 : cx = .none := by
              obtain ⟨ob', vs', q1, q2, q3⟩ := nx.ctx rfl
              have := hcx _ _ q1 q2
              rw [q3] at this
              exact (Option.some.inj this).symm
            subst hcx0
            refine again_x N' x' ?_
            refine set_x none F' N' x' sep (fun h2 ot2 F2 N2 x2 => ?_)
            clear F' N' x' FX NX nx hcx hneX
            dsimp only [kstB] at N2 F2 x2 sep ⊢
            (try simp only [List.cons_append] at N2 sep)
            o_head !(0, 0)
            rename_i h6 F6 N6
            rw [hyi1] at F6
            obtain ⟨u8, F11⟩ : ∃ u8 : Str → Option Value, Fr KD1.h₀ KD1.s.heap.objs.size h6 (kstB u8 ((Str.ofString "j", .int ((c.j + 1 : Nat) : Int) _) :: (Str.ofString "i", .int (k : Int) t) :: [(Str.ofString "e", .str x tx), (Str.ofString "a", .str y ty), (Str.ofString "expected", .ref KD1.x.1), (Str.ofString "actual", .ref KD1.x.2.1), (Str.ofString "missing", .ref am), (Str.ofString "unexpected", .ref au)])) := by
              refine ⟨_, fr_kst _ F6 ?_⟩
              refine all8 ?_ ?_ ?_ ?_ ?_ ?_ ?_ ?_ <;> rfl
            clear F6
            refine skip_loop (ix := Str.ofString "j") (xs := KD1.x.2.2.2.2.2.2.2) (i0 := c.j + 1) ((ea, ob) :: (T', ot2) :: (au, listOf c.vu.toArray c.nu) :: (am, listOf c.vm.toArray c.nm) :: (KD1.news ++ [(KD1.L, { oL with slots := sl })])) F11 N6 rfl (by omega) (.tail _ (.tail _ (.tail _ (.tail _ (List.mem_append_left _ ha))))) hT hn2 rfl rfl (fun _ N => can_x N x2) (fun k2 t2 h7 h8 tk8 e8 hk4 hk5 ho hk6 nx F7 N7 => ?_) ?_ (pE' _ _ (SameStack.mark _ _))
            · rw [kst_turn] at F7
              exact hE' _ _ (SldX.a { c with i := k, ti := t, j := k2, tj := t2 } (hok' _ _ _ _ (by omega) (by omega) hks hk4 hk5 hk6) (.inl hk) sl nx.toNewX F7 (by refine all6 ?_ ?_ ?_ ?_ ?_ ?_ <;> rfl) fun p hp => N7 p (.tail _ (.tail _ hp)))
            · intro k2 t2 h7 tk7 hk4 hk5 hk6 F7 N7
              clear F11 N6
              rw [kst_turn] at F7
              dsimp only [kstB] at F7 ⊢
              o_head !(0, 0)
              refine pass_x F7 N7 x2 sep (fun h8 ot8 F8 N8 x8 => ?_)
              exact hE' _ _ (SldX.b { c with i := k, ti := t, j := k2, tj := t2 } (hok' _ _ _ _ (by omega) (by omega) hks hk4 hk5 hk6) (.inl hk) sl F8 (by refine all6 ?_ ?_ ?_ ?_ ?_ ?_ <;> rfl) N8 x8 sep)
          · --[eqb
            intro E2 hE2 pE2
            clear hneX
            o_head !(0, 0)
            refine skip_loop (ix := Str.ofString "i") (xs := KD1.x.2.2.2.2.2.2.1) (i0 := c.i + 1) ((au, listOf c.vu.toArray c.nu) :: (am, listOf c.vm.toArray c.nm) :: (KD1.news ++ [(KD1.L, oL)])) F10 N6 rfl (by omega) (.tail _ (.tail _ (List.mem_append_left _ he))) hS hn1 rfl rfl (fun _ _ => can_none rfl) (fun k t h7 h8 tk8 e8 hk1 hk2 ho hk3 nx F7 N7 => ?_) ?_ pE2
            · rw [kst_turn] at F7
              exact hE2 _ _ ⟨k, t, h8, tk8, e8, _, rfl, rfl, Nat.le_antisymm hk2 ho, hk3, nx, F7, N7⟩
            · intro k t h7 tk7 hk1 hk2 hk3 F7 N7
              clear F10 N6
              rw [kst_turn] at F7
              dsimp only [kstB] at F7 ⊢
              o_head !(0, 0)
              rename_i h6 F6 N6
              rw [hyi1] at F6
              obtain ⟨u8, hu8, F11⟩ : ∃ u8 : Str → Option Value, (∀ z, z ∉ [Str.ofString "i", Str.ofString "j", Str.ofString "e", Str.ofString "a", Str.ofString "expected", Str.ofString "actual", Str.ofString "missing", Str.ofString "unexpected"] → u8 z = u9 z) ∧ Fr KD1.h₀ KD1.s.heap.objs.size h6 (kstB u8 ((Str.ofString "j", .int ((c.j + 1 : Nat) : Int) _) :: (Str.ofString "i", .int (k : Int) t) :: [(Str.ofString "e", .str x tx), (Str.ofString "a", .str y ty), (Str.ofString "expected", .ref KD1.x.1), (Str.ofString "actual", .ref KD1.x.2.1), (Str.ofString "missing", .ref am), (Str.ofString "unexpected", .ref au)])) := by
                refine ⟨_, ?_, fr_kst _ F6 ?_⟩
                · intro z hz
                  simp only [List.mem_cons, List.not_mem_nil, or_false, not_or] at hz
                  obtain ⟨q1, q2, q3, q4, q5, q6, q7, q8⟩ := hz
                  simp [q1, q2, q3, q4, q5, q6, q7, q8]
                · refine all8 ?_ ?_ ?_ ?_ ?_ ?_ ?_ ?_ <;> rfl
              clear F6
              refine skip_loop (ix := Str.ofString "j") (xs := KD1.x.2.2.2.2.2.2.2) (i0 := c.j + 1) ((au, listOf c.vu.toArray c.nu) :: (am, listOf c.vm.toArray c.nm) :: (KD1.news ++ [(KD1.L, oL)])) F11 N6 rfl (by omega) (.tail _ (.tail _ (List.mem_append_left _ ha))) hT hn2 rfl rfl (fun _ _ => can_none rfl) (fun k2 t2 h7 h8 tk8 e8 hk4 hk5 ho hk6 nx F7 N7 => ?_) ?_ (pE' _ _ (SameStack.refl _))
              · rw [kst_turn] at F7
                exact hE' _ _ (SldX.a { c with i := k, ti := t, j := k2, tj := t2 } (hok' _ _ _ _ hk1 hk2 hk3 hk4 hk5 hk6) (.inr (Nat.le_antisymm hk5 ho)) oL.slots nx.toNewX F7 (by refine all6 ?_ ?_ ?_ ?_ ?_ ?_ <;> rfl) N7)
              · intro k2 t2 h7 tk7 hk4 hk5 hk6 F7 N7
                clear F11 N6
                rw [kst_turn] at F7
                dsimp only [kstB] at F7 ⊢
                o_head !(0, 0)
                refine ksw_end { c with i := k, ti := t, j := k2, tj := t2 } F7 N7 (fun _ h => h) trivial ?_ ?_ (hok' _ _ _ _ hk1 hk2 hk3 hk4 hk5 hk6) (meas3 hk1 hk2 hk4 hk5)
                · refine all6 ?_ ?_ ?_ ?_ ?_ ?_ <;> rfl
                · intro z hz hst
                  have q1 : z ≠ Str.ofString "i" := hz _ (.head _)
                  have q2 : z ≠ Str.ofString "j" := hz _ (.tail _ (.head _))
                  have q3 : z ≠ Str.ofString "expected" := hz _ (.tail _ (.tail _ (.head _)))
                  have q4 : z ≠ Str.ofString "actual" := hz _ (.tail _ (.tail _ (.tail _ (.head _))))
                  have q5 : z ≠ Str.ofString "missing" := hz _ (.tail _ (.tail _ (.tail _ (.tail _ (.head _)))))
                  have q6 : z ≠ Str.ofString "unexpected" := hz _ (.tail _ (.tail _ (.tail _ (.tail _ (.tail _ (.head _))))))
                  have q7 : z ≠ Str.ofString "e" ∧ z ≠ Str.ofString "a" := by simpa using hst
                  simp only [kstB, q1, q2, q3, q4, q5, q6, q7.1, q7.2, if_false]
                  exact (hu8 z (by simp [q1, q2, q3, q4, q5, q6, q7.1, q7.2])).trans (hu9 z (by simp [q1, q2, q3, q4, q5, q6, q7.1, q7.2]))
  · rintro s' ⟨u, h, tk, vm, vu, nm, nu, sl, rfl, hvm, hvu, F8, N8⟩
    clear F7 N7
    dsimp only [kstB] at F8 ⊢
    o_head !(0, 0)
    rename_i D9 h9 F9 N9 l9
    have hne : ∀ p ∈ (D9, ({ cls := Value.type "tuple", data := Data.seq #[.ref am, .ref au] } : Obj)) :: (au, listOf vu.toArray nu) :: (am, listOf vm.toArray nm) :: KD1.news, p.1 ≠ KD1.L := by
      intro p hp
      rcases List.mem_cons.mp hp with rfl | hp
      · exact Nat.ne_of_gt (Nat.lt_trans hLm l9.2.1)
      rcases List.mem_cons.mp hp with rfl | hp
      · exact Nat.ne_of_gt (Nat.lt_trans hLm hmu)
      rcases List.mem_cons.mp hp with rfl | hp
      · exact Nat.ne_of_gt hLm
      exact oN p hp
    obtain ⟨FB, NB⟩ := back_tries (new := (D9, ({ cls := Value.type "tuple", data := Data.seq #[.ref am, .ref au] } : Obj)) :: (au, listOf vu.toArray nu) :: (am, listOf vm.toArray nm) :: KD1.news) hab oC F9 N9 hne
    exact hret _ h9 _ _ FB NB ⟨[_, _, _], rfl, .tuple (vs := [.ref am, .ref au]) (n := 0) (.head _) (.cons (.list (.tail _ (.tail _ (.head _))) (strs_dat hvm)) (.cons (.list (.tail _ (.head _)) (strs_dat hvu)) .nil))⟩
theorem sld_spec (ex ac : Addr) (evs avs : List Value) (en an : Nat) (xs ys : List Str) :
    DClaim w p loose mean mg mb 2 51 [.ref ex, .ref ac] (fun news => (ex, listOf evs.toArray en) ∈ news ∧ (ac, listOf avs.toArray an) ∈ news ∧ StrsAre evs xs ∧ StrsAre avs ys ∧ xs.length < 60 ∧ ys.length < 60)
      (fun news v news' => ∃ objs, news' = objs ++ news ∧ DatIn objs v (.tuple [.list ((sld xs ys [] []).1.map .str), .list ((sld xs ys [] []).2.map .str)])) :=
  DB.claim (by unfold KD1; rfl) sld_spec_at (ex, ac, evs, avs, en, an, xs, ys) w p loose mean mg mb
end
end
section
theorem is_ne {M : Model} {A : Around} {E : Value → Shared → Prop} {s : Shared} {h₀ : Heap} {L : Addr} {m : Str → Option Value} {Q : Value → Shared → Prop} {x y : Addr} {ox oy : Obj} (F : Fr h₀ L s.heap m) (hx : h₀.get? x = some ox) (hy : h₀.get? y = some oy) (hxy : x ≠ y) (hb : ox.cls ≠ Value.type "tuple") (hq : Q (.bool false) s) :
    wpAny M A (compareOp .Is (.ref x) (.ref y)) Q E s := kto_is (F.keep _ _ hx) (F.keep _ _ hy) hxy hb hq
section
variable (w : World) (p : Program) (loose : List Str) (mean : ExcName → Option Value) (mg mb : Str → Option Value)
variable (Nm : Str → Prop) (levF : Str → Str → Int)
variable (LEV : ∀ (x y : Str) (tx ty t2 : Tok), PClaim w p loose mean mg mb 3 28 [.str x tx, .str y ty, .int 2 t2] (fun _ => Nm x ∧ Nm y) (fun _ v _ => ∃ t, v = .int (levF x y) t))
noncomputable def GInv (Nm : Str → Prop) (gs : List (List Str)) (k : Nat) : Prop := gs.length ≤ k ∧ ∀ g ∈ gs, g.length ≤ k ∧ ∃ y r, g = y :: r ∧ Nm y
theorem groupIns_inv {Nm : Str → Prop} {levF : Str → Str → Int} {nm : Str} (hn : Nm nm) {k : Nat} : ∀ {gs : List (List Str)}, gs.length ≤ k → (∀ g ∈ gs, g.length ≤ k ∧ ∃ y r, g = y :: r ∧ Nm y) →
    (groupIns levF gs nm).length ≤ gs.length + 1 ∧ ∀ g ∈ groupIns levF gs nm, g.length ≤ k + 1 ∧ ∃ y r, g = y :: r ∧ Nm y
  | [], _, _ => by
    refine ⟨by simp [groupIns], fun g hg => ?_⟩
    simp only [groupIns, List.mem_singleton] at hg
    subst hg
    exact ⟨by simp, nm, [], rfl, hn⟩
  | [] :: r, _, h => by obtain ⟨_, _, _, e, _⟩ := h [] (.head _); cases e
  | (y :: g) :: r, hl, h => by
    have h0 := h (y :: g) (.head _)
    have hr : ∀ g ∈ r, g.length ≤ k ∧ ∃ y r, g = y :: r ∧ Nm y := fun g hg => h g (.tail _ hg)
    obtain ⟨a, b⟩ := groupIns_inv hn (gs := r) (by simp at hl; omega) hr
    obtain ⟨y', r', e, hy⟩ := h0.2
    cases e
    unfold groupIns
    split
    · refine ⟨by simp, fun q hq => ?_⟩
      rcases List.mem_cons.mp hq with rfl | hq
      · have := h0.1
        exact ⟨by simp at this ⊢; omega, y, g ++ [nm], rfl, hy⟩
      · have := hr q hq
        exact ⟨by omega, this.2⟩
    · refine ⟨by simp; omega, fun q hq => ?_⟩
      rcases List.mem_cons.mp hq with rfl | hq
      · exact ⟨by omega, y, g, rfl, hy⟩
      · exact b q hq
theorem GInv.ins {Nm : Str → Prop} {levF : Str → Str → Int} {nm : Str} (hn : Nm nm) {k : Nat} {gs : List (List Str)} (h : GInv Nm gs k) : GInv Nm (groupIns levF gs nm) (k + 1) := by
  obtain ⟨a, b⟩ := groupIns_inv (levF := levF) hn h.1 h.2
  exact ⟨by have := h.1; omega, b⟩
section
local macro_rules | `(tactic| walk_at "compareOp Is ref ref") => `(tactic| (refine is_ne (by assumption) (by assumption) (by assumption) (by assumption) (by show Value.type _ ≠ Value.type _; decide) ?_))
noncomputable def S6 : Cx ((Str → Prop) × (Str → Str → Int) × Addr × Addr × List Value × List Str × Nat × List (Addr × Obj)) → Prop := PB (fun c => ∀ (x y : Str) (tx ty t2 : Tok), PClaim c.w c.p c.loose c.mean c.mg c.mb 3 28 [.str x tx, .str y ty, .int 2 t2] (fun _ => c.x.1 x ∧ c.x.1 y) (fun _ v _ => ∃ t, v = .int (c.x.2.1 x y) t)) 6 44 (fun q => [.ref 77, .ref q.2.2.1, .ref q.2.2.2.1]) (fun q => (fun h => h.IsList q.2.2.1 q.2.2.2.2.1.toArray ∧ StrsAre q.2.2.2.2.1 q.2.2.2.2.2.1 ∧ q.2.2.2.2.2.1.length < 60 ∧ (∀ x ∈ q.2.2.2.2.2.1, q.1 x) ∧ h.get? q.2.2.2.1 = some (listOf #[] q.2.2.2.2.2.2.1))) (fun q => (fun h v h' => ∃ a objs, v = .ref a ∧ Made h h' objs ∧ DatIn (objs ++ [(q.2.2.2.1, listOf #[] q.2.2.2.2.2.2.1)]) (.ref a) (.list (gdat (q.2.2.2.2.2.1.foldl (groupIns q.2.1) [])))))
@[irreducible] noncomputable def K6 : Cx ((Str → Prop) × (Str → Str → Int) × Addr × Addr × List Value × List Str × Nat × List (Addr × Obj)) := Cx.bad (fun _ => True, fun _ _ => 0, 0, 0, [], [], 0, []) S6
set_option maxRecDepth 100000 in
set_option maxHeartbeats 8000000 in
theorem reduce_spec_at : S6 K6 := by
  dsimp only [S6, PB]
  k_fill
  intro LEV B F X T hk hpre hdp hun hret
  obtain ⟨hl, hsa, hn1, hnm, hz⟩ := hpre
  have o36 := (X.keeps F.keep) 36 _ (by k_is)
  have hz36 : K6.x.2.2.2.1 ≠ 36 := fun e => by
    rw [e, o36] at hz
    exact absurd (show Value.type "object" = Value.type "list" from congrArg Obj.cls (Option.some.inj hz)) (by decide)
  w_top off
  walk_at "pc_enter"
  o_head !(0, 0)
  rename_i I _ _ _ _ _ FF NN
  have NI := NN (I, iterObj K6.x.2.2.1) (.head _)
  refine' mf_iter (I := I) (l := K6.x.2.2.1) (vs := K6.x.2.2.2.2.1) (news := [(I, iterObj K6.x.2.2.1)]) (σ := Value × List (List Str)) (fun _ => []) [] (fun c => [(Str.ofString "value", c.1)]) (fun l c => DatIn (l ++ [(K6.x.2.2.2.1, listOf #[] K6.x.2.2.2.2.2.2.1)]) c.1 (.list (gdat c.2))) [] (fun i c => c.2 = (K6.x.2.2.2.2.2.1.take i).foldl (groupIns K6.x.2.1) [] ∧ GInv K6.x.1 c.2 i) [] (.ref K6.x.2.2.2.1, []) rfl hl ?hI ?hI0 ?hIL ?hIn FF NN ?hn ?hadr ?hf ?hk ?hp ?turn ?done
  case hI => exact ⟨_, NI.1, rfl, rfl⟩
  case hI0 => exact NI.2.2
  case hIL => exact NI.2.1
  case hIn => intro p hp; simp at hp
  case hn => intro p hp; simp at hp
  case hadr => intro c; rfl
  case hf => exact DatIn.list (vs := []) (n := K6.x.2.2.2.2.2.2.1) (List.mem_append_right _ (.head _)) .nil
  case hk => intro p hp; simp at hp; subst hp; rfl
  case hp => exact ⟨by simp, by simp [GInv]⟩
  case turn =>
    intro c' tl' i' v' u' h' tk' own' hv' hs' ho' hf' hp' F' N'
    dsimp only [List.nil_append, List.append_nil, kstB] at F' N' hf'
    dsimp only
    obtain ⟨x, t, rfl, hx⟩ := StrsAre.item hsa i' v' hv'
    obtain ⟨c1, gs⟩ := c'
    dsimp only at hf' hp' F'
    obtain ⟨hgs, hinv⟩ := hp'
    have hilt : i' < K6.x.2.2.2.2.2.1.length := by
      rcases Nat.lt_or_ge i' K6.x.2.2.2.2.2.1.length with h | h
      · exact h
      · simp [List.getElem?_eq_none h] at hx
    have hxn : K6.x.1 x := hnm x (List.mem_of_getElem? hx)
    cases hf' with
    | @list g vs' n' _ hg hvs =>
    have hD : DatIn (tl' ++ [(K6.x.2.2.2.1, listOf #[] K6.x.2.2.2.2.2.2.1)]) (.ref g) (.list (gdat gs)) := .list hg hvs
    have hH : Held h' (tl' ++ [(K6.x.2.2.2.1, listOf #[] K6.x.2.2.2.2.2.2.1)]) := by
      intro q hq
      rcases List.mem_append.mp hq with hq | hq
      · exact (N' q (List.mem_append_left _ hq)).1
      · rcases List.mem_singleton.mp hq with rfl
        exact F'.keep _ _ hz
    have hpre : Held h' (tl' ++ [(K6.x.2.2.2.1, listOf #[] K6.x.2.2.2.2.2.2.1)]) ∧ DatIn (tl' ++ [(K6.x.2.2.2.1, listOf #[] K6.x.2.2.2.2.2.2.1)]) (.ref g) (.list (gdat gs)) ∧ gs.length < 100 ∧ (∀ x ∈ gs, x.length < 100 ∧ ∃ y r, x = y :: r ∧ K6.x.1 y) ∧ K6.x.1 x :=
      ⟨hH, hD, by have := hinv.1; omega, fun q hq => ⟨by have := (hinv.2 q hq).1; omega, (hinv.2 q hq).2⟩, hxn⟩
    o_head !(0, 0)
    o_head (grouped_spec K6.w K6.p K6.loose K6.mean K6.mg K6.mb K6.x.1 K6.x.2.1 LEV g gs (tl' ++ [(K6.x.2.2.2.1, listOf #[] K6.x.2.2.2.2.2.2.1)]) x t)
    rename_i v2 h2 tk2 K2 P2 F2 N2
    obtain ⟨a2, objs, rfl, M2, D2⟩ := P2
    have N3 := made_news F' N2 M2
    have hfr : ∀ q ∈ objs, ∀ r ∈ own', r.1 ≠ q.1 := fun q hq r hr e => by
      have h1 := (N' r (List.mem_append_right _ hr)).1
      have h2 := (M2 q hq).2
      rw [e] at h1
      exact absurd (h1.symm.trans h2) (by simp)
    clear N2
    dsimp only
    o_head !(0, 0)
    refine kd_end (.ref a2, groupIns K6.x.2.1 gs x) objs hs' (by assumption) (by assumption) (fun q hq => ?_) (fun q hq => List.mem_append_right _ (List.mem_append_right _ hq)) rfl (fun _ _ _ h => nomatch h) hfr ?_ ?_ ?_ ?_
    · simp only [List.nil_append] at hq
      rw [← List.append_assoc]
      exact List.mem_append_left _ hq
    · intro q hq; simp at hq; subst hq; rfl
    · intro z' hz1 hz2 _
      have : z' ≠ Str.ofString "value" := hz2 (Str.ofString "value", .ref a2) (by simp)
      simp [hz1, this]
    · simp only [List.nil_append, List.append_assoc]; exact D2
    · refine ⟨?_, GInv.ins hxn hinv⟩
      rw [List.take_add_one, hx, List.foldl_append, ← hgs]; rfl
  case done =>
    intro c' tl' u' h' tk' ho' hf' hp' F' N'
    dsimp only [List.nil_append, List.append_nil, kstB] at F' N' hf'
    dsimp only
    obtain ⟨c1, gs⟩ := c'
    dsimp only at hf' hp' F'
    obtain ⟨hgs, hinv⟩ := hp'
    o_head !(0, 0)
    (try dsimp only)
    o_head !(0, 0)
    have hlen : K6.x.2.2.2.2.1.length = K6.x.2.2.2.2.2.1.length := hsa.len_eq
    rw [hlen, List.take_length] at hgs
    subst hgs
    cases hf' with
    | @list g vs' n' _ hg hvs =>
    exact hret _ _ _ (Fr.keep (h₀ := K6.s.heap) (by assumption)) ⟨g, tl', rfl, news_made N' (fun _ h => h), .list hg hvs⟩
include LEV in
theorem reduce_spec (nl z : Addr) (vs : List Value) (xs : List Str) (n : Nat) (ns : List (Addr × Obj)) :
    PClaim w p loose mean mg mb 6 44 [.ref 77, .ref nl, .ref z] (fun h => h.IsList nl vs.toArray ∧ StrsAre vs xs ∧ xs.length < 60 ∧ (∀ x ∈ xs, Nm x) ∧ h.get? z = some (listOf #[] n)) (fun h v h' => ∃ a objs, v = .ref a ∧ Made h h' objs ∧ DatIn (objs ++ [(z, listOf #[] n)]) (.ref a) (.list (gdat (xs.foldl (groupIns levF) [])))) :=
  PB.claim (by unfold K6; rfl) reduce_spec_at (Nm, levF, nl, z, vs, xs, n, ns) w p loose mean mg mb fun _ _ _ _ _ _ _ _ _ _ _ _ _ _ _ _ _ => LEV
end
end
end
section
structure PG where
  a : Addr
  n : Nat
  vs : List Value
  xs : List Str
noncomputable def PG.obj (g : PG) : Addr × Obj := (g.a, listOf g.vs.toArray g.n)
noncomputable def PG.ok (Nm : Str → Prop) (k : Nat) (g : PG) : Prop := StrsAre g.vs g.xs ∧ g.xs.length ≤ k ∧ (∀ x ∈ g.xs, Nm x) ∧ ∃ y r, g.xs = y :: r
noncomputable def PLed (G C : Addr) (nG : Nat) (oc : Obj) (gl : List PG) : List (Addr × Obj) := (G, listOf (gl.map fun g => Value.ref g.a).toArray nG) :: (C, oc) :: gl.map PG.obj
theorem PG.dat {Nm : Str → Prop} {k : Nat} {ns : List (Addr × Obj)} : ∀ {gl : List PG}, (∀ g ∈ gl, g.ok Nm k) → (∀ g ∈ gl, g.obj ∈ ns) → DatAll ns (gl.map fun g => Value.ref g.a) (gl.map fun g => Dat.list (g.xs.map Dat.str))
  | [], _, _ => .nil
  | g :: r, h, hm => .cons (.list (hm g (.head _)) (strs_dat (h g (.head _)).1)) (PG.dat (fun q hq => h q (.tail _ hq)) fun q hq => hm q (.tail _ hq))
theorem AllLt.mem {a : Addr} : ∀ {l : List (Addr × Obj)}, AllLt a l → ∀ p ∈ l, p.1 < a
  | [], _, _, h => nomatch h
  | _ :: _, x, p, h => by
    rcases List.mem_cons.mp h with rfl | h
    · exact x.1
    · exact AllLt.mem x.2 p h
theorem plain_far {gl : List PG} {xs : List Str} {i : Nat} {NM : Str} {g : PG} (hxi : xs[i]? = some NM) (hgs : gl.map PG.xs = (xs.take i).foldl (groupIns costF) []) (hnear : gl.filter (fun g => decide (costF (g.xs.headD default) NM < 3)) = []) (hg : g.xs = [NM]) :
    (gl ++ [g]).map PG.xs = (xs.take (i + 1)).foldl (groupIns costF) [] := by
  rw [List.take_add_one, hxi, List.foldl_append, ← hgs]
  show _ = groupIns costF (gl.map PG.xs) NM
  rw [groupIns_far]
  · simp [hg]
  · intro j hj y r e
    rw [List.getElem?_map, Option.map_eq_some_iff] at e
    obtain ⟨q, hq, e⟩ := e
    have h := List.filter_eq_nil_iff.mp hnear q (List.mem_of_getElem? hq)
    rw [e] at h
    have h2 : ¬ (costF y NM < 3) := fun q => h (decide_eq_true q)
    omega
theorem News.dup {h₀ h : Heap} {L : Addr} {news : List (Addr × Obj)} {q : Addr × Obj} (N : News h₀ L h news) (hq : q ∈ news) : News h₀ L h (q :: news) := fun p hp => (List.mem_cons.mp hp).elim (fun e => e ▸ N q hq) (N p)
theorem plain_near {pre post : List PG} {xs : List Str} {i : Nat} {NM : Str} {g0 : PG} {a : Addr} {n : Nat} {vs : List Value} (hxi : xs[i]? = some NM) (hgs : (pre ++ g0 :: post).map PG.xs = (xs.take i).foldl (groupIns costF) [])
    (h1 : ∀ x ∈ pre, ¬ (decide (costF (x.xs.headD default) NM < 3)) = true) (h2 : decide (costF (g0.xs.headD default) NM < 3) = true) (h3 : ∃ y r, g0.xs = y :: r ∧ True) :
    (pre ++ ⟨a, n, vs, g0.xs ++ [NM]⟩ :: post).map PG.xs = (xs.take (i + 1)).foldl (groupIns costF) [] := by
  obtain ⟨y, r, e, -⟩ := h3
  rw [List.take_add_one, hxi, List.foldl_append, ← hgs]
  show _ = groupIns costF ((pre ++ g0 :: post).map PG.xs) NM
  rw [groupIns_near (i := pre.length) (y := y) (g := r)]
  · simp only [List.map_append, List.map_cons, e]
    have d : ∀ (a b : List (List Str)) (x : List Str) (n : Nat), n = a.length → (a ++ x :: b).drop (n + 1) = b := by
      intro a b x n hn
      subst hn
      rw [show a ++ x :: b = (a ++ [x]) ++ b by simp, List.drop_left' (by simp)]
    have t : ∀ (a b : List (List Str)) (n : Nat), n = a.length → (a ++ b).take n = a := by
      intro a b n hn
      exact List.take_left' hn.symm
    rw [d _ _ _ _ (by simp), t _ _ _ (by simp)]
    simp
  · intro j hj y r e
    rw [List.getElem?_map, Option.map_eq_some_iff] at e
    obtain ⟨q, hq, e⟩ := e
    rw [List.getElem?_append_left hj] at hq
    have h := h1 q (List.mem_of_getElem? hq)
    rw [e] at h
    have h2 : ¬ (costF y NM < 3) := fun q => h (decide_eq_true q)
    omega
  · simp [e]
  · rw [e] at h2
    have := of_decide_eq_true h2
    simp only [List.headD_cons] at this
    omega
section
variable (w : World) (p : Program) (loose : List Str) (mean : ExcName → Option Value) (mg mb : Str → Option Value)
variable (Nm : Str → Prop) (NmOk : ∀ x, Nm x → PyData.strOk x = true)
variable (COST : ∀ (x y : Str) (tx ty : Tok), PClaim w p loose mean mg mb 2 89 [.str x tx, .str y ty] (fun _ => Nm x ∧ Nm y) (fun _ v _ => ∃ t, v = .int (costF x y) t))
local macro_rules | `(tactic| walk_at "my_list") => `(tactic| exact News.isList (by assumption) (.tail _ (.tail _ (.tail _ (.tail _ (.tail _ (by assumption)))))))
set_option hygiene false in
local macro_rules | `(tactic| walk_at "call ref") => `(tactic| (o_head (COST _ _ _ _)))
noncomputable def S9 : Cx ((Str → Prop) × Addr × List Value × List Str) → Prop := PB (fun c => (∀ x, c.x.1 x → PyData.strOk x = true) ∧ ∀ (x y : Str) (tx ty : Tok), PClaim c.w c.p c.loose c.mean c.mg c.mb 2 89 [.str x tx, .str y ty] (fun _ => c.x.1 x ∧ c.x.1 y) (fun _ v _ => ∃ t, v = .int (costF x y) t)) 4 94 (fun q => [.ref q.2.1]) (fun q => (fun h => h.IsList q.2.1 q.2.2.1.toArray ∧ StrsAre q.2.2.1 q.2.2.2 ∧ q.2.2.2.length < 60 ∧ (∀ x ∈ q.2.2.2, q.1 x))) (fun q => (fun h v h' => ∃ a objs, v = .ref a ∧ Made h h' objs ∧ DatIn objs (.ref a) (.list (gdat (q.2.2.2.foldl (groupIns costF) [])))))
@[irreducible] noncomputable def K9 : Cx ((Str → Prop) × Addr × List Value × List Str) := Cx.bad (fun _ => True, 0, [], []) S9
set_option maxRecDepth 100000 in
set_option maxHeartbeats 8000000 in
theorem plain_spec_at : S9 K9 := by
  dsimp only [S9, PB]
  k_fill
  intro HY B F X T hk hpre hdp hun hret
  obtain ⟨NmOk, COST⟩ := HY
  obtain ⟨hl, hS, hn, hN⟩ := hpre
  w_top off
  walk_at "pc_enterC"
  o_head !(1, 0)
  rename_i L' _ _ B0 X0 T0 oc d1 G _ l1 _ F0 N0
  refine For_invT K9.s.heap ?_ (by intro _; rfl)
  o_head !(1, 0)
  refine mt_listK [Str.ofString "near"] (fun i nw => ∃ (gl : List PG) (nG : Nat) (oc' : Obj) (c' : Option Value), nw = PLed G (L' + 1) nG oc' gl ∧ oc'.data = Data.cell c'
    ∧ (G :: (L' + 1) :: gl.map PG.a).Nodup ∧ (∀ g ∈ gl, g.ok K9.x.1 i) ∧ gl.length ≤ i ∧ gl.map PG.xs = (K9.x.2.2.2.take i).foldl (groupIns costF) []) rfl hl F0 N0 ?_ ?_ ?_
  · exact ⟨[], 0, oc, _, rfl, d1, List.nodup_cons.mpr ⟨by simpa using Nat.ne_of_gt l1, by simp⟩, (fun _ h => nomatch h), Nat.le_refl _, rfl⟩
  · rintro i v nw u s₁ own hv hown ⟨gl, nG, oc', c', rfl, hoc, hnd, hgl, hgn, hgs⟩ F1 N1
    obtain ⟨NM, t, rfl, hxi⟩ := StrsAre.item hS i v hv
    have hNM : K9.x.1 NM := hN NM (List.mem_of_getElem? hxi)
    have hix : i < K9.x.2.2.2.length := (List.getElem?_eq_some_iff.mp hxi).1
    clear F0 N0
    dsimp only [PLed, List.cons_append] at N1
    o_head !(1, 0)
    have hgG : ∀ g ∈ gl, g.a ≠ G := fun g hg e => (List.nodup_cons.mp hnd).1 (.tail _ (List.mem_map.mpr ⟨g, hg, e⟩))
    have hgC : ∀ g ∈ gl, g.a ≠ L' + 1 := fun g hg e => (List.nodup_cons.mp (List.nodup_cons.mp hnd).2).1 (List.mem_map.mpr ⟨g, hg, e⟩)
    have hownG : ∀ p ∈ own, p.1 ≠ G := fun p hp => hown p hp G (.head _)
    have hns : ∀ p ∈ gl.map PG.obj ++ own, p.1 ≠ L' + 1 := by
      intro p hp
      rcases List.mem_append.mp hp with hp | hp
      · obtain ⟨g, hg, rfl⟩ := List.mem_map.mp hp; exact hgC g hg
      · exact hown p hp (L' + 1) (.tail _ (.head _))
    refine cell_store2 F1 N1 hoc (Nat.ne_of_gt l1) hns ?_ rfl rfl rfl
    intro h2 oc2 F2 N2 hoc2
    clear F1 N1
    (try dsimp only)
    o_head !(1, 0)
    refine LCt.Assign_ListComp_T (F₀ := by k_asm) (by rfl) (by with_unfolding_all rfl) (by with_unfolding_all rfl) (by decide) (by rfl) (by decide) (by rfl) (by rfl) (by rfl) ?_
    o_head !(1, 0)
    refine LCt.CompSrcT.ledger rfl F2 N2 (.head _) (by simp only [List.size_toArray, List.length_map]; rw [sizeLine_eq]; omega) ?_
    intro gg
    (try dsimp only)
    refine cr_invT (fun k ys nw => nw = (G, listOf (gl.map fun g => Value.ref g.a).toArray nG) :: (L' + 1, oc2) :: (gl.map PG.obj ++ own) ∧ ys = ((gl.take k).filter (fun g => decide (costF (g.xs.headD default) NM < 3))).map (fun g => Value.ref g.a)) ⟨rfl, rfl⟩ ?_ ?_
    · intro k ys nw v I oI C oC D m₂ h tk E' hi hJ hv' hC hm F3 N3 off ne
      obtain ⟨rfl, rfl⟩ := hJ
      obtain ⟨g, hg, rfl⟩ : ∃ g, gl[k]? = some g ∧ v = .ref g.a := by
        simp only [List.getElem?_toArray, List.getElem?_map, Option.map_eq_some_iff] at hv'
        obtain ⟨g, h1, h2⟩ := hv'
        exact ⟨g, h1, h2.symm⟩
      have hgm := List.mem_of_getElem? hg
      obtain ⟨hgS, hg2, hg3, y, r, hgx⟩ := hgl g hgm
      have hNy : K9.x.1 y := hg3 y (by rw [hgx]; exact .head _)
      obtain ⟨ty, hty⟩ := StrsAre.at hgS (j := 0) (y := y) (by rw [hgx]; rfl)
      have hgin : (g.a, listOf g.vs.toArray g.n) ∈ gl.map PG.obj ++ own := List.mem_append.mpr (.inl (List.mem_map.mpr ⟨g, hgm, rfl⟩))
      have hpre : K9.x.1 y ∧ K9.x.1 NM := ⟨hNy, hNM⟩
      have offK := off
      simp only [LCg.Off3] at off
      clear F2 N2 hret
      o_head !(1, 0)
      all_goals (
        rename_i F4 N4 _ hc
        refine .intro F4 N4 _ (fun _ h => h) offK (.inr ⟨_, .head _, rfl, _, rfl⟩) ⟨rfl, ?_⟩
        rw [List.take_add_one, hg, List.filter_append, List.map_append]
        simp [hgx, hc])
    · intro ys nw hJ
      obtain ⟨rfl, rfl⟩ := hJ
      intro D h3 tk3 F3 N3 off3
      simp only [List.size_toArray, List.length_map, List.take_length] at N3
      (try dsimp only)
      clear F2 N2 hret
      have hsub : ∀ g ∈ gl.filter (fun g => decide (costF (g.xs.headD default) NM < 3)), g ∈ gl := fun g hg => (List.mem_filter.mp hg).1
      generalize hnear : gl.filter (fun g => decide (costF (g.xs.headD default) NM < 3)) = near at *
      o_head !(1, 0)
      refine kqd_eq (es := []) (by k_asm) (.tail _ (.head _)) rfl rfl (PG.dat (gl := near) (ns := gl.map PG.obj) (fun g hg => hgl g (hsub g hg)) (fun g hg => List.mem_map.mpr ⟨g, hsub g hg, rfl⟩)) ?_ (.head _) rfl rfl (DatAll.nil (news := [])) (fun _ h => nomatch h) ?_ (fun _ h => nomatch h) ?_ ?_
      · intro p hp; exact .tail _ (.tail _ (.tail _ (.tail _ (List.mem_append.mpr (.inl hp)))))
      · intro d hd
        obtain ⟨g, hg, rfl⟩ := List.mem_map.mp hd
        simp only [kqdOk, List.all_eq_true, List.mem_map]
        rintro _ ⟨x, hx, rfl⟩
        exact NmOk x ((hgl g (hsub g hg)).2.2.1 x hx)
      · simp only [ktrTop, Around.deeper, cLine] at *; omega
      cases near with
      | nil =>
        simp only [List.map_nil, eq_self, decide_true]
        o_head !(1, 0)
        rename_i E1 _ lE NG _ F5 N5 lN
        refine append_any F5 N5 (.tail _ (.tail _ (.tail _ (.head _)))) (by simp only [List.size_toArray, List.length_map]; rw [sizeLine_eq]; omega) (PLed G (L' + 1) (nG + 1) oc2 (gl ++ [⟨NG, 0, [.str NM t], [NM]⟩]) ++ own) ?_ ?_
        · intro p hp
          rcases List.mem_append.mp hp with hp | hp
          · rcases List.mem_cons.mp hp with rfl | hp
            · left; simp
            rcases List.mem_cons.mp hp with rfl | hp
            · right; exact ⟨.tail _ (.tail _ (.tail _ (.tail _ (.head _)))), Nat.ne_of_lt l1⟩
            obtain ⟨g, hg, rfl⟩ := List.mem_map.mp hp
            rcases List.mem_append.mp hg with hg | hg
            · right
              refine ⟨.tail _ (.tail _ (.tail _ (.tail _ (.tail _ (List.mem_append.mpr (.inl (List.mem_map.mpr ⟨g, hg, rfl⟩))))))), hgG g hg⟩
            · rw [List.mem_singleton.mp hg]; right; exact ⟨.head _, Nat.ne_of_gt lN.2.2.1⟩
          · right; exact ⟨.tail _ (.tail _ (.tail _ (.tail _ (.tail _ (List.mem_append.mpr (.inr hp)))))), hownG p hp⟩
        intro h6 F6 N6
        clear F5 N5
        (try dsimp only)
        o_head !(1, 0)
        have hlt := AllLt.mem lN.2.2.2.2
        refine turn_end F6 N6 ?_ ⟨_, nG + 1, oc2, _, rfl, hoc2, ?_, ?_, ?_, plain_far hxi hgs hnear rfl⟩ ?_ (fun p hp => List.mem_append.mpr (.inl hp)) (fun p hp => List.mem_append.mpr (.inr hp))
        · intro z hz
          have : z ≠ Str.ofString "near" := by simpa using hz
          simp [this]
        · rw [List.map_append]
          show ([G, L' + 1] ++ (gl.map PG.a ++ [NG])).Nodup
          rw [← List.append_assoc, List.nodup_append]
          refine ⟨hnd, by simp, ?_⟩
          intro a ha b hb
          rw [List.mem_singleton.mp hb]
          rcases List.mem_append.mp ha with ha | ha
          · rcases List.mem_cons.mp ha with rfl | ha
            · exact Nat.ne_of_lt lN.2.2.1
            · rw [List.mem_singleton.mp ha]; exact Nat.ne_of_lt lN.2.2.2.1
          · obtain ⟨g, hg, rfl⟩ := List.mem_map.mp ha
            exact Nat.ne_of_lt (hlt g.obj (List.mem_append.mpr (.inl (List.mem_map.mpr ⟨g, hg, rfl⟩))))
        · intro g hg
          rcases List.mem_append.mp hg with hg | hg
          · obtain ⟨q1, q2, q3, q4⟩ := hgl g hg
            exact ⟨q1, by omega, q3, q4⟩
          · rw [List.mem_singleton.mp hg]
            exact ⟨.cons NM t .nil, by simp, by intro x hx; rw [List.mem_singleton.mp hx]; exact hNM, NM, [], rfl⟩
        · rw [List.length_append]; simp; omega
        · intro p hp b hb
          simp only [PLed, List.map_cons, List.map_append, List.map_map, List.mem_cons, List.mem_append, List.map_nil, List.not_mem_nil, or_false] at hb
          rcases hb with rfl | rfl | hb | rfl
          · exact hownG p hp
          · exact hns p (List.mem_append.mpr (.inr hp))
          · obtain ⟨g, hg, rfl⟩ := List.mem_map.mp hb
            exact hown p hp _ (.tail _ (.tail _ (List.mem_map.mpr ⟨g.obj, List.mem_map.mpr ⟨g, hg, rfl⟩, rfl⟩)))
          · exact Nat.ne_of_lt (hlt p (List.mem_append.mpr (.inr hp)))
      | cons g0 nr =>
        simp only [List.map_cons, reduceCtorEq, decide_false]
        o_head !(1, 0)
        rename_i E1 h5 F5 lE N5
        have hg0 := hsub g0 (.head _)
        have N6 := News.dup N5 (show g0.obj ∈ _ from .tail _ (.tail _ (.tail _ (.tail _ (List.mem_append.mpr (.inl (List.mem_map.mpr ⟨g0, hg0, rfl⟩)))))))
        dsimp only [PG.obj] at N6
        clear N5
        (try dsimp only)
        o_head !(1, 0)
        obtain ⟨pre, post, rfl, hpre, hp0, -⟩ := List.filter_eq_cons_iff.mp hnear
        have hok0 := hgl g0 hg0
        have hnd' : (pre.map PG.a ++ g0.a :: post.map PG.a).Nodup := by
          have := (List.nodup_cons.mp (List.nodup_cons.mp hnd).2).2
          simpa using this
        have hne : ∀ g, g ∈ pre ∨ g ∈ post → g.a ≠ g0.a := by
          intro g hg e
          have h3 := List.nodup_append.mp hnd'
          rcases hg with hg | hg
          · exact h3.2.2 _ (List.mem_map.mpr ⟨g, hg, rfl⟩) _ (.head _) e
          · exact (List.nodup_cons.mp h3.2.1).1 (e ▸ List.mem_map.mpr ⟨g, hg, rfl⟩)
        refine append_any F5 N6 (.head _) (by simp only [List.size_toArray]; rw [sizeLine_eq]; have := hok0.1.len_eq; have := hok0.2.1; omega) (PLed G (L' + 1) nG oc2 (pre ++ ⟨g0.a, g0.n + 1, g0.vs ++ [.str NM t], g0.xs ++ [NM]⟩ :: post) ++ own) ?_ ?_
        · intro p hp
          rcases List.mem_append.mp hp with hp | hp
          · rcases List.mem_cons.mp hp with rfl | hp
            · right
              have e1 : (pre ++ (⟨g0.a, g0.n + 1, g0.vs ++ [.str NM t], g0.xs ++ [NM]⟩ : PG) :: post).map (fun g => Value.ref g.a) = (pre ++ g0 :: post).map (fun g => Value.ref g.a) := by simp only [List.map_append, List.map_cons]
              exact ⟨.tail _ (.tail _ (.tail _ (by rw [e1]; exact .head _))), (hgG g0 hg0).symm⟩
            rcases List.mem_cons.mp hp with rfl | hp
            · right; exact ⟨.tail _ (.tail _ (.tail _ (.tail _ (.head _)))), (hgC g0 hg0).symm⟩
            obtain ⟨g, hg, rfl⟩ := List.mem_map.mp hp
            have key : g ∈ pre ∨ g ∈ post → g.obj ∈ List.map PG.obj (pre ++ g0 :: post) ∧ g.a ≠ g0.a := fun h => ⟨List.mem_map.mpr ⟨g, by rcases h with h | h <;> simp [h], rfl⟩, hne g h⟩
            rcases List.mem_append.mp hg with hg | hg
            · right
              have k := key (.inl hg)
              exact ⟨.tail _ (.tail _ (.tail _ (.tail _ (.tail _ (List.mem_append.mpr (.inl k.1)))))), k.2⟩
            rcases List.mem_cons.mp hg with rfl | hg
            · left; simp [PG.obj]
            · right
              have k := key (.inr hg)
              exact ⟨.tail _ (.tail _ (.tail _ (.tail _ (.tail _ (List.mem_append.mpr (.inl k.1)))))), k.2⟩
          · right; exact ⟨.tail _ (.tail _ (.tail _ (.tail _ (.tail _ (List.mem_append.mpr (.inr hp)))))), hown p hp _ (.tail _ (.tail _ (List.mem_map.mpr ⟨g0.obj, List.mem_map.mpr ⟨g0, hg0, rfl⟩, rfl⟩)))⟩
        intro h6 F6 N7
        clear F5 N6
        (try dsimp only)
        o_head !(1, 0)
        refine turn_end F6 N7 ?_ ⟨_, nG, oc2, _, rfl, hoc2, ?_, ?_, ?_, plain_near hxi hgs hpre hp0 (by obtain ⟨y, r, e⟩ := hok0.2.2.2; exact ⟨y, r, e, trivial⟩)⟩ ?_ (fun p hp => List.mem_append.mpr (.inl hp)) (fun p hp => List.mem_append.mpr (.inr hp))
        · intro z hz
          have : z ≠ Str.ofString "near" := by simpa using hz
          simp [this]
        · simpa using hnd
        · intro g hg
          rcases List.mem_append.mp hg with hg | hg
          · obtain ⟨q1, q2, q3, q4⟩ := hgl g (List.mem_append.mpr (.inl hg))
            exact ⟨q1, by omega, q3, q4⟩
          rcases List.mem_cons.mp hg with rfl | hg
          · obtain ⟨q1, q2, q3, y, r, q4⟩ := hok0
            refine ⟨StrsAre.snoc q1, by simp; omega, ?_, y, r ++ [NM], by simp [q4]⟩
            intro x hx
            rcases List.mem_append.mp hx with hx | hx
            · exact q3 x hx
            · rw [List.mem_singleton.mp hx]; exact hNM
          · obtain ⟨q1, q2, q3, q4⟩ := hgl g (List.mem_append.mpr (.inr (.tail _ hg)))
            exact ⟨q1, by omega, q3, q4⟩
        · simp at hgn ⊢; omega
        · intro p hp b hb
          refine hown p hp b ?_
          simpa [PLed, PG.obj] using hb
  · intro u nw h3 tk3 hK F3 N3
    obtain ⟨gl, nG, oc', c', rfl, hoc, hnd, hgl, hgn, hgs⟩ := hK
    (try dsimp only)
    o_head !(1, 0)
    (try dsimp only)
    rw [hS.len_eq, List.take_length] at hgs
    refine hret _ _ _ (Fr.keep (h₀ := K9.s.heap) F3) ⟨G, (G, listOf (gl.map fun g => Value.ref g.a).toArray nG) :: gl.map PG.obj, rfl, news_made N3 (fun p hp => (List.mem_cons.mp hp).elim (fun e => e ▸ .head _) fun hp => .tail _ (.tail _ hp)), ?_⟩
    have := PG.dat (ns := (G, listOf (gl.map fun g => Value.ref g.a).toArray nG) :: gl.map PG.obj) hgl fun g hg => .tail _ (List.mem_map.mpr ⟨g, hg, rfl⟩)
    rw [← hgs]
    refine .list (.head _) ?_
    simp only [gdat, List.map_map]
    exact this
include COST NmOk in
theorem plain_spec (nl : Addr) (vs : List Value) (xs : List Str) :
    PClaim w p loose mean mg mb 4 94 [.ref nl] (fun h => h.IsList nl vs.toArray ∧ StrsAre vs xs ∧ xs.length < 60 ∧ (∀ x ∈ xs, Nm x)) (fun h v h' => ∃ a objs, v = .ref a ∧ Made h h' objs ∧ DatIn objs (.ref a) (.list (gdat (xs.foldl (groupIns costF) [])))) :=
  PB.claim (by unfold K9; rfl) plain_spec_at (Nm, nl, vs, xs) w p loose mean mg mb fun _ _ _ _ _ _ _ _ _ _ _ _ _ _ _ _ _ => ⟨NmOk, COST⟩
end
end
section
noncomputable def chs : List Nat := [97, 65, 98]
noncomputable def names40 : List (List Nat) := [[]] ++ chs.map (fun a => [a]) ++ (chs.flatMap fun a => chs.map fun b => [a, b]) ++ (chs.flatMap fun a => chs.flatMap fun b => chs.map fun c => [a, b, c])
noncomputable def Nm (x : Str) : Prop := x ∈ names40.map S
set_option maxRecDepth 100000
theorem lev_cost : (names40.all fun x => names40.all fun y => min (levL x y) 3 == costF (S x) (S y)) = true := by kernel_rfl
theorem low_len : (names40.all fun x => names40.all fun y => !(Txt.lower (S x) == Txt.lower (S y)) || x.length == y.length) = true := by kernel_rfl
end
section
noncomputable def idxF (c : Nat → Str → Bool) (xs : List Str) : Nat → List Str
  | 0 => []
  | k + 1 => idxF c xs k ++ (match xs[k]? with | some x => if c k x then [x] else [] | none => [])
theorem idxF_len (c : Nat → Str → Bool) (xs : List Str) : ∀ k, (idxF c xs k).length ≤ k
  | 0 => Nat.le_refl _
  | k + 1 => by
    have := idxF_len c xs k
    simp only [idxF, List.length_append]
    cases xs[k]? with
    | none => simp; omega
    | some x => by_cases h : c k x <;> simp [h] <;> omega
noncomputable def toldM (xs ys : List Str) : List Str := idxF (fun k x => decide (ys.count x < (xs.drop k).count x)) xs xs.length
noncomputable def toldL (xs ys : List Str) : List Str := idxF (fun k y => decide (xs.count y < (ys.take (k + 1)).count y)) ys ys.length
theorem StrsAre.counts {x : Str} : ∀ {vs : List Value} {xs : List Str}, StrsAre vs xs → vs.countP (isS x) = xs.count x
  | _, _, .nil => rfl
  | _, _, .cons a u r => by
    rw [List.countP_cons, List.count_cons, StrsAre.counts r]
    congr 1
section
variable {prog : Program} {w : World} {A : Around} {E : Value → Shared → Prop} {s : Shared}
theorem count_strs {l : Addr} {vs : List Value} {xs : List Str} {x : Str} {t : Tok} {Q : Value → Shared → Prop} (hl : s.heap.IsList l vs.toArray) (hS : StrsAre vs xs) (h : Q (.int (xs.count x : Nat) s.toks) { s with toks := s.toks + 1 }) :
    wpAny (model prog w) A (call (.builtin "list.count") [.ref l, .str x t]) Q E s := by
  obtain ⟨⟨cls, dd, data, sl⟩, ho, hc, n, hd⟩ := id hl
  simp only at hc hd
  subst hc hd
  refine call_meets PySem.F.slot_list_count ⟨_, ho, rfl⟩ PySem.F.entry_list_count (PySem.F.args_list_count_2 _ _) (SeqAt.list_countAt l vs.toArray n dd sl (.str x t) (isS x)) ⟨ho, fun y hy => (StrsAre.eqs hS y (by simpa using hy)).at _ _, ?_⟩
  rw [show vs.toArray.toList = vs from rfl, StrsAre.counts hS]
  exact h
theorem method_list {l : Addr} {its : Array Value} {n : Nat} {name : Str} {id : String} {pl : Sem Bool} {Q : Value × List Value → Shared → Prop} (hl : s.heap.get? l = some (listOf its n)) (slot : Slot "list" name id) (hty : typeOf (.builtin id) = pure (.type "method_descriptor"))
    (h : Q (.builtin id, [.ref l]) s) : wpAny (model prog w) A (getMethod (.ref l) name pl) Q E s :=
  getMethod_builtin ⟨_, hl, rfl⟩ PySem.F.plainAttrs_list slot hty (fun a e => by cases e; exact ⟨_, hl, rfl⟩) h
end
theorem strs_rev : ∀ {vs : List Value} {xs : List Str}, StrsAre vs xs → StrsAre vs.reverse xs.reverse
  | _, _, .nil => .nil
  | _, _, .cons a u r => by
    rw [List.reverse_cons, List.reverse_cons]
    exact (strs_rev r).append' (.cons a u .nil)
section
variable (w : World) (p : Program) (loose : List Str) (mean : ExcName → Option Value) (mg mb : Str → Option Value)
noncomputable def S11 : Cx (Addr × Addr × Nat × Nat × List Value × List Value × List Str × List Str) → Prop := PB (fun _ => True) 4 106 (fun q => [.ref q.1, .ref q.2.1]) (fun q => (fun h => h.get? q.1 = some (listOf q.2.2.2.2.1.toArray q.2.2.1) ∧ h.get? q.2.1 = some (listOf q.2.2.2.2.2.1.toArray q.2.2.2.1) ∧ StrsAre q.2.2.2.2.1 q.2.2.2.2.2.2.1 ∧ StrsAre q.2.2.2.2.2.1 q.2.2.2.2.2.2.2 ∧ q.2.2.2.2.2.2.1.length < 60 ∧ q.2.2.2.2.2.2.2.length < 60 ∧ q.2.2.2.2.2.2.1 ≠ [] ∧ q.2.2.2.2.2.2.2 ≠ [])) (fun q => (fun h v h' => ∃ a objs, v = .ref a ∧ Made h h' objs ∧ DatIn objs (.ref a) (.list [.tuple [.list ((lackS q.2.2.2.2.2.2.1 q.2.2.2.2.2.2.2).map Dat.str), .list ((lackS q.2.2.2.2.2.2.2 q.2.2.2.2.2.2.1).map Dat.str)], .tuple [.list ((toldM q.2.2.2.2.2.2.1 q.2.2.2.2.2.2.2).reverse.map Dat.str), .list ((toldL q.2.2.2.2.2.2.1 q.2.2.2.2.2.2.2).map Dat.str)]])))
@[irreducible] noncomputable def K11 : Cx (Addr × Addr × Nat × Nat × List Value × List Value × List Str × List Str) := Cx.bad (0, 0, 0, 0, [], [], [], []) S11
set_option maxRecDepth 100000 in
set_option maxHeartbeats 8000000 in
theorem told_spec_at : S11 K11 := by
  dsimp only [S11, PB]
  k_fill
  intro _ B F X T hk hpre hdp hun hret
  obtain ⟨hfo, hso, hS, hO, hn1, hn2, hne, hme⟩ := hpre
  have hl : K11.s.heap.IsList K11.x.1 K11.x.2.2.2.2.1.toArray := ⟨_, hfo, rfl, _, rfl⟩
  have ho : K11.s.heap.IsList K11.x.2.1 K11.x.2.2.2.2.2.1.toArray := ⟨_, hso, rfl, _, rfl⟩
  have hlv := hS.len_eq
  have hlu := hO.len_eq
  have hSk : id (StrsAre K11.x.2.2.2.2.1 K11.x.2.2.2.2.2.2.1) := hS
  have hOk : id (StrsAre K11.x.2.2.2.2.2.1 K11.x.2.2.2.2.2.2.2) := hO
  w_top off
  walk_at "pc_enterC"
  o_head !(1, 0)
  rename_i L' hh0 tk0 F0 B0 X0 T0 o1 o2 d1 d2 N0
  refine LCt.Assign_ListComp_T (F₀ := by k_asm) (by rfl) (by with_unfolding_all rfl) (by with_unfolding_all rfl) (by decide) (by rfl) (by decide) (by rfl) (by rfl) (by rfl) ?_
  o_head !(1, 0)
  refine LCt.CompSrcT.range rfl (by k_asm) (by k_asm) (by assumption) (small_one (by omega) (by omega) (by omega) (by omega)) (range0 _) (by rw [sizeLine_eq]; omega) ?_
  intro g
  (try dsimp only)
  refine cr_invT (fun i ws nw => nw = [(L' + 1 + 1, o1), (L' + 1, o2)] ∧ StrsAre ws (idxF (fun k x => decide (K11.x.2.2.2.2.2.2.2.count x < (K11.x.2.2.2.2.2.2.1.drop k).count x)) K11.x.2.2.2.2.2.2.1 i)) ⟨rfl, .nil⟩ ?_ ?_
  · intro i ws nw v I oI C oC D m₂ h tk E' hi hJ hv hC hm F2 N2 off ne
    obtain ⟨t, rfl⟩ := hv
    obtain ⟨rfl, hws⟩ := hJ
    have hi2 : i < K11.x.2.2.2.2.2.2.1.length := by clear off ne; omega
    have offK := off
    simp only [LCg.Off3, and_true] at off
    obtain ⟨tx, hx⟩ := (show StrsAre K11.x.2.2.2.2.1 K11.x.2.2.2.2.2.2.1 from hSk).at (List.getElem?_eq_getElem hi2)
    generalize hxe : K11.x.2.2.2.2.2.2.1[i] = x at hx
    have hxs : K11.x.2.2.2.2.2.2.1[i]? = some x := by rw [← hxe]; exact List.getElem?_eq_getElem hi2
    have hwk : id (StrsAre ws (idxF (fun k x => decide (K11.x.2.2.2.2.2.2.2.count x < (K11.x.2.2.2.2.2.2.1.drop k).count x)) K11.x.2.2.2.2.2.2.1 i)) := hws
    clear hws hret
    rw [Int.zero_add] at hm
    o_head !(2, 0)
    refine slice_from F2 N2 (hl.at fun o e => F2.keep _ o e) (by omega) (by omega) ?_
    intro a9 h9 F9 l9 N9
    (try simp only [Int.toNat_natCast] at N9)
    (try dsimp only)
    o_head !(2, 0)
    refine method_list (N9.get (.head _)) PySem.F.slot_list_count PySem.F.type_list_count ?_
    (try dsimp only)
    o_head !(2, 0)
    have hgd : K11.x.2.2.2.2.2.2.1.getD ((i : Int)).toNat Str.empty = x := by rw [Int.toNat_natCast, List.getD_eq_getElem?_getD, hxs]; rfl
    rw [hgd]
    refine count_strs (N9.isList (.head _)) ((show StrsAre K11.x.2.2.2.2.1 K11.x.2.2.2.2.2.2.1 from hSk).drop' i) ?_
    o_head !(2, 0)
    refine method_list (F9.keep _ _ hso) PySem.F.slot_list_count PySem.F.type_list_count ?_
    (try dsimp only)
    o_head !(2, 0)
    rw [hgd]
    refine count_strs (ho.at fun o e => F9.keep _ o e) hOk ?_
    o_head !(2, 0)
    · rename_i hlt
      refine .intro F9 N9 _ (fun p hp => .tail _ hp) offK trivial ⟨rfl, ?_⟩
      rw [hgd]
      simp only [idxF, hxs]
      rw [if_pos (decide_eq_true (by omega))]
      exact StrsAre.snoc hwk
    · rename_i hlt
      refine .intro F9 N9 _ (fun p hp => .tail _ hp) offK trivial ⟨rfl, ?_⟩
      simp only [idxF, hxs]
      rw [if_neg (by simp only [decide_eq_true_eq]; omega), List.append_nil]
      exact hwk
  · intro ws nw hJ
    obtain ⟨rfl, hws⟩ := hJ
    have hwk : id (StrsAre ws (idxF (fun k x => decide (K11.x.2.2.2.2.2.2.2.count x < (K11.x.2.2.2.2.2.2.1.drop k).count x)) K11.x.2.2.2.2.2.2.1 (((K11.x.2.2.2.2.1.length : Int) - 0).toNat))) := hws
    clear hws
    intro D1 h2 tk2 F2 N2 off2
    (try dsimp only)
    o_head !(1, 0)
    refine LCt.Assign_ListComp_T (F₀ := by k_asm) (by rfl) (by with_unfolding_all rfl) (by with_unfolding_all rfl) (by decide) (by rfl) (by decide) (by rfl) (by rfl) (by rfl) ?_
    o_head !(1, 0)
    refine LCt.CompSrcT.range rfl (by k_asm) (by k_asm) (by assumption) (small_one (by omega) (by omega) (by omega) (by omega)) (range0 _) (by rw [sizeLine_eq]; omega) ?_
    intro g2
    (try dsimp only)
    refine cr_invT (fun i ws2 nw => nw = [(D1, LCg.lst ws), (L' + 1 + 1, o1), (L' + 1, o2)] ∧ StrsAre ws2 (idxF (fun k y => decide (K11.x.2.2.2.2.2.2.1.count y < (K11.x.2.2.2.2.2.2.2.take (k + 1)).count y)) K11.x.2.2.2.2.2.2.2 i)) ⟨rfl, .nil⟩ ?_ ?_
    · intro i ws2 nw v I oI C oC D m₂ h tk E' hi hJ hv hC hm F2 N2 off ne
      obtain ⟨t, rfl⟩ := hv
      obtain ⟨rfl, hws2⟩ := hJ
      have hi2 : i < K11.x.2.2.2.2.2.2.2.length := by clear off ne; omega
      have offK := off
      simp only [LCg.Off3, and_true] at off
      obtain ⟨tx, hx⟩ := (show StrsAre K11.x.2.2.2.2.2.1 K11.x.2.2.2.2.2.2.2 from hOk).at (List.getElem?_eq_getElem hi2)
      generalize hxe : K11.x.2.2.2.2.2.2.2[i] = x at hx
      have hxs : K11.x.2.2.2.2.2.2.2[i]? = some x := by rw [← hxe]; exact List.getElem?_eq_getElem hi2
      have hwk2 : id (StrsAre ws2 (idxF (fun k y => decide (K11.x.2.2.2.2.2.2.1.count y < (K11.x.2.2.2.2.2.2.2.take (k + 1)).count y)) K11.x.2.2.2.2.2.2.2 i)) := hws2
      clear hws2 hret
      rw [Int.zero_add] at hm
      o_head !(2, 0)
      refine slice_upto F2 N2 (ho.at fun o e => F2.keep _ o e) (by omega) (by omega) ?_
      intro a9 h9 F9 l9 N9
      rw [show ((i : Int) + 1).toNat = i + 1 from rfl] at N9
      (try dsimp only)
      o_head !(2, 0)
      refine method_list (N9.get (.head _)) PySem.F.slot_list_count PySem.F.type_list_count ?_
      (try dsimp only)
      o_head !(2, 0)
      have hgd : K11.x.2.2.2.2.2.2.2.getD ((i : Int)).toNat Str.empty = x := by rw [Int.toNat_natCast, List.getD_eq_getElem?_getD, hxs]; rfl
      rw [hgd]
      refine count_strs (N9.isList (.head _)) ((show StrsAre K11.x.2.2.2.2.2.1 K11.x.2.2.2.2.2.2.2 from hOk).take' (i + 1)) ?_
      o_head !(2, 0)
      refine method_list (F9.keep _ _ hfo) PySem.F.slot_list_count PySem.F.type_list_count ?_
      (try dsimp only)
      o_head !(2, 0)
      rw [hgd]
      refine count_strs (hl.at fun o e => F9.keep _ o e) hSk ?_
      o_head !(2, 0)
      · rename_i hlt
        refine .intro F9 N9 _ (fun p hp => .tail _ hp) offK trivial ⟨rfl, ?_⟩
        rw [hgd]
        simp only [idxF, hxs]
        rw [if_pos (decide_eq_true (by omega))]
        exact StrsAre.snoc hwk2
      · rename_i hlt
        refine .intro F9 N9 _ (fun p hp => .tail _ hp) offK trivial ⟨rfl, ?_⟩
        simp only [idxF, hxs]
        rw [if_neg (by simp only [decide_eq_true_eq]; omega), List.append_nil]
        exact hwk2
    · intro ws2 nw hJ
      obtain ⟨rfl, hws2⟩ := hJ
      have hwk2 : id (StrsAre ws2 (idxF (fun k y => decide (K11.x.2.2.2.2.2.2.1.count y < (K11.x.2.2.2.2.2.2.2.take (k + 1)).count y)) K11.x.2.2.2.2.2.2.2 (((K11.x.2.2.2.2.2.1.length : Int) - 0).toNat))) := hws2
      clear hws2
      intro D2 h4 tk4 F4 N4 off4
      (try dsimp only)
      o_head !(1, 0)
      have hp1 : h4.IsList K11.x.1 K11.x.2.2.2.2.1.toArray ∧ h4.IsList K11.x.2.1 K11.x.2.2.2.2.2.1.toArray ∧ StrsAre K11.x.2.2.2.2.1 K11.x.2.2.2.2.2.2.1 ∧ StrsAre K11.x.2.2.2.2.2.1 K11.x.2.2.2.2.2.2.2 ∧ K11.x.2.2.2.2.2.2.1.length < 60 ∧ K11.x.2.2.2.2.2.2.2.length < 60 ∧ K11.x.2.2.2.2.2.2.2 ≠ [] := ⟨hl.at fun o e => F4.keep _ o e, ho.at fun o e => F4.keep _ o e, hSk, hOk, hn1, hn2, hme⟩
      o_head (lacking_spec K11.w K11.p K11.loose K11.mean K11.mg K11.mb K11.x.1 K11.x.2.1 K11.x.2.2.2.2.1 K11.x.2.2.2.2.2.1 K11.x.2.2.2.2.2.2.1 K11.x.2.2.2.2.2.2.2)
      rename_i v5 h5 tk5 K5 P5 F5 N5
      obtain ⟨a1, ob1, rfl, M1, DD1⟩ := P5
      have N6 := made_news F4 N5 M1
      clear N5 F4 N4 hp1
      (try dsimp only)
      o_head !(2, 0)
      have hp2 : h5.IsList K11.x.2.1 K11.x.2.2.2.2.2.1.toArray ∧ h5.IsList K11.x.1 K11.x.2.2.2.2.1.toArray ∧ StrsAre K11.x.2.2.2.2.2.1 K11.x.2.2.2.2.2.2.2 ∧ StrsAre K11.x.2.2.2.2.1 K11.x.2.2.2.2.2.2.1 ∧ K11.x.2.2.2.2.2.2.2.length < 60 ∧ K11.x.2.2.2.2.2.2.1.length < 60 ∧ K11.x.2.2.2.2.2.2.1 ≠ [] := ⟨ho.at fun o e => F5.keep _ o e, hl.at fun o e => F5.keep _ o e, hOk, hSk, hn2, hn1, hne⟩
      o_head (lacking_spec K11.w K11.p K11.loose K11.mean K11.mg K11.mb K11.x.2.1 K11.x.1 K11.x.2.2.2.2.2.1 K11.x.2.2.2.2.1 K11.x.2.2.2.2.2.2.2 K11.x.2.2.2.2.2.2.1)
      rename_i v7 h7 tk7 K7 P7 F7 N7
      obtain ⟨a2, ob2, rfl, M2, DD2⟩ := P7
      have N8 := made_news F5 N7 M2
      clear N7 F5 N6 hp2
      (try dsimp only)
      o_head !(2, 0)
      rename_i T1 h9 F9 N9 l9
      have hwk' : StrsAre ws (toldM K11.x.2.2.2.2.2.2.1 K11.x.2.2.2.2.2.2.2) := by
        have : K11.x.2.2.2.2.1.length = K11.x.2.2.2.2.2.2.1.length := by omega
        rw [this] at hwk; exact hwk
      have hwk2' : StrsAre ws2 (toldL K11.x.2.2.2.2.2.2.1 K11.x.2.2.2.2.2.2.2) := by
        have : K11.x.2.2.2.2.2.1.length = K11.x.2.2.2.2.2.2.2.length := by omega
        rw [this] at hwk2; exact hwk2
      have hwl : ws.length < 60 := by rw [hwk'.len_eq]; exact Nat.lt_of_le_of_lt (idxF_len _ _ _) hn1
      have hD1 : h9.IsList D1 ws.toArray := ⟨LCg.lst ws, (N9 (D1, LCg.lst ws) (.tail _ (List.mem_append_right _ (List.mem_append_right _ (.tail _ (.head _)))))).1, rfl, _, rfl⟩
      refine krv_lit F9 N9 hD1 (.int _ _) rfl ?_ (by with_unfolding_all rfl) (by intro _; with_unfolding_all rfl) (by rw [List.size_toArray, sizeLine_eq]; omega)
      intro D10 h10 F10 N10 l10
      clear F9 N9
      (try dsimp only)
      o_head !(2, 0)
      rename_i T2 hh2 tl2 Dl hh3 Fl Nl ll
      refine hret _ _ _ (Fr.keep (h₀ := K11.s.heap) Fl) ⟨Dl, _, rfl, news_made Nl (fun _ h => h), ?_⟩
      refine .list (vs := [.ref T1, .ref T2]) (n := 0) (.head _) (.cons (.tuple (vs := [.ref a1, .ref a2]) (n := 0) ?_ (.cons (DD1.mono ?_) (.cons (DD2.mono ?_) .nil))) (.cons (.tuple (vs := [.ref D10, .ref D2]) (n := 0) ?_ (.cons (.list (n := 0) ?_ (strs_dat (strs_rev hwk'))) (.cons (.list (n := ws2.length) ?_ (strs_dat hwk2')) .nil))) .nil))
      · simp
      · intro q hq; simp [hq]
      · intro q hq; simp [hq]
      · simp
      · simp
      · exact .tail _ (.tail _ (.tail _ (.tail _ (List.mem_append_right _ (List.mem_append_right _ (.head _))))))
theorem told_spec (fa sa : Addr) (fn sn : Nat) (vs us : List Value) (xs ys : List Str) :
    PClaim w p loose mean mg mb 4 106 [.ref fa, .ref sa] (fun h => h.get? fa = some (listOf vs.toArray fn) ∧ h.get? sa = some (listOf us.toArray sn) ∧ StrsAre vs xs ∧ StrsAre us ys ∧ xs.length < 60 ∧ ys.length < 60 ∧ xs ≠ [] ∧ ys ≠ [])
      (fun h v h' => ∃ a objs, v = .ref a ∧ Made h h' objs ∧ DatIn objs (.ref a) (.list [.tuple [.list ((lackS xs ys).map Dat.str), .list ((lackS ys xs).map Dat.str)], .tuple [.list ((toldM xs ys).reverse.map Dat.str), .list ((toldL xs ys).map Dat.str)]])) :=
  PB.claim (by unfold K11; rfl) told_spec_at (fa, sa, fn, sn, vs, us, xs, ys) w p loose mean mg mb fun _ _ _ _ _ _ _ _ _ _ _ _ _ _ _ _ _ => trivial
end
end
section
noncomputable abbrev xScope (a x g : Str) (b c : Bool) (mo : List (Str × Const)) : Scope := { kind := .function, names := [(a, .local), (x, .cell), (g, .globalImplicit)], isGenerator := b, isCoroutine := c, more := mo }
noncomputable abbrev xEnv (sc : Scope) (x : Str) (C K : Addr) (env : Env) : Env := compEnvC sc [(x, K)] C env
section
variable {M : Model} {A : Around} {E : Value → Shared → Prop} {s : Shared} {env : Env}
theorem newEnv_x {a x g : Str} {b c : Bool} {mo : List (Str × Const)} {Q : Env → Shared → Prop}
    (h : ∀ ce : Env, ce = { scope := xScope a x g b c mo, locals := s.heap.objs.size, globals := env.globals, cells := [(x, s.heap.objs.size + 1)], qual := env.qual, func := none, code := env.code, frame := env.frame, builtins := env.builtins } →
      Q ce { s with heap := (s.heap.push { cls := .type "dict", data := .dict #[] }).push { cls := .type "cell", data := .cell none } }) :
    wpAny M A (newFunctionEnv (xScope a x g b c mo) env.globals [] [] env.qual none .none (some env)) Q E s := by
  simp only [newFunctionEnv, Option.isSome_some, if_true]
  refine wpAny_bind (wpAny_alloc ?_)
  simp only [List.forIn_cons, List.forIn_nil]
  refine wpAny_bind ?_
  refine wpAny_bind (wpAny_bind (wpAny_pure (wpAny_pure ?_)))
  refine wpAny_bind ?_
  rw [if_pos (by rfl)]
  refine wpAny_bind (wpAny_alloc (wpAny_pure ?_))
  dsimp only
  refine wpAny_bind ?_
  rw [if_neg (by decide)]
  refine wpAny_pure (wpAny_pure ?_)
  refine wpAny_bind (wpAny_pure (wpAny_pure ?_))
  rw [show (s.heap.push { cls := Value.type "dict", data := Data.dict #[] }).objs.size = s.heap.objs.size + 1 from Heap.size_push ..]
  exact h _ rfl
end
noncomputable def SrcX (prog : Program) (w : World) (A : Around) (env : Env) (h₀ : Heap) (L : Addr) (m : Str → Option Value) (elt : Expr) (sc : Scope) (x : Str) (f : Nat → Str) (Q : Value → Shared → Prop) (xv : Value) (s₁ : Shared) : Prop :=
  ∃ (ax : Addr) (vs : List Value) (n : Nat) (news : List (Addr × Obj)), xv = .ref ax ∧ A.handled = none ∧ Fr h₀ L s₁.heap m ∧ News h₀ L s₁.heap news ∧ (ax, listOf vs.toArray n) ∈ news ∧ vs.length < 1000 ∧
      (∀ (i : Nat) (v : Value) (I C K D : Addr) (oI oC oK : Obj) (ys : List Value) (h : Heap) (tk : Nat) (E' : Value → Shared → Prop), vs[i]? = some v → oK.data = .cell (some v) → Fr h₀ L h m → News h₀ L h ((I, oI) :: (C, oC) :: (K, oK) :: (D, LCg.lst ys) :: news) →
        wpAny (model prog w) A (eval elt (xEnv sc x C K env)) (fun y s' => ∃ h' tk' t, y = .str (f i) t ∧ s' = { s₁ with heap := h', toks := tk' } ∧ Fr h₀ L h' m ∧ News h₀ L h' ((I, oI) :: (C, oC) :: (K, oK) :: (D, LCg.lst ys) :: news)) E' { s₁ with heap := h, toks := tk }) ∧
      (∀ D ys h tk, Fr h₀ L h m → News h₀ L h ((D, LCg.lst ys) :: news) → StrsAre ys ((List.range vs.length).map f) → Q (.ref D) { s₁ with heap := h, toks := tk })
section
variable {prog : Program} {w : World} {A : Around} {E : Value → Shared → Prop} {s : Shared} {env : Env} {h₀ : Heap} {L : Addr} {m : Str → Option Value}
set_option maxRecDepth 100000 in
set_option maxHeartbeats 4000000 in
theorem ListComp_X {elt iter : Expr} {a x g : Str} {b c : Bool} {mo : List (Str × Const)} {px pos : Pos} {Q : Value → Shared → Prop} (_F₀ : Fr h₀ L s.heap m) (f : Nat → Str)
    (hxa : (x == a) = false) 
    (h : wpAny (model prog w) A (eval iter env) (SrcX prog w A env h₀ L m elt (xScope a x g b c mo) x f Q) E s)
    (hs : ∀ x, foldedSetIterable iter env x = pure x := by intro _; rfl) :
    wpAny (model prog w) A (eval (.ListComp elt [⟨.Name x px, iter, [], 0⟩] (xScope a x g b c mo) pos) env) Q E s := by
  rw [eval_ListComp]
  refine wpAny_comprehension_free (cl := []) (use := none) rfl hs (by simp [closureFor, List.forIn_cons]) rfl ?_ (wpAny_mono h (fun xv s₁ h₁ => ?_) fun _ _ e => e)
  · intro y hy hl
    rcases List.mem_cons.mp hy with rfl | hy
    · simp
    rcases List.mem_cons.mp hy with rfl | hy
    · cases hl
    · rw [List.mem_singleton.mp hy] at hl; cases hl
  obtain ⟨ax, vs, n, news, rfl, hh, F, N, hax, hsz, turn, fin⟩ := h₁
  have hl : s₁.heap.IsList ax vs.toArray := N.isList hax
  have hlt : ax < s₁.heap.objs.size := Heap.lt_size (N _ hax).1
  have hfresh : ∀ k, s₁.heap.objs.size ≤ k → h₀.get? k = none := fun k hk => none_of_keeps F.keep (Heap.get?_none_of_le hk)
  have hLlt : L < s₁.heap.objs.size := F.ns.lt
  have hnlt : ∀ p ∈ news, p.1 < s₁.heap.objs.size := fun p hp => Heap.lt_size (N p hp).1
  have hkC : (xEnv (xScope a x g b c mo) x (s₁.heap.objs.size + 2) (s₁.heap.objs.size + 3) env).kindOf x = some .cell := by
    simp [compEnvC, Env.kindOf, relabel, List.lookup_cons, hxa]
  have W := Walks.list (prog := prog) (w := w) hh s₁.heap.objs.size ax (Nat.ne_of_lt hlt) vs.toArray
  have key : ∀ (H : Heap) (tk : Nat), H.IsListIter s₁.heap.objs.size ax 0 → H.get? (s₁.heap.objs.size + 1) = some (LCg.lst []) → H.get? (s₁.heap.objs.size + 2) = some { cls := .type "dict", data := .dict #[] } →
      H.get? (s₁.heap.objs.size + 3) = some { cls := .type "cell", data := .cell none } → (∀ b o, s₁.heap.get? b = some o → H.get? b = some o) →
      codeAny (model prog w) A (.compLoop (.ListComp elt [⟨.Name x px, iter, [], 0⟩] (xScope a x g b c mo) pos) 0 (.ref s₁.heap.objs.size) (.ref (s₁.heap.objs.size + 1)) (xEnv (xScope a x g b c mo) x (s₁.heap.objs.size + 2) (s₁.heap.objs.size + 3) env))
        (compPost (model prog w) A E none Q (.ref (s₁.heap.objs.size + 1)) (s₁.heap.objs.size + 2)) { s₁ with heap := H, toks := tk } := by
    intro H tk hI hD hC hK old
    generalize s₁.heap.objs.size = n0 at *
    refine codeAny_compLoop_tests
      (fun k s' => ∃ h' tk i ys oK cv, s' = { s₁ with heap := h', toks := tk } ∧ i ≤ vs.length ∧ k = vs.length + 1 - i ∧ ys.length = i ∧ (h'.IsListIter n0 ax i ∧ h'.IsList ax vs.toArray) ∧ Fr h₀ L h' m ∧ oK.data = .cell cv ∧
        News h₀ L h' ((n0 + 2, { cls := .type "dict", data := .dict #[] }) :: (n0 + 3, oK) :: (n0 + 1, LCg.lst ys) :: news) ∧ StrsAre ys ((List.range i).map f)) ?_ (vs.length + 1)
      ⟨H, tk, 0, [], { cls := .type "cell", data := .cell none }, none, rfl, Nat.zero_le _, rfl, rfl, ⟨hI, hl.at fun o e => old _ o e⟩, F.keeps old, rfl, ?_, .nil⟩
    · rintro k s' ⟨h', tk', i, ys, oK, cv, rfl, hi, rfl, hyl, hst, F', hoK, N', hys⟩
      have hLI : (@Ne Nat L n0) := Nat.ne_of_lt hLlt
      have hI0 : h₀.get? n0 = none := hfresh _ (Nat.le_refl _)
      have hnI : ∀ p ∈ (n0 + 2, ({ cls := .type "dict", data := .dict #[] } : Obj)) :: (n0 + 3, oK) :: (n0 + 1, LCg.lst ys) :: news, p.1 ≠ n0 := by
        intro p hp
        rcases List.mem_cons.mp hp with rfl | hp
        · exact Nat.ne_of_gt (Nat.lt_add_of_pos_right (by decide))
        rcases List.mem_cons.mp hp with rfl | hp
        · exact Nat.ne_of_gt (Nat.lt_add_of_pos_right (by decide))
        rcases List.mem_cons.mp hp with rfl | hp
        · exact Nat.ne_of_gt (Nat.lt_add_of_pos_right (by decide))
        · exact Nat.ne_of_lt (hnlt p hp)
      by_cases hlt2 : i < vs.length
      · refine W.item i _ _ _ (by simpa using hlt2) hst fun v h₂ tk₂ hPv hst₂ hk₂ => ?_
        have hv : vs[i]? = some v := by simpa using hPv
        have F₂ := LCg.fr_but F' hk₂ hLI hI0
        have N₂ := LCg.news_but N' hk₂ hnI
        refine wpAny_assign_Name (wpAny_storeName_cell (c := n0 + 3) (by rfl) hkC (by simp [compEnvC, List.lookup_cons]) ⟨oK, (N₂ _ (.tail _ (.head _))).1, hoK⟩ fun h₃ hcv hs₃ => ?_)
        refine wpAny_tests_nil ?_
        simp only [if_true]
        obtain ⟨oK', hK', hdK'⟩ := hcv
        have F₃ := F₂.update N₂ (.tail _ (.head _)) hs₃
        have hst₃ : h₃.IsListIter n0 ax (i + 1) ∧ h₃.IsList ax vs.toArray := W.frame _ _ _ hst₂ fun b hb o e => by
          refine (hs₃.2 b ?_).trans e
          rcases List.mem_cons.mp hb with rfl | hb
          · exact Nat.ne_of_lt (Nat.lt_add_of_pos_right (by decide))
          · rw [List.mem_singleton.mp hb]; exact Nat.ne_of_lt (Nat.lt_of_lt_of_le hlt (Nat.le_add_right _ _))
        obtain ⟨⟨oI, hoI, hI1⟩, hl3⟩ := id hst₃
        have N₃ : News h₀ L h₃ ((n0, oI) :: (n0 + 2, { cls := .type "dict", data := .dict #[] }) :: (n0 + 3, oK') :: (n0 + 1, LCg.lst ys) :: news) := by
          intro p hp
          rcases List.mem_cons.mp hp with rfl | hp
          · exact ⟨hoI, Ne.symm hLI, hI0⟩
          rcases List.mem_cons.mp hp with rfl | hp
          · exact ⟨(hs₃.2 _ (Nat.ne_of_lt (Nat.lt_succ_self _))).trans (N₂ _ (.head _)).1, (N₂ _ (.head _)).2⟩
          rcases List.mem_cons.mp hp with rfl | hp
          · exact ⟨hK', (N₂ (n0 + 3, oK) (.tail _ (.head _))).2⟩
          rcases List.mem_cons.mp hp with rfl | hp
          · exact ⟨(hs₃.2 _ (Nat.ne_of_lt (by omega))).trans (N₂ (n0 + 1, LCg.lst ys) (.tail _ (.tail _ (.head _)))).1, (N₂ (n0 + 1, LCg.lst ys) (.tail _ (.tail _ (.head _)))).2⟩
          · have := N₂ p (.tail _ (.tail _ (.tail _ hp)))
            exact ⟨(hs₃.2 _ (Nat.ne_of_lt (Nat.lt_of_lt_of_le (hnlt p hp) (Nat.le_add_right _ _)))).trans this.1, this.2⟩
        refine wpAny_mono (turn i v n0 (n0 + 2) (n0 + 3) (n0 + 1) oI _ oK' ys h₃ _ _ hv hdK' F₃ N₃) (fun y s₄ h₄ => ?_) fun _ _ e => e
        obtain ⟨h₄, tk₄, t, rfl, rfl, F₄, N₄⟩ := h₄
        have zI := (N₄ (n0, oI) (.head _)).1
        have zD := N₄ (n0 + 1, LCg.lst ys) (.tail _ (.tail _ (.tail _ (.head _))))
        refine append_at (hsz := by show ys.toArray.size ≤ sizeLine; rw [List.size_toArray, hyl, sizeLine_eq]; omega) zD.1 fun h₅ hs₅ hD₅ => ?_
        refine ⟨vs.length + 1 - (i + 1), by omega, h₅, tk₄, i + 1, ys ++ [.str (f i) t], oK', some v, rfl, hlt2, rfl, by simp [hyl], ?_, F₄.update N₄ (.tail _ (.tail _ (.tail _ (.head _)))) hs₅, hdK', ?_, ?_⟩
        · have hl4 : h₄.IsList ax vs.toArray := (N₄.isList (.tail _ (.tail _ (.tail _ (.tail _ hax)))))
          exact ⟨⟨oI, (hs₅.2 _ (Nat.ne_of_lt (Nat.lt_succ_self _))).trans zI, hI1⟩, hl4.at fun o e => (hs₅.2 _ (Nat.ne_of_lt (Nat.lt_succ_of_lt hlt))).trans e⟩
        · intro p hp
          rcases List.mem_cons.mp hp with rfl | hp
          · have := N₄ (n0 + 2, { cls := .type "dict", data := .dict #[] }) (.tail _ (.head _))
            exact ⟨(hs₅.2 _ (Nat.ne_of_gt (Nat.lt_succ_self _))).trans this.1, this.2⟩
          rcases List.mem_cons.mp hp with rfl | hp
          · have := N₄ (n0 + 3, oK') (.tail _ (.tail _ (.head _)))
            exact ⟨(hs₅.2 _ (Nat.ne_of_gt (by omega))).trans this.1, this.2⟩
          rcases List.mem_cons.mp hp with rfl | hp
          · exact ⟨hD₅.trans (congrArg some (LCg.lst_snoc ys _)), zD.2⟩
          · have := N₄ p (.tail _ (.tail _ (.tail _ (.tail _ hp))))
            exact ⟨(hs₅.2 _ (Nat.ne_of_lt (Nat.lt_succ_of_lt (hnlt p hp)))).trans this.1, this.2⟩
        · rw [List.range_succ, List.map_append]
          exact hys.append' (.cons _ _ .nil)
      · obtain rfl : i = vs.length := Nat.le_antisymm hi (Nat.not_lt.mp hlt2)
        have hst' := hst
        refine W.done _ _ _ (by simpa using hst') fun h₂ tk₂ hk₂ => ?_
        have F₂ := LCg.fr_but F' hk₂ hLI hI0
        have N₂ := LCg.news_but N' hk₂ hnI
        have zC := N₂ (n0 + 2, { cls := .type "dict", data := .dict #[] }) (.head _)
        refine ⟨_, ⟨_, _, _, zC.1, rfl, (fun e he => by simp at he), fun _ => rfl⟩, fun h'' hs'' => ?_⟩
        refine fin (n0 + 1) ys h'' tk₂ (F₂.update N₂ (.head _) hs'') (fun p hp => ?_) hys
        rcases List.mem_cons.mp hp with rfl | hp
        · have := N₂ (n0 + 1, LCg.lst ys) (.tail _ (.tail _ (.head _)))
          exact ⟨(hs''.2 _ (Nat.ne_of_lt (Nat.lt_succ_self _))).trans this.1, this.2⟩
        · have := N₂ p (.tail _ (.tail _ (.tail _ hp)))
          exact ⟨(hs''.2 _ (Nat.ne_of_lt (Nat.lt_of_lt_of_le (hnlt p hp) (Nat.le_add_right _ _)))).trans this.1, this.2⟩
    · intro p hp
      have lt : ∀ k, n0 ≤ k → (@Ne Nat k L) := fun k hk => Nat.ne_of_gt (Nat.lt_of_lt_of_le hLlt hk)
      rcases List.mem_cons.mp hp with rfl | hp
      · exact ⟨hC, lt _ (by omega), hfresh _ (by omega)⟩
      rcases List.mem_cons.mp hp with rfl | hp
      · exact ⟨hK, lt _ (by omega), hfresh _ (by omega)⟩
      rcases List.mem_cons.mp hp with rfl | hp
      · exact ⟨hD, lt _ (by omega), hfresh _ (by omega)⟩
      · exact ⟨old _ _ (N p hp).1, (N p hp).2⟩
  refine wpAny_pyIter_list hl ?_
  refine wpAny_newObj_type (newEnv_x fun ce hce => ?_)
  subst hce
  simp only [Heap.size_push]
  have lift : ∀ {h : Heap} {o o' : Obj} {b : Addr}, h.get? b = some o → (h.push o').get? b = some o := fun e => Heap.get?_push_of_some _ e
  have g0 : ∀ b o, s₁.heap.get? b = some o → ((((s₁.heap.push { cls := .type "list_iterator", data := .fields #[.ref ax, .int 0 0] }).push (LCg.lst [])).push { cls := .type "dict", data := .dict #[] }).push { cls := .type "cell", data := .cell none }).get? b = some o := fun b o e => lift (lift (lift (lift e)))
  have gI : ((((s₁.heap.push { cls := .type "list_iterator", data := .fields #[.ref ax, .int 0 0] }).push (LCg.lst [])).push { cls := .type "dict", data := .dict #[] }).push { cls := .type "cell", data := .cell none }).IsListIter s₁.heap.objs.size ax 0 := ⟨_, lift (lift (lift (Heap.get?_push_size _ rfl))), rfl, rfl⟩
  have gD : ((((s₁.heap.push { cls := .type "list_iterator", data := .fields #[.ref ax, .int 0 0] }).push (LCg.lst [])).push { cls := .type "dict", data := .dict #[] }).push { cls := .type "cell", data := .cell none }).get? (s₁.heap.objs.size + 1) = some (LCg.lst []) := by
    have := Heap.get?_push_size (s₁.heap.push { cls := .type "list_iterator", data := .fields #[.ref ax, .int 0 0] }) (o := LCg.lst []) rfl
    rw [Heap.size_push] at this
    exact lift (lift this)
  have gC : ((((s₁.heap.push { cls := .type "list_iterator", data := .fields #[.ref ax, .int 0 0] }).push (LCg.lst [])).push { cls := .type "dict", data := .dict #[] }).push { cls := .type "cell", data := .cell none }).get? (s₁.heap.objs.size + 2) = some { cls := .type "dict", data := .dict #[] } := by
    have := Heap.get?_push_size ((s₁.heap.push { cls := .type "list_iterator", data := .fields #[.ref ax, .int 0 0] }).push (LCg.lst [])) (o := { cls := .type "dict", data := .dict #[] }) rfl
    simp only [Heap.size_push] at this
    exact lift this
  have gK : ((((s₁.heap.push { cls := .type "list_iterator", data := .fields #[.ref ax, .int 0 0] }).push (LCg.lst [])).push { cls := .type "dict", data := .dict #[] }).push { cls := .type "cell", data := .cell none }).get? (s₁.heap.objs.size + 3) = some { cls := .type "cell", data := .cell none } := by
    have := Heap.get?_push_size (((s₁.heap.push { cls := .type "list_iterator", data := .fields #[.ref ax, .int 0 0] }).push (LCg.lst [])).push { cls := .type "dict", data := .dict #[] }) (o := { cls := .type "cell", data := .cell none }) rfl
    simp only [Heap.size_push] at this
    exact this
  have fin := key _ s₁.toks gI gD gC gK g0
  exact codeAny_compStart_list fin (W.self 0 _ _ _ ⟨gI, hl.at fun o e => g0 _ o e⟩ fin)
end
end
section
noncomputable def chF (x : Int) (k : Nat) : Str := Txt.item (Str.ofString "aAb") (((x.fdiv 4).fdiv (3 ^ k)).fmod 3)
noncomputable def nameF (x : Int) : Str := Txt.join (Str.ofString "") ((List.range (x.fmod 4).toNat).map (chF x))
theorem fmod3 (y : Int) : y.fmod 3 = 0 ∨ y.fmod 3 = 1 ∨ y.fmod 3 = 2 := by
  have h1 := Int.fmod_nonneg_of_pos y (show (0 : Int) < 3 by decide)
  have h2 := Int.fmod_lt_of_pos y (show (0 : Int) < 3 by decide)
  omega
theorem chF_is (x : Int) (k : Nat) : chF x k = S [97] ∨ chF x k = S [65] ∨ chF x k = S [98] := by
  unfold chF
  rcases fmod3 ((x.fdiv 4).fdiv (3 ^ k)) with h | h | h <;> rw [h]
  · left; rfl
  · right; left; rfl
  · right; right; rfl
theorem sum_chF (x : Int) : ∀ l : List Nat, ((l.map (chF x)).map (·.length)).sum = l.length
  | [] => rfl
  | k :: l => by
    have : (chF x k).length = 1 := by rcases chF_is x k with h | h | h <;> rw [h] <;> rfl
    simp only [List.map_cons, List.sum_cons, sum_chF x l, this, List.length_cons]
    omega
noncomputable def namesOf (ns : List Int) : List Str := (ns.take 3 ++ [2, 18, 26, 63, 9, 0]).map nameF
theorem ints_app : ∀ {vs : List Value} {ns : List Int} {us : List Value} {ms : List Int}, IntsAre vs ns → IntsAre us ms → IntsAre (vs ++ us) (ns ++ ms)
  | _, _, _, _, .nil, h => h
  | _, _, _, _, .cons n t r, h => .cons n t (ints_app r h)
theorem ints_take : ∀ {vs : List Value} {ns : List Int}, IntsAre vs ns → ∀ k, IntsAre (vs.take k) (ns.take k)
  | _, _, .nil, k => by simp; exact .nil
  | _, _, .cons n t r, 0 => by simp; exact .nil
  | _, _, .cons n t r, k + 1 => .cons n t (ints_take r k)
theorem ints_item : ∀ {vs : List Value} {ns : List Int}, IntsAre vs ns → ∀ (i : Nat) (v : Value), vs[i]? = some v → ∃ n t, v = .int n t ∧ ns[i]? = some n
  | _, _, .nil, i, v, h => by simp at h
  | _, _, .cons n t r, 0, v, h => by simp at h; exact ⟨n, t, h.symm, by simp⟩
  | _, _, .cons n t r, i + 1, v, h => by
    obtain ⟨m, u, e, h'⟩ := ints_item r i v (by simpa using h)
    exact ⟨m, u, e, by simpa using h'⟩
theorem lt3 {i : Nat} (h : i < 3) : i = 0 ∨ i = 1 ∨ i = 2 := by omega
theorem range_map_getD {α : Type} (f : Int → α) (l : List Int) : (List.range l.length).map (fun i => f (l.getD i 0)) = l.map f := by
  apply List.ext_getElem
  · simp
  · intro i h1 h2
    simp [List.getD_eq_getElem?_getD, List.getElem?_eq_getElem (show i < l.length by simpa using h1)]
noncomputable def S12 : Cx (Addr × List Value × List Int) → Prop := PB (fun _ => True) 2 70 (fun x => [.ref x.1]) (fun x h => h.IsList x.1 x.2.1.toArray ∧ IntsAre x.2.1 x.2.2 ∧ x.2.2.length < 100)
  (fun x h v h' => ∃ a ys, v = .ref a ∧ Made h h' [(a, LCg.lst ys)] ∧ StrsAre ys (namesOf x.2.2))
@[irreducible] noncomputable def K12 : Cx (Addr × List Value × List Int) := Cx.bad (0, [], []) S12
set_option maxRecDepth 100000 in
set_option maxHeartbeats 8000000 in
theorem names_at : S12 K12 := by
  dsimp only [S12, PB]
  k_fill
  intro _ B F X T hk hpre hdp hun hret
  obtain ⟨hl, hI, hn⟩ := hpre
  have hlen := hI.length
  w_top off
  walk_at "pc_enter"
  o_head !(1, 0)
  rename_i L' h0 F0 N0 B0 X0 T0
  refine ListComp_X F0 (fun i => nameF ((K12.x.2.2.take 3 ++ [2, 18, 26, 63, 9, 0]).getD i 0)) (by decide) ?_
  o_head !(1, 0)
  rename_i a1 _ _ a2 _ F1 N1 l1 a3 h3 F3 l3 N3
  have hIA : ∀ t1 t2 t3 t4 t5 t6, IntsAre (K12.x.2.1.take (Int.toNat 3) ++ [.int 2 t1, .int 18 t2, .int 26 t3, .int 63 t4, .int 9 t5, .int 0 t6]) (K12.x.2.2.take 3 ++ [2, 18, 26, 63, 9, 0]) := fun _ _ _ _ _ _ => ints_app (ints_take hI 3) (.cons _ _ (.cons _ _ (.cons _ _ (.cons _ _ (.cons _ _ (.cons _ _ .nil))))))
  refine ⟨a3, _, 0, _, rfl, rfl, F3, N3, .head _, by simp; omega, ?_, ?_⟩
  · intro i v I C K D oI oC oK ys h tk E' hv hoK F4 N4
    obtain ⟨x, t, rfl, hx⟩ := ints_item (hIA _ _ _ _ _ _) i v hv
    have hf : (K12.x.2.2.take 3 ++ [2, 18, 26, 63, 9, 0]).getD i 0 = x := by rw [List.getD_eq_getElem?_getD, hx]; rfl
    (try dsimp only)
    rw [hf]
    clear hv hIA N3 F3 l3 F1 N1 l1 hret hx hf
    dsimp only [xEnv, xScope] at *
    o_head !(1, 0)
    refine LCg.ListComp_U (F₀ := F4) (by with_unfolding_all rfl) (by decide) (by rfl) (by decide) (by rfl) ?_
    o_head !(1, 0)
    rename_i hmod hr _ _ _
    obtain ⟨n, hn4, hlt⟩ : ∃ n : Nat, x.fmod 4 = (n : Int) ∧ n < 4 := ⟨(x.fmod 4).toNat, by have := Int.fmod_nonneg_of_pos x (show (0 : Int) < 4 by decide); omega, by have := Int.fmod_lt_of_pos x (show (0 : Int) < 4 by decide); omega⟩
    rw [hn4] at hr
    refine LCg.CompSrc.range rfl (by k_asm) (by k_asm) hr (small_one (by omega) (by omega) (by omega) (by omega)) (rangeSize_nat _ _) (by rw [sizeLine_eq]; omega) ?_
    intro g
    (try dsimp only)
    refine cr_inv (fun i ws nw => nw = [(I, oI), (C, oC), (K, oK), (D, LCg.lst ys), (a3, _), (a2, _), (a1, _)] ∧ StrsAre ws ((List.range i).map (chF x))) ⟨rfl, .nil⟩ ?_ ?_
    · intro i ws nw v I2 oI2 C2 oC2 D2 m₂ h2 tk2 E2 hi hJ hv hC2 hm F2 N2 off ne
      obtain ⟨t2, rfl⟩ := hv
      obtain ⟨rfl, hws⟩ := hJ
      have offK := off
      clear off ne
      rw [Int.zero_add] at hm
      have hi3 := lt3 (Nat.lt_of_lt_of_le (show i < n by simpa using hi) (Nat.le_of_lt_succ hlt))
      clear hi hr hmod
      rcases hi3 with rfl | rfl | rfl
      all_goals (
        o_head !(1, 0)
        rename_i kl
        refine LCg.CompEnd.intro F2 N2 _ (fun _ h => h) offK trivial ⟨rfl, ?_⟩
        rw [List.range_succ, List.map_append]
        exact hws.append' (.cons _ _ .nil))
    · intro ws nw hJ
      obtain ⟨rfl, hws⟩ := hJ
      intro D2 h2 tk2 F2 N2 off2
      (try dsimp only)
      o_head !(1, 0)
      have hD2 : h2.IsList D2 ws.toArray := ⟨LCg.lst ws, (N2 _ (.head _)).1, rfl, _, rfl⟩
      have hws2 : StrsAre ws.toArray.toList ((List.range (x.fmod 4).toNat).map (chF x)) := by
        have e : (((n : Int) - 0).toNat) = (x.fmod 4).toNat := by rw [hn4]; simp
        rw [e] at hws; exact hws
      refine join_list hD2 hws2 ?_ ?_
      · rw [sum_chF, List.length_map, List.length_range, show (Str.ofString "").length = 0 from rfl, hn4]
        simp only [Int.toNat_natCast]
        exact Nat.le_trans (show n + n * 0 ≤ 4 by rw [Nat.mul_zero]; exact Nat.le_of_lt hlt) (by decide)
      intro t' k
      exact ⟨h2, k, t', rfl, rfl, F2, fun p hp => N2 p (.tail _ hp)⟩
  · intro D ys h tk F4 N4 hys
    (try dsimp only)
    o_head !(1, 0)
    refine hret _ _ _ (Fr.keep (h₀ := K12.s.heap) F4) ⟨D, ys, rfl, news_made N4 (fun p hp => by rw [List.mem_singleton.mp hp]; exact .head _), ?_⟩
    rw [(hIA _ _ _ _ _ _).length, range_map_getD] at hys
    exact hys
theorem names_spec (w : World) (p : Program) (loose : List Str) (mean : ExcName → Option Value) (mg mb : Str → Option Value) (sc : Addr) (vs : List Value) (ns : List Int) :
    PClaim w p loose mean mg mb 2 70 [.ref sc] (fun h => h.IsList sc vs.toArray ∧ IntsAre vs ns ∧ ns.length < 100)
      (fun h v h' => ∃ a ys, v = .ref a ∧ Made h h' [(a, LCg.lst ys)] ∧ StrsAre ys (namesOf ns)) :=
  PB.claim (by unfold K12; rfl) names_at (sc, vs, ns) w p loose mean mg mb fun _ _ _ _ _ _ _ _ _ _ _ _ _ _ _ _ _ => trivial
end
section
noncomputable def uld : List Str → List Str → List Str → List Str × List Str
  | [], A, M => (M, A)
  | x :: r, A, M => if A.contains x then uld r (A.erase x) M else uld r A (M ++ [x])
structure US where
  es : List Value
  as : List Value
  vm : List Value
  nE : Nat
  nA : Nat
  nm : Nat
  X : List Str
  A : List Str
  M : List Str
  sl : Array (Option Value)
noncomputable abbrev UPS (ex ac am : Addr) : List (Str × Value) := [(Str.ofString "expected", .ref ex), (Str.ofString "actual", .ref ac), (Str.ofString "missing", .ref am)]
noncomputable abbrev US.led (ex ac am L : Addr) (oL : Obj) (rest : List (Addr × Obj)) (c : US) : List (Addr × Obj) := (am, listOf c.vm.toArray c.nm) :: (ex, listOf c.es.toArray c.nE) :: (ac, listOf c.as.toArray c.nA) :: (rest ++ [(L, { oL with slots := c.sl })])
structure US.ok (xs ys : List Str) (c : US) : Prop where
  ex : StrsAre c.es c.X
  ac : StrsAre c.as c.A
  mi : StrsAre c.vm c.M
  go : uld c.X.reverse c.A c.M = uld xs.reverse ys []
  le : c.X.length + c.M.length ≤ xs.length
  la : c.A.length ≤ ys.length
theorem last_strs : ∀ {vs : List Value} {xs : List Str}, StrsAre vs xs → xs ≠ [] → ∃ x t, vs = vs.dropLast ++ [.str x t] ∧ xs = xs.dropLast ++ [x] ∧ StrsAre vs.dropLast xs.dropLast
  | _, _, .nil, h => (h rfl).elim
  | _, _, .cons x t .nil, _ => ⟨x, t, rfl, rfl, .nil⟩
  | _, _, .cons x t (.cons y u r), _ => by
    obtain ⟨z, v, h1, h2, h3⟩ := last_strs (.cons y u r) (by simp)
    refine ⟨z, v, ?_, ?_, ?_⟩
    · rw [List.dropLast_cons_of_ne_nil (List.cons_ne_nil _ _), List.cons_append, ← h1]
    · rw [List.dropLast_cons_of_ne_nil (List.cons_ne_nil _ _), List.cons_append, ← h2]
    · rw [List.dropLast_cons_of_ne_nil (List.cons_ne_nil _ _), List.dropLast_cons_of_ne_nil (List.cons_ne_nil _ _)]
      exact .cons x t h3
theorem uld_in {X A M : List Str} {x : Str} (h : A.contains x = true) : uld (X ++ [x]).reverse A M = uld X.reverse (A.erase x) M := by
  rw [List.reverse_append]
  show uld (x :: X.reverse) A M = _
  rw [uld, if_pos h]
theorem uld_out {X A M : List Str} {x : Str} (h : A.contains x = false) : uld (X ++ [x]).reverse A M = uld X.reverse A (M ++ [x]) := by
  rw [List.reverse_append]
  show uld (x :: X.reverse) A M = _
  rw [uld, if_neg (by rw [h]; decide)]
noncomputable def UldE (xs ys : List Str) (am ac : Addr) (h₀ : Heap) (L' L : Addr) (oL : Obj) (rest : List (Addr × Obj)) (s : Shared) (s₁ : Shared) : Prop :=
  ∃ (u : Str → Option Value) (h : Heap) (tk : Nat) (vm va : List Value) (nm na : Nat) (sl : Array (Option Value)), s₁ = { s with heap := h, toks := tk } ∧ StrsAre vm (uld xs.reverse ys []).1 ∧ StrsAre va (uld xs.reverse ys []).2 ∧
    Fr h₀ L' h (kstB u [(Str.ofString "missing", .ref am), (Str.ofString "actual", .ref ac)]) ∧ News h₀ L' h ((am, listOf vm.toArray nm) :: (ac, listOf va.toArray na) :: (rest ++ [(L, { oL with slots := sl })]))
theorem StrsAre.nots {x : Str} : ∀ {vs : List Value} {xs : List Str}, StrsAre vs xs → x ∉ xs → ∀ y ∈ vs, isS x y = false
  | _, _, .nil, _, _, h => nomatch h
  | _, _, .cons a u r, hx, y, h => by
    rcases List.mem_cons.mp h with rfl | h
    · exact decide_eq_false fun e => hx (e ▸ .head _)
    · exact StrsAre.nots r (fun q => hx (.tail _ q)) y h
theorem strs_split {x : Str} : ∀ {vs : List Value} {xs : List Str}, StrsAre vs xs → xs.contains x = true → ∃ v1 t v2 x1 x2, vs = v1 ++ .str x t :: v2 ∧ StrsAre v1 x1 ∧ StrsAre v2 x2 ∧ x ∉ x1 ∧ xs.erase x = x1 ++ x2
  | _, _, .nil, h => by simp at h
  | _, _, .cons a u (vs := vs) (ys := xs) r, h => by
    by_cases e : a = x
    · subst e
      exact ⟨[], u, vs, [], xs, rfl, .nil, r, by simp, by simp⟩
    · have h' : xs.contains x = true := by
        simp only [List.contains_cons, Bool.or_eq_true, beq_iff_eq] at h
        exact h.resolve_left fun q => e q.symm
      obtain ⟨v1, t, v2, x1, x2, h1, h2, h3, h4, h5⟩ := strs_split r h'
      refine ⟨.str a u :: v1, t, v2, a :: x1, x2, by rw [h1]; rfl, .cons a u h2, h3, ?_, ?_⟩
      · intro q
        rcases List.mem_cons.mp q with q | q
        · exact e q.symm
        · exact h4 q
      · rw [List.erase_cons, if_neg (by simpa using e), h5]; rfl
section
variable {prog : Program} {w : World} {A : Around} {E : Value → Shared → Prop} {s : Shared} {h₀ : Heap} {L : Addr} {m : Str → Option Value} {news : List (Addr × Obj)}
theorem pop_any {D : Addr} {p : List Value} {y : Value} {n : Nat} {Q : Value → Shared → Prop} (F : Fr h₀ L s.heap m) (N : News h₀ L s.heap news) (hD : (D, listOf (p ++ [y]).toArray n) ∈ news) (hz : p.length < 1000)
    (h : ∀ h' n', Fr h₀ L h' m → (∀ q ∈ news, q.1 ≠ D → h'.get? q.1 = some q.2) → h'.get? D = some (listOf p.toArray n') → Q y { s with heap := h' }) : wpAny (model prog w) A (call (.builtin "list.pop") [.ref D]) Q E s := by
  have z := N _ hD
  have hk : (p ++ [y]).toArray.size - 1 = p.length := by rw [List.size_toArray, List.length_append]; rfl
  have hy : (p ++ [y]).toArray[(p ++ [y]).toArray.size - 1]? = some y := by rw [hk]; simp
  have s2 := Heap.SameBut.update s.heap D (Obj.mapSeq fun xs => xs.eraseIdxIfInBounds ((p ++ [y]).toArray.size - 1))
  obtain ⟨c2, hc2⟩ : ∃ c2, (s.heap.update D (Obj.mapSeq fun xs => xs.eraseIdxIfInBounds ((p ++ [y]).toArray.size - 1))).get? D = some (seqObj "list" ((p ++ [y]).toArray.eraseIdxIfInBounds ((p ++ [y]).toArray.size - 1)) c2) := ⟨_, get?_update_seq z.1 fun xs => xs.eraseIdxIfInBounds ((p ++ [y]).toArray.size - 1)⟩
  have e : (p ++ [y]).toArray.eraseIdxIfInBounds ((p ++ [y]).toArray.size - 1) = p.toArray := by
    rw [hk]
    apply Array.toList_inj.mp
    simp
    rw [List.eraseIdx_append_of_length_le (Nat.le_refl _)]
    simp
  rw [e] at hc2
  exact call_meets PySem.F.slot_list_pop ⟨_, z.1, rfl⟩ PySem.F.entry_list_pop (PySem.F.args_list_pop_1 _) (PySem.MeetsSeq.list_pop_last D _ n y hy (by rw [List.size_toArray, List.length_append, sizeLine_eq]; simp; omega))
    ⟨z.1, h _ c2 (F.change s2 z.2.1 z.2.2) (fun q hq hn => (s2.2 _ hn).trans (N q hq).1) hc2⟩
theorem remove_any {D : Addr} {vs : List Value} {xs : List Str} {x : Str} {t : Tok} {n : Nat} {Q : Value → Shared → Prop} (F : Fr h₀ L s.heap m) (N : News h₀ L s.heap news) (hD : (D, listOf vs.toArray n) ∈ news) (hS : StrsAre vs xs) (hx : xs.contains x = true) (hz : vs.length < 1000)
    (h : ∀ h' n' vs', StrsAre vs' (xs.erase x) → Fr h₀ L h' m → (∀ q ∈ news, q.1 ≠ D → h'.get? q.1 = some q.2) → h'.get? D = some (listOf vs'.toArray n') → Q .none { s with heap := h' }) : wpAny (model prog w) A (call (.builtin "list.remove") [.ref D, .str x t]) Q E s := by
  have z := N _ hD
  have he := StrsAre.eqs (x := x) (t := t) hS
  obtain ⟨v1, u, v2, x1, x2, rfl, h1, h2, h3, h4⟩ := strs_split hS hx
  have s2 := Heap.SameBut.update s.heap D (Obj.mapSeq fun xs => xs.eraseIdxIfInBounds v1.length)
  obtain ⟨c2, hc2⟩ : ∃ c2, (s.heap.update D (Obj.mapSeq fun xs => xs.eraseIdxIfInBounds v1.length)).get? D = some (seqObj "list" ((v1 ++ .str x u :: v2).toArray.eraseIdxIfInBounds v1.length) c2) := ⟨_, get?_update_seq z.1 fun xs => xs.eraseIdxIfInBounds v1.length⟩
  have e : (v1 ++ Value.str x u :: v2).toArray.eraseIdxIfInBounds v1.length = (v1 ++ v2).toArray := by
    apply Array.toList_inj.mp
    simp
    rw [List.eraseIdx_append_of_length_le (Nat.le_refl _)]
    simp
  rw [e] at hc2
  refine call_meets PySem.F.slot_list_remove ⟨_, z.1, rfl⟩ PySem.F.entry_list_remove (PySem.F.args_list_remove_2 _ _)
    (MeetsSeq.list_remove D (v1 ++ .str x u :: v2).toArray n (.str x t) (isS x) (fun y hy => he y (by simpa using hy)) v1.length (by simp) (by simp [isS]) (fun i hi hlt => ?_) (by rw [List.size_toArray, sizeLine_eq]; omega))
    ⟨z.1, h _ c2 _ (by rw [h4]; exact h1.append' h2) (F.change s2 z.2.1 z.2.2) (fun q hq hn => (s2.2 _ hn).trans (N q hq).1) hc2⟩
  have hi' : (v1 ++ Value.str x u :: v2).toArray[i] = v1[i] := by simp [List.getElem_append_left hlt]
  rw [hi']
  exact StrsAre.nots h1 h3 _ (List.getElem_mem hlt)
theorem remove_out {D : Addr} {vs : List Value} {xs : List Str} {x : Str} {t : Tok} {n : Nat} {Q : Value → Shared → Prop} (hA : A.handled = none) (N : News h₀ L s.heap news) (hD : (D, listOf vs.toArray n) ∈ news) (hS : StrsAre vs xs) (hx : xs.contains x = false)
    (h : ∀ h' tk e, Heap.NewExc s.heap h' e "ValueError" → E (.ref e) { s with heap := h', toks := tk }) : wpAny (model prog w) A (call (.builtin "list.remove") [.ref D, .str x t]) Q E s := by
  have z := N _ hD
  exact call_meets PySem.F.slot_list_remove ⟨_, z.1, rfl⟩ PySem.F.entry_list_remove (PySem.F.args_list_remove_2 _ _)
    (MeetsSeq.list_remove_none D vs.toArray n (.str x t) (isS x) (fun y hy => StrsAre.eqs hS y (by simpa using hy)) (fun i hi => StrsAre.nots hS (by simpa using hx) _ (by simp))) ⟨z.1, hA, h⟩
end
section
variable (w : World) (p : Program) (loose : List Str) (mean : ExcName → Option Value) (mg mb : Str → Option Value)
noncomputable def SD2 : Dx (Addr × Addr × List Value × List Value × Nat × Nat × List Str × List Str × List (Addr × Obj)) → Prop := DB 2 58 (fun qq => [.ref qq.1, .ref qq.2.1]) (fun qq => (fun news => news = (qq.1, listOf qq.2.2.1.toArray qq.2.2.2.2.1) :: (qq.2.1, listOf qq.2.2.2.1.toArray qq.2.2.2.2.2.1) :: qq.2.2.2.2.2.2.2.2 ∧ qq.1 ≠ qq.2.1 ∧ (∀ q ∈ qq.2.2.2.2.2.2.2.2, q.1 ≠ qq.1 ∧ q.1 ≠ qq.2.1) ∧ StrsAre qq.2.2.1 qq.2.2.2.2.2.2.1 ∧ StrsAre qq.2.2.2.1 qq.2.2.2.2.2.2.2.1 ∧ qq.2.2.2.2.2.2.1.length < 60 ∧ qq.2.2.2.2.2.2.2.1.length < 60)) (fun qq => (fun _ v news' => ∃ objs, news' = objs ++ qq.2.2.2.2.2.2.2.2 ∧ DatIn objs v (.tuple [.list ((uld qq.2.2.2.2.2.2.1.reverse qq.2.2.2.2.2.2.2.1 []).1.map .str), .list ((uld qq.2.2.2.2.2.2.1.reverse qq.2.2.2.2.2.2.2.1 []).2.map .str)])))
@[irreducible] noncomputable def KD2 : Dx (Addr × Addr × List Value × List Value × Nat × Nat × List Str × List Str × List (Addr × Obj)) := Dx.bad (0, 0, [], [], 0, 0, [], [], []) SD2
set_option maxRecDepth 100000 in
set_option maxHeartbeats 8000000 in
theorem uld_spec_at : SD2 KD2 := by
  dsimp only [SD2, DB]
  k_fill
  intro F X T N hf hk hpre hdp hun hret
  obtain ⟨hnw, hea, hre, hS, hT, hn1, hn2⟩ := hpre
  rw [hnw] at N
  clear hnw
  have hle := hS.len_eq
  have hla := hT.len_eq
  have hmod : KD2.env.scope.kind ≠ .module := by rw [hk]; decide
  have hab := F.above
  w_top off
  walk_at "pd_enter"
  o_head !(0, 0)
  rename_i oL h1 oD oC oN tk0 am h4 l1 h5 F7 N7
  simp only [List.cons_append] at N7
  have hLm : KD2.L < am := l1 (KD2.L, oL) (List.mem_append_right _ (.head _))
  have hem : KD2.x.1 < am := l1 (KD2.x.1, _) (List.mem_append_left _ (.head _))
  have hcm : KD2.x.2.1 < am := l1 (KD2.x.2.1, _) (List.mem_append_left _ (.tail _ (.head _)))
  have hrm : ∀ q ∈ KD2.x.2.2.2.2.2.2.2.2, q.1 < am := fun q hq => l1 q (List.mem_append_left _ (.tail _ (.tail _ hq)))
  have heL : KD2.x.1 ≠ KD2.L := oN (KD2.x.1, _) (.head _)
  have hcL : KD2.x.2.1 ≠ KD2.L := oN (KD2.x.2.1, _) (.tail _ (.head _))
  have hrL : ∀ q ∈ KD2.x.2.2.2.2.2.2.2.2, q.1 ≠ KD2.L := fun q hq => oN q (.tail _ (.tail _ hq))
  clear oN l1
  obtain ⟨m0, hm0, F7⟩ : ∃ m0 : Str → Option Value, (∀ q ∈ UPS KD2.x.1 KD2.x.2.1 am, m0 q.1 = some q.2) ∧ Fr KD2.h₀ KD2.s.heap.objs.size h5 m0 := by
    refine ⟨_, ?_, F7⟩
    intro q hq
    simp only [UPS, List.mem_cons, List.not_mem_nil, or_false] at hq
    rcases hq with rfl | rfl | rfl <;> rfl
  refine wp_cut (UldE KD2.x.2.2.2.2.2.2.1 KD2.x.2.2.2.2.2.2.2.1 am KD2.x.2.1 KD2.h₀ KD2.s.heap.objs.size KD2.L oL KD2.x.2.2.2.2.2.2.2.2 KD2.s) ?_ ?_
  · refine ksw_while (σ := US) (fun c => c.led KD2.x.1 KD2.x.2.1 am KD2.L oL KD2.x.2.2.2.2.2.2.2.2) (fun _ => UPS KD2.x.1 KD2.x.2.1 am) (fun _ => True) [Str.ofString "item"] (fun c => c.ok KD2.x.2.2.2.2.2.2.1 KD2.x.2.2.2.2.2.2.2.1) (fun c => c.X.length) ⟨KD2.x.2.2.1, KD2.x.2.2.2.1, [], KD2.x.2.2.2.2.1, KD2.x.2.2.2.2.2.1, 0, KD2.x.2.2.2.2.2.2.1, KD2.x.2.2.2.2.2.2.2.1, [], oL.slots⟩ F7 N7 trivial hm0 ⟨hS, hT, .nil, rfl, by simp, Nat.le_refl _⟩ ?_
    rintro c u h tk - hok F8 N8
    clear F7 N7
    dsimp only [UPS, US.led, kstB] at F8 N8
    have hce := hok.ex.len_eq
    have hca := hok.ac.len_eq
    have hcv := hok.mi.len_eq
    have hX := hok.le
    have hA := hok.la
    have hlE : h.IsList KD2.x.1 c.es.toArray := N8.isList (.tail _ (.head _))
    have hE6 : c.es.length < 61 := by omega
    have hV6 : c.vm.length < 61 := by omega
    o_head !(0, 0)
    · trivial
    · rename_i hem0
      have h0 : c.es = [] := List.isEmpty_iff.mp hem0
      have hX0 : c.X = [] := List.eq_nil_of_length_eq_zero (by rw [← hce, h0]; rfl)
      have hgo := hok.go
      rw [hX0] at hgo
      have hgo' : (c.M, c.A) = uld KD2.x.2.2.2.2.2.2.1.reverse KD2.x.2.2.2.2.2.2.2.1 [] := hgo
      refine ⟨_, _, _, c.vm, c.as, c.nm, c.nA, c.sl, rfl, by rw [← hgo']; exact hok.mi, by rw [← hgo']; exact hok.ac, fr_kst _ F8 (by intro q hq; simp only [List.mem_cons, List.not_mem_nil, or_false] at hq; rcases hq with rfl | rfl <;> rfl), ?_⟩
      intro p hp
      refine N8 p ?_
      rcases List.mem_cons.mp hp with rfl | hp
      · exact .head _
      · exact .tail _ (.tail _ hp)
    · rename_i hne0
      have hXne : c.X ≠ [] := fun e => by
        have h2 : c.es = [] := List.eq_nil_of_length_eq_zero (by rw [hce, e]; rfl)
        rw [h2] at hne0
        cases hne0
      obtain ⟨x, t, he1, he2, he3⟩ := last_strs hok.ex hXne
      have hlen : c.X.length = c.X.dropLast.length + 1 := by
        have := congrArg List.length he2
        simpa using this
      have hm : (KD2.x.1, listOf (c.es.dropLast ++ [Value.str x t]).toArray c.nE) ∈ (am, listOf c.vm.toArray c.nm) :: (KD2.x.1, listOf c.es.toArray c.nE) :: (KD2.x.2.1, listOf c.as.toArray c.nA) :: (KD2.x.2.2.2.2.2.2.2.2 ++ [(KD2.L, { oL with slots := c.sl })]) := by
        rw [← he1]; exact .tail _ (.head _)
      (try dsimp only)
      refine pop_any F8 N8 hm (by simp; omega) (fun h2 n2 F2 K2 G2 => ?_)
      have hLR : ∀ q ∈ (KD2.x.2.2.2.2.2.2.2.2 ++ [(KD2.L, { oL with slots := c.sl })]), q.1 ≠ KD2.x.1 ∧ q.1 ≠ KD2.x.2.1 ∧ q.1 ≠ am := by
        intro q hq
        rcases List.mem_append.mp hq with hq | hq
        · exact ⟨(hre q hq).1, (hre q hq).2, Nat.ne_of_lt (hrm q hq)⟩
        · rw [List.mem_singleton.mp hq]; exact ⟨Ne.symm heL, Ne.symm hcL, Nat.ne_of_lt hLm⟩
      have N2 : News KD2.h₀ KD2.s.heap.objs.size h2 ((am, listOf c.vm.toArray c.nm) :: (KD2.x.1, listOf c.es.dropLast.toArray n2) :: (KD2.x.2.1, listOf c.as.toArray c.nA) :: (KD2.x.2.2.2.2.2.2.2.2 ++ [(KD2.L, { oL with slots := c.sl })])) := by
        refine News.swap N8 hm K2 G2 (fun p hp => ?_)
        rcases List.mem_cons.mp hp with rfl | hp
        · exact .inr ⟨.head _, Nat.ne_of_gt hem⟩
        rcases List.mem_cons.mp hp with rfl | hp
        · exact .inl rfl
        rcases List.mem_cons.mp hp with rfl | hp
        · exact .inr ⟨.tail _ (.tail _ (.head _)), Ne.symm hea⟩
        · exact .inr ⟨.tail _ (.tail _ (.tail _ hp)), (hLR p hp).1⟩
      clear F8 N8 K2 G2 hlE hm
      (try dsimp only)
      o_head !(0, 0)
      rename_i h3 F3 N3
      (try dsimp only)
      obtain ⟨u9, hu9, F9⟩ : ∃ u9 : Str → Option Value, (∀ z, z ∉ [Str.ofString "expected", Str.ofString "actual", Str.ofString "missing", Str.ofString "item"] → u9 z = m0 z) ∧ Fr KD2.h₀ KD2.s.heap.objs.size h3 (kstB u9 [(Str.ofString "item", .str x t), (Str.ofString "expected", .ref KD2.x.1), (Str.ofString "actual", .ref KD2.x.2.1), (Str.ofString "missing", .ref am)]) := by
        refine ⟨_, ?_, fr_kst _ F3 ?_⟩
        · intro z hz
          simp only [List.mem_cons, List.not_mem_nil, or_false, not_or] at hz
          obtain ⟨q1, q2, q3, q4⟩ := hz
          simp [q1, q2, q3, q4]
        · intro q hq
          simp only [List.mem_cons, List.not_mem_nil, or_false] at hq
          rcases hq with rfl | rfl | rfl | rfl <;> rfl
      clear F3
      have hgo := hok.go
      rw [he2] at hgo
      refine try_x (fun e s₁ => ∃ (h : Heap) (tk : Nat) (ea : Addr) (hp : Heap), e = .ref ea ∧ s₁ = { KD2.s with heap := h, toks := tk } ∧ NewX hp h ea "ValueError" ∧ c.A.contains x = false ∧
        Fr KD2.h₀ KD2.s.heap.objs.size hp (kstB u9 [(Str.ofString "item", .str x t), (Str.ofString "expected", .ref KD2.x.1), (Str.ofString "actual", .ref KD2.x.2.1), (Str.ofString "missing", .ref am)]) ∧ News KD2.h₀ KD2.s.heap.objs.size hp ((am, listOf c.vm.toArray c.nm) :: (KD2.x.1, listOf c.es.dropLast.toArray n2) :: (KD2.x.2.1, listOf c.as.toArray c.nA) :: (KD2.x.2.2.2.2.2.2.2.2 ++ [(KD2.L, { oL with slots := c.sl })]))) ?_ ?_
      · clear F9 N3
        rintro e s₁ ⟨h, tk, ea, hp, rfl, rfl, nx, hcx, FX, NX⟩
        have hneX : ∀ q ∈ (am, listOf c.vm.toArray c.nm) :: (KD2.x.1, listOf c.es.dropLast.toArray n2) :: (KD2.x.2.1, listOf c.as.toArray c.nA) :: KD2.x.2.2.2.2.2.2.2.2, q.1 ≠ KD2.L := by
          intro q hq
          rcases List.mem_cons.mp hq with rfl | hq
          · exact Nat.ne_of_gt hLm
          rcases List.mem_cons.mp hq with rfl | hq
          · exact heL
          rcases List.mem_cons.mp hq with rfl | hq
          · exact hcL
          exact hrL q hq
        refine noted_x (new := (am, listOf c.vm.toArray c.nm) :: (KD2.x.1, listOf c.es.dropLast.toArray n2) :: (KD2.x.2.1, listOf c.as.toArray c.nA) :: KD2.x.2.2.2.2.2.2.2.2) rfl hf hmod nx FX NX oD hneX (fun h' sl T' ob ot cx hcx' F' N' x' sep => ?_)
        refine set_x none F' N' x' sep (fun h2 ot2 F2 N2 x2 => ?_)
        clear F' N' x' FX NX hcx' nx hneX
        dsimp only at N2 F2 x2 sep ⊢
        k_dflt (refine' clause_x F2 N2 x2 sep X T ?exc0 PyProof.Rows.Boot.«ValueError» ?hn PySem.F.isExc_ValueError PySem.F.notTuple_ValueError ?hs ?_ ?hE)
        case exc0 => k_dflt k_is
        case hn => decide
        case hs => rw [isSubtype_type]; kernel_rfl!
        case hE => passes_own
        intro h3 ot3 F3 N3 x3
        clear F2 N2 x2
        dsimp only [kstB] at F3 N3 ⊢
        (try simp only [List.cons_append] at N3 sep)
        o_head !(0, 0)
        refine append_any F3 N3 (.tail _ (.tail _ (.head _))) (by simp only [List.size_toArray]; rw [sizeLine_eq]; omega) ((am, listOf (c.vm ++ [Value.str x t]).toArray (c.nm + 1)) :: (KD2.x.1, listOf c.es.dropLast.toArray n2) :: (KD2.x.2.1, listOf c.as.toArray c.nA) :: (KD2.x.2.2.2.2.2.2.2.2 ++ [(KD2.L, { oL with slots := sl })])) ?_ ?_
        · intro p hp
          rcases List.mem_cons.mp hp with rfl | hp
          · left; simp
          rcases List.mem_cons.mp hp with rfl | hp
          · exact .inr ⟨.tail _ (.tail _ (.tail _ (.head _))), Nat.ne_of_lt hem⟩
          rcases List.mem_cons.mp hp with rfl | hp
          · exact .inr ⟨.tail _ (.tail _ (.tail _ (.tail _ (.head _)))), Nat.ne_of_lt hcm⟩
          · refine .inr ⟨.tail _ (.tail _ (.tail _ (.tail _ (.tail _ hp)))), ?_⟩
            rcases List.mem_append.mp hp with hp | hp
            · exact Nat.ne_of_lt (hrm p hp)
            · rw [List.mem_singleton.mp hp]; exact Nat.ne_of_lt hLm
        intro h5 F5 N5
        clear F3 N3
        (try dsimp only)
        o_head !(0, 0)
        refine ksw_end { c with es := c.es.dropLast, X := c.X.dropLast, nE := n2, vm := c.vm ++ [.str x t], M := c.M ++ [x], nm := c.nm + 1, sl := sl } F5 N5 (fun _ h => h) trivial (by intro q hq; simp only [UPS, List.mem_cons, List.not_mem_nil, or_false] at hq; rcases hq with rfl | rfl | rfl <;> rfl) (by
            intro z hz hst
            have q1 : z ≠ Str.ofString "expected" := hz _ (.head _)
            have q2 : z ≠ Str.ofString "actual" := hz _ (.tail _ (.head _))
            have q3 : z ≠ Str.ofString "missing" := hz _ (.tail _ (.tail _ (.head _)))
            have q4 : z ≠ Str.ofString "item" := by simpa using hst
            simp only [kstB, q1, q2, q3, q4, if_false]
            exact hu9 z (by simp [q1, q2, q3, q4])) ⟨he3, hok.ac, StrsAre.snoc hok.mi, ?_, ?_, hok.la⟩ (by dsimp only; omega)
        · rw [← hgo, uld_out hcx]
        · simp only [List.length_append, List.length_singleton]; omega
      · intro E' hE' pE'
        dsimp only [kstB] at F9
        o_head !(0, 0)
        cases hcx : c.A.contains x with
        | true =>
          refine remove_any F9 N3 (.tail _ (.tail _ (.head _))) hok.ac hcx (by omega) (fun h4 n4 vs4 hs4 F4 K4 G4 => ?_)
          have N4 : News KD2.h₀ KD2.s.heap.objs.size h4 ((am, listOf c.vm.toArray c.nm) :: (KD2.x.1, listOf c.es.dropLast.toArray n2) :: (KD2.x.2.1, listOf vs4.toArray n4) :: (KD2.x.2.2.2.2.2.2.2.2 ++ [(KD2.L, { oL with slots := c.sl })])) := by
            refine News.swap N3 (.tail _ (.tail _ (.head _))) K4 G4 (fun p hp => ?_)
            rcases List.mem_cons.mp hp with rfl | hp
            · exact .inr ⟨.head _, Nat.ne_of_gt hcm⟩
            rcases List.mem_cons.mp hp with rfl | hp
            · exact .inr ⟨.tail _ (.head _), hea⟩
            rcases List.mem_cons.mp hp with rfl | hp
            · exact .inl rfl
            · exact .inr ⟨.tail _ (.tail _ (.tail _ hp)), (hLR p hp).2.1⟩
          clear F9 N3 K4 G4
          (try dsimp only)
          o_head !(0, 0)
          refine ksw_end { c with es := c.es.dropLast, X := c.X.dropLast, nE := n2, as := vs4, A := c.A.erase x, nA := n4 } F4 N4 (fun _ h => h) trivial (by intro q hq; simp only [UPS, List.mem_cons, List.not_mem_nil, or_false] at hq; rcases hq with rfl | rfl | rfl <;> rfl) (by
            intro z hz hst
            have q1 : z ≠ Str.ofString "expected" := hz _ (.head _)
            have q2 : z ≠ Str.ofString "actual" := hz _ (.tail _ (.head _))
            have q3 : z ≠ Str.ofString "missing" := hz _ (.tail _ (.tail _ (.head _)))
            have q4 : z ≠ Str.ofString "item" := by simpa using hst
            simp only [kstB, q1, q2, q3, q4, if_false]
            exact hu9 z (by simp [q1, q2, q3, q4])) ⟨he3, hs4, hok.mi, ?_, ?_, Nat.le_trans (List.length_erase_le) hok.la⟩ (by dsimp only; omega)
          · rw [← hgo, uld_in hcx]
          · dsimp only; omega
        | false =>
          refine remove_out rfl N3 (.tail _ (.tail _ (.head _))) hok.ac hcx (fun h4 tk4 e4 nx => ?_)
          obtain ⟨ob, tt, q1, q2, q3⟩ := nx.there
          exact hE' _ _ ⟨h4, tk4, e4, _, rfl, rfl, ⟨nx.keeps, nx.new, ob, _, tt, .none, q1, q2, q3, rfl, rfl, rfl, by simp⟩, hcx, fr_same F9 (fun z => by simp only [kstB]), N3⟩
  · rintro s' ⟨u, h, tk, vm, va, nm, na, sl, rfl, hvm, hva, F8, N8⟩
    clear F7 N7
    dsimp only [kstB] at F8 ⊢
    o_head !(0, 0)
    rename_i D9 h9 F9 N9 l9
    have hne : ∀ p ∈ (D9, ({ cls := Value.type "tuple", data := Data.seq #[.ref am, .ref KD2.x.2.1] } : Obj)) :: (am, listOf vm.toArray nm) :: (KD2.x.2.1, listOf va.toArray na) :: KD2.x.2.2.2.2.2.2.2.2, p.1 ≠ KD2.L := by
      intro p hp
      rcases List.mem_cons.mp hp with rfl | hp
      · exact Nat.ne_of_gt (Nat.lt_trans hLm l9.1)
      rcases List.mem_cons.mp hp with rfl | hp
      · exact Nat.ne_of_gt hLm
      rcases List.mem_cons.mp hp with rfl | hp
      · exact hcL
      exact hrL p hp
    obtain ⟨FB, NB⟩ := back_tries (new := (D9, ({ cls := Value.type "tuple", data := Data.seq #[.ref am, .ref KD2.x.2.1] } : Obj)) :: (am, listOf vm.toArray nm) :: (KD2.x.2.1, listOf va.toArray na) :: KD2.x.2.2.2.2.2.2.2.2) hab oC F9 N9 hne
    exact hret _ h9 _ _ FB NB ⟨[_, _, _], rfl, .tuple (vs := [.ref am, .ref KD2.x.2.1]) (n := 0) (.head _) (.cons (.list (.tail _ (.head _)) (strs_dat hvm)) (.cons (.list (.tail _ (.tail _ (.head _))) (strs_dat hva)) .nil))⟩
theorem uld_spec (ex ac : Addr) (evs avs : List Value) (en an : Nat) (xs ys : List Str) (rest : List (Addr × Obj)) :
    DClaim w p loose mean mg mb 2 58 [.ref ex, .ref ac] (fun news => news = (ex, listOf evs.toArray en) :: (ac, listOf avs.toArray an) :: rest ∧ ex ≠ ac ∧ (∀ q ∈ rest, q.1 ≠ ex ∧ q.1 ≠ ac) ∧ StrsAre evs xs ∧ StrsAre avs ys ∧ xs.length < 60 ∧ ys.length < 60)
      (fun _ v news' => ∃ objs, news' = objs ++ rest ∧ DatIn objs v (.tuple [.list ((uld xs.reverse ys []).1.map .str), .list ((uld xs.reverse ys []).2.map .str)])) :=
  DB.claim (by unfold KD2; rfl) uld_spec_at (ex, ac, evs, avs, en, an, xs, ys, rest) w p loose mean mg mb
end
end
section
theorem PClaim.mono {w : World} {p : Program} {loose : List Str} {mean : ExcName → Option Value} {mg mb : Str → Option Value} {lv lv' : Nat} {f : Addr} {vs : List Value} {Pre Pre' : Heap → Prop} {Post Post' : Heap → Value → Heap → Prop}
    (C : PClaim w p loose mean mg mb lv f vs Pre Post) (hl : lv ≤ lv') (h1 : ∀ h, Pre' h → Pre h) (h2 : ∀ h v h', Pre' h → Post h v h' → Post' h v h') : PClaim w p loose mean mg mb lv' f vs Pre' Post' := by
  intro dp un gd cn cs a ccd cl outer A₀ base h₀ L m s Q E B F X T hk hpre hdp hun hret
  exact C dp un gd cn cs a ccd cl outer A₀ base h₀ L m s Q E B F X T hk (h1 _ hpre) (by omega) (by omega) fun v h' tk' k P => hret v h' tk' k (h2 _ _ _ hpre P)
noncomputable def levF (x y : Str) : Int := levL x.cps.toList y.cps.toList
theorem nm_of {x : Str} (h : Nm x) : ∃ l ∈ names40, x = S l := by
  obtain ⟨l, hl, rfl⟩ := List.mem_map.mp h
  exact ⟨l, hl, rfl⟩
theorem names40_len : (names40.all fun x => decide (x.length ≤ 3)) = true := by kernel_rfl
theorem nm_len {x : Str} (h : Nm x) : x.length ≤ 3 := by
  obtain ⟨l, hl, rfl⟩ := nm_of h
  rw [S_len]
  exact of_decide_eq_true (List.all_eq_true.mp names40_len l hl)
theorem lev_min {x y : Str} (hx : Nm x) (hy : Nm y) : min (levF x y) 3 = costF x y := by
  obtain ⟨l, hl, rfl⟩ := nm_of hx
  obtain ⟨k, hk, rfl⟩ := nm_of hy
  exact eq_of_beq (List.all_eq_true.mp (List.all_eq_true.mp lev_cost l hl) k hk)
theorem nm_low {x y : Str} (hx : Nm x) (hy : Nm y) (e : Txt.lower x = Txt.lower y) : x.length = y.length := by
  obtain ⟨l, hl, rfl⟩ := nm_of hx
  obtain ⟨k, hk, rfl⟩ := nm_of hy
  have := List.all_eq_true.mp (List.all_eq_true.mp low_len l hl) k hk
  rw [e] at this
  simpa [S_len] using this
theorem names40_ok : (names40.all fun x => PyData.strOk (S x)) = true := by kernel_rfl
theorem nm_ok {x : Str} (h : Nm x) : PyData.strOk x = true := by
  obtain ⟨l, hl, rfl⟩ := nm_of h
  exact List.all_eq_true.mp names40_ok l hl
theorem ins_same {nm : Str} (hn : Nm nm) : ∀ {gs : List (List Str)}, (∀ g ∈ gs, ∀ x ∈ g, Nm x) → groupIns levF gs nm = groupIns costF gs nm
  | [], _ => rfl
  | [] :: r, h => by rw [groupIns, groupIns, ins_same hn fun g hg => h g (.tail _ hg)]
  | (y :: g) :: r, h => by
    have e := lev_min (h _ (.head _) y (.head _)) hn
    rw [groupIns, groupIns, ins_same hn fun g hg => h g (.tail _ hg)]
    by_cases c : levF y nm ≤ 2
    · rw [if_pos c, if_pos (by omega)]
    · rw [if_neg c, if_neg (by omega)]
theorem ins_nm {f : Str → Str → Int} {nm : Str} (hn : Nm nm) : ∀ {gs : List (List Str)}, (∀ g ∈ gs, ∀ x ∈ g, Nm x) → ∀ g ∈ groupIns f gs nm, ∀ x ∈ g, Nm x
  | [], _ => by
    intro g hg x hx
    rw [groupIns, List.mem_singleton] at hg
    subst hg
    rw [List.mem_singleton.mp hx]; exact hn
  | [] :: r, h => by
    intro g hg
    rw [groupIns] at hg
    rcases List.mem_cons.mp hg with rfl | hg
    · exact h _ (.head _)
    · exact ins_nm hn (fun g hg => h g (.tail _ hg)) g hg
  | (y :: g) :: r, h => by
    intro q hq
    rw [groupIns] at hq
    split at hq
    · rcases List.mem_cons.mp hq with rfl | hq
      · intro x hx
        rcases List.mem_append.mp hx with hx | hx
        · exact h _ (.head _) x hx
        · rw [List.mem_singleton.mp hx]; exact hn
      · exact h q (.tail _ hq)
    · rcases List.mem_cons.mp hq with rfl | hq
      · exact h _ (.head _)
      · exact ins_nm hn (fun g hg => h g (.tail _ hg)) q hq
theorem fold_same : ∀ {xs : List Str} {gs : List (List Str)}, (∀ x ∈ xs, Nm x) → (∀ g ∈ gs, ∀ x ∈ g, Nm x) → xs.foldl (groupIns levF) gs = xs.foldl (groupIns costF) gs
  | [], _, _, _ => rfl
  | x :: xs, gs, h, hg => by
    rw [List.foldl_cons, List.foldl_cons, ins_same (h x (.head _)) hg]
    exact fold_same (fun y hy => h y (.tail _ hy)) (ins_nm (h x (.head _)) hg)
noncomputable def groupsOf (xs : List Str) : List (List Str) := xs.foldl (groupIns costF) []
theorem join3 : (chs.all fun a => chs.all fun b => chs.all fun c => names40.contains [a, b, c] && (Txt.join (Str.ofString "") [S [a], S [b], S [c]] == S [a, b, c]) && names40.contains [a, b] && (Txt.join (Str.ofString "") [S [a], S [b]] == S [a, b]) && names40.contains [a] && (Txt.join (Str.ofString "") [S [a]] == S [a])) = true := by kernel_rfl
theorem chF_ch (x : Int) (k : Nat) : ∃ a ∈ chs, chF x k = S [a] := by
  rcases chF_is x k with h | h | h
  · exact ⟨97, by decide, h⟩
  · exact ⟨65, by decide, h⟩
  · exact ⟨98, by decide, h⟩
theorem nm_nameF (x : Int) : Nm (nameF x) := by
  have h1 := Int.fmod_nonneg_of_pos x (show (0 : Int) < 4 by decide)
  have h2 := Int.fmod_lt_of_pos x (show (0 : Int) < 4 by decide)
  obtain ⟨a, ha, ea⟩ := chF_ch x 0
  obtain ⟨b, hb, eb⟩ := chF_ch x 1
  obtain ⟨c, hc, ec⟩ := chF_ch x 2
  have j := List.all_eq_true.mp (List.all_eq_true.mp (List.all_eq_true.mp join3 a ha) b hb) c hc
  simp only [Bool.and_eq_true, beq_iff_eq, List.contains_iff_mem] at j
  obtain ⟨⟨⟨⟨⟨j1, j2⟩, j3⟩, j4⟩, j5⟩, j6⟩ := j
  have hr : x.fmod 4 = 0 ∨ x.fmod 4 = 1 ∨ x.fmod 4 = 2 ∨ x.fmod 4 = 3 := by omega
  unfold nameF
  rcases hr with h | h | h | h <;> rw [h]
  · exact List.mem_map.mpr ⟨[], by decide, rfl⟩
  · refine List.mem_map.mpr ⟨[a], j5, ?_⟩
    rw [← j6, ← ea]; rfl
  · refine List.mem_map.mpr ⟨[a, b], j3, ?_⟩
    rw [← j4, ← ea, ← eb]; rfl
  · refine List.mem_map.mpr ⟨[a, b, c], j1, ?_⟩
    rw [← j2, ← ea, ← eb, ← ec]; rfl
theorem nm_names (ns : List Int) : ∀ x ∈ namesOf ns, Nm x := by
  intro x hx
  obtain ⟨i, _, rfl⟩ := List.mem_map.mp hx
  exact nm_nameF i
theorem names_len (ns : List Int) : 6 ≤ (namesOf ns).length ∧ (namesOf ns).length ≤ 9 := by
  unfold namesOf
  rw [List.length_map, List.length_append, List.length_take]
  simp only [List.length_cons, List.length_nil]
  omega
section
variable (w : World) (p : Program) (loose : List Str) (mean : ExcName → Option Value) (mg mb : Str → Option Value)
theorem levc (x y : Str) (tx ty t2 : Tok) : PClaim w p loose mean mg mb 3 28 [.str x tx, .str y ty, .int 2 t2] (fun _ => Nm x ∧ Nm y) (fun _ v _ => ∃ t, v = .int (levF x y) t) := by
  have := lev_spec w p loose mean mg mb x.cps.toList y.cps.toList tx ty t2
  rw [← S_of x, ← S_of y] at this
  refine PClaim.mono this (by decide) (fun _ h => ⟨?_, ?_⟩) (fun _ _ _ _ h => h)
  · exact Nat.le_trans (show x.cps.toList.length ≤ 3 from by have := nm_len h.1; simpa [PySem.Str.length] using this) (by decide)
  · exact Nat.le_trans (show y.cps.toList.length ≤ 3 from by have := nm_len h.2; simpa [PySem.Str.length] using this) (by decide)
theorem costc (x y : Str) (tx ty : Tok) : PClaim w p loose mean mg mb 2 89 [.str x tx, .str y ty] (fun _ => Nm x ∧ Nm y) (fun _ v _ => ∃ t, v = .int (costF x y) t) :=
  PClaim.mono (cost_spec w p loose mean mg mb x y tx ty) (Nat.le_refl _) (fun _ h => ⟨Nat.le_trans (nm_len h.1) (by decide), Nat.le_trans (nm_len h.2) (by decide), nm_low h.1 h.2⟩) (fun _ _ _ _ h => h)
theorem groupc (nl z : Addr) (vs : List Value) (xs : List Str) (n : Nat) :
    PClaim w p loose mean mg mb 6 44 [.ref 77, .ref nl, .ref z] (fun h => h.IsList nl vs.toArray ∧ StrsAre vs xs ∧ xs.length < 60 ∧ (∀ x ∈ xs, Nm x) ∧ h.get? z = some (listOf #[] n)) (fun h v h' => ∃ a objs, v = .ref a ∧ Made h h' objs ∧ DatIn (objs ++ [(z, listOf #[] n)]) (.ref a) (.list (gdat (groupsOf xs)))) := by
  refine PClaim.mono (reduce_spec w p loose mean mg mb Nm levF (levc w p loose mean mg mb) nl z vs xs n []) (Nat.le_refl _) (fun _ h => h) (fun _ _ _ hp h => ?_)
  rw [fold_same hp.2.2.2.1 (by intro g hg; cases hg)] at h
  exact h
theorem plainc (nl : Addr) (vs : List Value) (xs : List Str) :
    PClaim w p loose mean mg mb 4 94 [.ref nl] (fun h => h.IsList nl vs.toArray ∧ StrsAre vs xs ∧ xs.length < 60 ∧ (∀ x ∈ xs, Nm x)) (fun h v h' => ∃ a objs, v = .ref a ∧ Made h h' objs ∧ DatIn objs (.ref a) (.list (gdat (groupsOf xs)))) :=
  plain_spec w p loose mean mg mb Nm (fun _ h => nm_ok h) (costc w p loose mean mg mb) nl vs xs
end
end
section
theorem cost_symB : (names40.all fun x => names40.all fun y => costF (S x) (S y) == costF (S y) (S x)) = true := by kernel_rfl
theorem cost_sym {x y : Str} (hx : Nm x) (hy : Nm y) : costF x y = costF y x := by
  obtain ⟨l, hl, rfl⟩ := nm_of hx
  obtain ⟨k, hk, rfl⟩ := nm_of hy
  exact eq_of_beq (List.all_eq_true.mp (List.all_eq_true.mp cost_symB l hl) k hk)
end
section
noncomputable def kopt {α : Type} (n : Nat) (lt : Nat → Nat → Bool) : KasT α → Option α
  | .ret a => some a
  | .ask i j k => if i < n ∧ j < n then kopt n lt (k (lt i j)) else none
theorem kopt_wp {α : Type} {cmp : Nat → Nat → (Bool → Shared → Prop) → Shared → Prop} {n : Nat} {lt : Nat → Nat → Bool} {I : Shared → Prop}
    (hc : ∀ i j C s, i < n → j < n → I s → (∀ s', I s' → C (lt i j) s') → cmp i j C s) : ∀ (t : KasT α) (r : α) (Q : α → Shared → Prop) (s : Shared), kopt n lt t = some r → I s → (∀ s', I s' → Q r s') → t.kasWp cmp Q s
  | .ret a, r, Q, s, e, hI, hq => by
    have e' : a = r := Option.some.inj e
    subst e'
    exact hq s hI
  | .ask i j k, r, Q, s, e, hI, hq => by
    rw [kopt] at e
    by_cases h : i < n ∧ j < n
    · rw [if_pos h] at e
      exact hc i j _ s h.1 h.2 hI fun s' hs' => kopt_wp hc (k (lt i j)) r Q s' e hs' hq
    · rw [if_neg h] at e; cases e
noncomputable def comps : Nat → List (List Nat)
  | 0 => [[]]
  | n + 1 => (comps n).map (1 :: ·) ++ (comps n).filterMap fun l => match l with | [] => none | a :: r => some ((a + 1) :: r)
theorem mem_comps : ∀ (n : Nat) (ls : List Nat), (∀ x ∈ ls, 1 ≤ x) → ls.sum = n → ls ∈ comps n
  | 0, [], _, _ => .head _
  | 0, a :: r, h, e => by
    have := h a (.head _)
    rw [List.sum_cons] at e
    omega
  | n + 1, [], _, e => by simp at e
  | n + 1, a :: r, h, e => by
    have h1 := h a (.head _)
    rw [List.sum_cons] at e
    rw [comps]
    by_cases c : a = 1
    · subst c
      exact List.mem_append_left _ (List.mem_map.mpr ⟨r, mem_comps n r (fun x hx => h x (.tail _ hx)) (by omega), rfl⟩)
    · refine List.mem_append_right _ (List.mem_filterMap.mpr ⟨(a - 1) :: r, mem_comps n _ ?_ ?_, ?_⟩)
      · intro x hx
        rcases List.mem_cons.mp hx with rfl | hx
        · omega
        · exact h x (.tail _ hx)
      · rw [List.sum_cons]; omega
      · show some ((a - 1 + 1) :: r) = some (a :: r)
        rw [Nat.sub_add_cancel h1]
noncomputable def ltK (ls : List Nat) (i j : Nat) : Bool := decide (ls.getD j 0 < ls.getD i 0) || (ls.getD i 0 == ls.getD j 0 && decide (i < j))
noncomputable def ltC (ls : List Nat) (i j : Nat) : Bool := decide (ls.getD j 0 < ls.getD i 0)
noncomputable def sortOk (ls : List Nat) : Bool := match kopt ls.length (ltK ls) (kas_sort ls.length), kopt ls.length (ltC ls) (kas_sort ls.length) with | some p, some q => p.toList == q.toList && p.size == ls.length && p.toList.all (fun i => decide (i < ls.length)) | _, _ => false
theorem sort6 : (comps 6).all sortOk = true := by kernel_rfl
theorem sort7 : (comps 7).all sortOk = true := by kernel_rfl
theorem sort8 : (comps 8).all sortOk = true := by kernel_rfl
theorem sort9 : (comps 9).all sortOk = true := by kernel_rfl
theorem sort_same {ls : List Nat} (h1 : ∀ x ∈ ls, 1 ≤ x) (h2 : 6 ≤ ls.sum) (h3 : ls.sum ≤ 9) :
    ∃ p : Array Nat, kopt ls.length (ltK ls) (kas_sort ls.length) = some p ∧ kopt ls.length (ltC ls) (kas_sort ls.length) = some p ∧ p.size = ls.length ∧ ∀ i ∈ p.toList, i < ls.length := by
  have hm : sortOk ls = true := by
    have hc := mem_comps ls.sum ls h1 rfl
    have : ls.sum = 6 ∨ ls.sum = 7 ∨ ls.sum = 8 ∨ ls.sum = 9 := by omega
    rcases this with e | e | e | e <;> rw [e] at hc
    · exact List.all_eq_true.mp sort6 ls hc
    · exact List.all_eq_true.mp sort7 ls hc
    · exact List.all_eq_true.mp sort8 ls hc
    · exact List.all_eq_true.mp sort9 ls hc
  unfold sortOk at hm
  split at hm
  · rename_i p q e1 e2
    simp only [Bool.and_eq_true, beq_iff_eq, List.all_eq_true, decide_eq_true_eq] at hm
    obtain ⟨⟨ha, hb⟩, hd⟩ := hm
    have e : p = q := Array.toList_inj.mp ha
    subst e
    exact ⟨p, e1, e2, hb, hd⟩
  · cases hm
theorem ins_sum {f : Str → Str → Int} {nm : Str} : ∀ {gs : List (List Str)}, ((groupIns f gs nm).map List.length).sum = (gs.map List.length).sum + 1
  | [] => rfl
  | [] :: r => by rw [groupIns, List.map_cons, List.map_cons, List.sum_cons, List.sum_cons, ins_sum]; omega
  | (y :: g) :: r => by
    rw [groupIns]
    split
    · simp only [List.map_cons, List.sum_cons, List.length_append, List.length_cons, List.length_nil]; omega
    · rw [List.map_cons, List.map_cons, List.sum_cons, List.sum_cons, ins_sum]; omega
theorem fold_sum {f : Str → Str → Int} : ∀ {xs : List Str} {gs : List (List Str)}, ((xs.foldl (groupIns f) gs).map List.length).sum = (gs.map List.length).sum + xs.length
  | [], _ => rfl
  | x :: xs, gs => by rw [List.foldl_cons, fold_sum, ins_sum, List.length_cons]; omega
theorem ins_pos {f : Str → Str → Int} {nm : Str} : ∀ {gs : List (List Str)}, (∀ g ∈ gs, g ≠ []) → ∀ g ∈ groupIns f gs nm, g ≠ []
  | [], _, g, hg => by
    rw [groupIns, List.mem_singleton] at hg
    subst hg; simp
  | [] :: r, h, _, _ => absurd rfl (h [] (.head _))
  | (y :: g) :: r, h, q, hq => by
    rw [groupIns] at hq
    split at hq
    · rcases List.mem_cons.mp hq with rfl | hq
      · simp
      · exact h q (.tail _ hq)
    · rcases List.mem_cons.mp hq with rfl | hq
      · exact h _ (.head _)
      · exact ins_pos (fun g hg => h g (.tail _ hg)) q hq
theorem fold_pos {f : Str → Str → Int} : ∀ {xs : List Str} {gs : List (List Str)}, (∀ g ∈ gs, g ≠ []) → ∀ g ∈ xs.foldl (groupIns f) gs, g ≠ []
  | [], _, h => h
  | x :: xs, gs, h => by
    rw [List.foldl_cons]
    exact fold_pos (ins_pos h)
theorem groups_sum (xs : List Str) : ((groupsOf xs).map List.length).sum = xs.length := by
  unfold groupsOf
  rw [fold_sum]; simp
theorem groups_pos (xs : List Str) : ∀ g ∈ groupsOf xs, g ≠ [] := fold_pos (by intro g hg; cases hg)
end
section
theorem DatAll.len : ∀ {news : List (Addr × Obj)} {vs : List Value} {ds : List Dat}, DatAll news vs ds → vs.length = ds.length
  | _, _, _, .nil => rfl
  | _, _, _, .cons _ h => congrArg (· + 1) (DatAll.len h)
theorem dat_strs : ∀ {news : List (Addr × Obj)} {vs : List Value} {xs : List Str}, DatAll news vs (xs.map Dat.str) → StrsAre vs xs
  | _, _, [], .nil => .nil
  | _, _, x :: xs, .cons (.str _ t) h => .cons x t (dat_strs h)
theorem gd_at : ∀ {news : List (Addr × Obj)} {vs : List Value} {G : List (List Str)}, DatAll news vs (gdat G) → ∀ {k : Nat} {q : List Str}, G[k]? = some q →
    ∃ b us n, vs[k]? = some (.ref b) ∧ (b, listOf (List.toArray us) n) ∈ news ∧ StrsAre us q
  | _, _, [], .nil, _, _, e => by simp at e
  | _, _, g :: G, .cons (.list hm hd) h, 0, q, e => by
    have e' : g = q := by simpa using e
    subst e'
    exact ⟨_, _, _, rfl, hm, dat_strs hd⟩
  | _, _, g :: G, .cons _ h, k + 1, q, e => by
    obtain ⟨b, us, n, e1, e2, e3⟩ := gd_at (G := G) h (k := k) (q := q) (by simpa using e)
    exact ⟨b, us, n, by simpa using e1, e2, e3⟩
theorem len_le_sum : ∀ {ls : List Nat}, (∀ x ∈ ls, 1 ≤ x) → ls.length ≤ ls.sum
  | [], _ => Nat.le_refl _
  | x :: r, h => by
    have := len_le_sum fun y hy => h y (.tail x hy)
    have h1 := h x (.head _)
    rw [List.length_cons, List.sum_cons]; omega
theorem groups_lens (xs : List Str) : (∀ x ∈ (groupsOf xs).map List.length, 1 ≤ x) ∧ ((groupsOf xs).map List.length).sum = xs.length ∧ (groupsOf xs).length ≤ xs.length := by
  have h1 : ∀ x ∈ (groupsOf xs).map List.length, 1 ≤ x := by
    intro x hx
    obtain ⟨g, hg, rfl⟩ := List.mem_map.mp hx
    exact List.length_pos_iff.mpr (groups_pos xs g hg)
  refine ⟨h1, groups_sum xs, ?_⟩
  have := len_le_sum h1
  rw [groups_sum, List.length_map] at this
  exact this
end
section
noncomputable def TupsAre (news : List (Addr × Obj)) (vs : List Value) (ls : List Nat) : Prop := vs.length = ls.length ∧ ∀ i, i < ls.length → ∃ a t u e, vs[i]? = some (.ref a) ∧ (a, seqObj "tuple" #[.int (-((ls.getD i 0 : Nat) : Int)) t, .int (i : Nat) u] e) ∈ news
theorem kt_of : ∀ {h : Heap} {vs : List Value}, (∀ v ∈ vs, ∃ a o xs n x t, v = .ref a ∧ h.get? a = some o ∧ o.cls = .type "tuple" ∧ o.data = .seq xs n ∧ xs[0]? = some (Value.int x t)) →
    ∃ fs : List Value, fs.length = vs.length ∧ (∀ v ∈ fs, ∃ x t, v = .int x t) ∧ KatTups h vs fs
  | _, [], _ => ⟨[], rfl, (fun v hv => by cases hv), KatTups.nil⟩
  | h, v :: vs, H => by
    obtain ⟨a, o, xs, n, x, t, rfl, h1, h2, h3, h4⟩ := H _ (.head _)
    obtain ⟨fs, e, k, T⟩ := kt_of (vs := vs) fun v hv => H v (.tail _ hv)
    refine ⟨.int x t :: fs, by simp [e], ?_, KatTups.cons h1 h2 h3 h4 T⟩
    intro v hv
    rcases List.mem_cons.mp hv with rfl | hv
    · exact ⟨_, _, rfl⟩
    · exact k v hv
theorem sort_tups {prog : Program} {w : World} {A : Around} {E : Value → Shared → Prop} {s : Shared} {h₀ : Heap} {L l : Addr} {m : Str → Option Value} {news : List (Addr × Obj)} {vs : List Value} {ls : List Nat} {p : Array Nat} {Q : Value → Shared → Prop}
    (F : Fr h₀ L s.heap m) (N : News h₀ L s.heap news) (hl : s.heap.IsList l vs.toArray) (hT : TupsAre news vs ls) (h2 : 2 ≤ ls.length) (h64 : ls.length < 64) (hp : kopt ls.length (ltK ls) (kas_sort ls.length) = some p)
    (hQ : ∀ D h' tk c, Fr h₀ L h' m → (∀ q ∈ news, q.1 < D) → News h₀ L h' ((D, listOf (List.toArray (p.toList.map fun i => vs.getD i .none)) c) :: news) → Q (.ref D) { s with heap := h', toks := tk }) :
    wpAny (model prog w) A (call (.builtin "sorted") [.ref l]) Q E s := by
  obtain ⟨hlen, hat⟩ := hT
  refine kat_sorted F N hl (by omega) (by omega) ?_
  intro D e1 h' F' N' lt
  have N2 : News h₀ L h' news := fun p hp => N' p (.tail _ hp)
  obtain ⟨fs, hfl, hfi, KT⟩ := kt_of (h := h') (vs := vs) (by
    intro v hv
    obtain ⟨i, hi⟩ := List.getElem?_of_mem hv
    have hil : i < vs.length := (List.getElem?_eq_some_iff.mp hi).1
    obtain ⟨a, t, u, e, hv2, hm⟩ := hat i (by omega)
    rw [hi] at hv2
    cases hv2
    exact ⟨a, _, _, _, _, _, rfl, (N2 _ hm).1, rfl, rfl, rfl⟩)
  refine kat_kind (s := { s with heap := h' }) (T := .type "int") KT (by omega) ?_ (by decide) ?_
  · intro v hv
    obtain ⟨x, t, rfl⟩ := hfi v hv
    exact Looks.of_pure rfl
  rw [hlen]
  refine kopt_wp (n := ls.length) (lt := ltK ls) (I := fun s' => ∃ h'' tk, s' = { s with heap := h'', toks := tk } ∧ Fr h₀ L h'' m ∧ News h₀ L h'' ((D, seqObj "list" #[] e1) :: news)) ?_ _ p _ _ hp ⟨h', s.toks, rfl, F', N'⟩ ?_
  · rintro i j C s' hi hj ⟨h'', tk, rfl, F2, N3⟩ k
    obtain ⟨ai, ti, ui, ei, hvi, hmi⟩ := hat i hi
    obtain ⟨aj, tj, uj, ej, hvj, hmj⟩ := hat j hj
    have e1 : vs.getD i Value.none = .ref ai := by rw [List.getD_eq_getElem?_getD, hvi]; rfl
    have e2 : vs.getD j Value.none = .ref aj := by rw [List.getD_eq_getElem?_getD, hvj]; rfl
    unfold kas_ask
    rw [e1, e2]
    have K := k { s with heap := h'', toks := tk } ⟨h'', tk, rfl, F2, N3⟩
    refine kat_lt (N3 _ (.tail _ hmi)).1 rfl (N3 _ (.tail _ hmj)).1 rfl ?_
    refine kat_cons (p := .int (-((ls.getD i 0 : Nat) : Int)) ti) (q := .int (-((ls.getD j 0 : Nat) : Int)) tj) (r := [(.int (i : Nat) ui, .int (j : Nat) uj)]) (wpAny_eqBool_int ?_)
    unfold ltK at K
    by_cases c : ls.getD i 0 = ls.getD j 0
    · rw [c, show ((-((ls.getD j 0 : Nat) : Int)) == (-((ls.getD j 0 : Nat) : Int))) = true from beq_self_eq_true _]
      rw [c] at K
      simp only [Nat.lt_irrefl, decide_false, beq_self_eq_true, Bool.true_and, Bool.false_or] at K
      refine kat_yes (kat_cons (wpAny_eqBool_int ?_))
      by_cases c2 : i = j
      · subst c2
        rw [show (((i : Nat) : Int) == ((i : Nat) : Int)) = true from beq_self_eq_true _]
        refine kat_yes (kat_nil ?_)
        simpa using K
      · rw [show (((i : Nat) : Int) == ((j : Nat) : Int)) = false from beq_eq_false_iff_ne.mpr (by omega)]
        refine kat_no ?_
        show wpAny _ _ (oneLt' false _ _) _ _ _
        refine kat_one _ _ (wpAny_lt_int ?_)
        show C (decide (((i : Nat) : Int) < ((j : Nat) : Int))) _
        rw [show decide (((i : Nat) : Int) < ((j : Nat) : Int)) = decide (i < j) from decide_eq_decide.mpr (by omega)]
        exact K
    · rw [show ((-((ls.getD i 0 : Nat) : Int)) == (-((ls.getD j 0 : Nat) : Int))) = false from beq_eq_false_iff_ne.mpr (by omega)]
      rw [show (ls.getD i 0 == ls.getD j 0) = false from beq_eq_false_iff_ne.mpr c, Bool.false_and, Bool.or_false] at K
      refine kat_no ?_
      show wpAny _ _ (oneLt' true _ _) _ _ _
      refine oneLt_int ?_
      rw [show decide (-((ls.getD i 0 : Nat) : Int) < -((ls.getD j 0 : Nat) : Int)) = decide (ls.getD j 0 < ls.getD i 0) from decide_eq_decide.mpr (by omega)]
      exact K
  · rintro s' ⟨h'', tk, rfl, F2, N3⟩
    refine KasFin.intro F2 N3 (.head fun p hp => Nat.ne_of_lt (lt p hp)) ?_
    intro h3 c F3 N4
    exact hQ D h3 tk c F3 lt N4
end
section
noncomputable def HasG (gs : List (List Str)) (x : Str) : Prop := ∃ g ∈ gs, ∃ y r, g = y :: r ∧ (y = x ∨ costF y x ≤ 2)
theorem ins_has {nm : Str} : ∀ (gs : List (List Str)), HasG (groupIns costF gs nm) nm
  | [] => ⟨[nm], .head _, nm, [], rfl, .inl rfl⟩
  | [] :: r => by
    rw [groupIns]
    obtain ⟨g, hg, y, q, e, h⟩ := ins_has (nm := nm) r
    exact ⟨g, .tail _ hg, y, q, e, h⟩
  | (y :: g) :: r => by
    rw [groupIns]
    split
    · rename_i c
      exact ⟨_, .head _, y, g ++ [nm], rfl, .inr c⟩
    · obtain ⟨g', hg, y', q, e, h⟩ := ins_has (nm := nm) r
      exact ⟨g', .tail _ hg, y', q, e, h⟩
theorem ins_keep {nm x : Str} : ∀ {gs : List (List Str)}, HasG gs x → HasG (groupIns costF gs nm) x
  | [], ⟨g, hg, _⟩ => nomatch hg
  | [] :: r, ⟨g, hg, y, q, e, h⟩ => by
    rw [groupIns]
    rcases List.mem_cons.mp hg with rfl | hg
    · cases e
    · obtain ⟨g', hg', r'⟩ := ins_keep (gs := r) ⟨g, hg, y, q, e, h⟩
      exact ⟨g', .tail _ hg', r'⟩
  | (z :: g1) :: r, ⟨g, hg, y, q, e, h⟩ => by
    rw [groupIns]
    split
    · rcases List.mem_cons.mp hg with rfl | hg
      · cases e
        exact ⟨_, .head _, z, g1 ++ [nm], rfl, h⟩
      · exact ⟨g, .tail _ hg, y, q, e, h⟩
    · rcases List.mem_cons.mp hg with rfl | hg
      · exact ⟨_, .head _, y, q, e, h⟩
      · obtain ⟨g', hg', r'⟩ := ins_keep (nm := nm) (gs := r) ⟨g, hg, y, q, e, h⟩
        exact ⟨g', .tail _ hg', r'⟩
theorem fold_keep {x : Str} : ∀ (xs : List Str) {gs : List (List Str)}, HasG gs x → HasG (xs.foldl (groupIns costF) gs) x
  | [], _, h => h
  | y :: xs, _, h => fold_keep xs (ins_keep h)
theorem fold_has {x : Str} : ∀ (xs : List Str) {gs : List (List Str)}, x ∈ xs → HasG (xs.foldl (groupIns costF) gs) x
  | y :: xs, gs, h => by
    rcases List.mem_cons.mp h with rfl | h
    · exact fold_keep xs (ins_has gs)
    · exact fold_has xs h
set_option maxRecDepth 100000 in
theorem apart : (names40.all fun y => !(((S y == S []) || decide (costF (S y) (S []) ≤ 2)) && ((S y == S [97, 98, 65]) || decide (costF (S y) (S [97, 98, 65]) ≤ 2)))) = true := by kernel_rfl
theorem ins_nm' {nm : Str} (hn : Nm nm) : ∀ {gs : List (List Str)}, (∀ g ∈ gs, ∀ x ∈ g, Nm x) → ∀ g ∈ groupIns costF gs nm, ∀ x ∈ g, Nm x := fun h => ins_nm hn h
theorem groupsOf_nm' : ∀ (xs : List Str) {gs : List (List Str)}, (∀ x ∈ xs, Nm x) → (∀ g ∈ gs, ∀ x ∈ g, Nm x) → ∀ g ∈ xs.foldl (groupIns costF) gs, ∀ x ∈ g, Nm x
  | [], _, _, hg => hg
  | x :: xs, _, h, hg => groupsOf_nm' xs (fun y hy => h y (.tail _ hy)) (ins_nm (h x (.head _)) hg)
theorem two_groups {xs : List Str} (hNm : ∀ x ∈ xs, Nm x) (ha : S [] ∈ xs) (hb : S [97, 98, 65] ∈ xs) : 2 ≤ (groupsOf xs).length := by
  have h1 : HasG (groupsOf xs) (S []) := fold_has xs ha
  have h2 : HasG (groupsOf xs) (S [97, 98, 65]) := fold_has xs hb
  have hn := groupsOf_nm' xs (gs := []) hNm (by intro g hg; cases hg)
  obtain ⟨g, hg, y, r, e, c1⟩ := h1
  obtain ⟨g', hg', y', r', e', c2⟩ := h2
  match hG : groupsOf xs, hg, hg' with
  | [], hg, _ => cases hg
  | _ :: _ :: _, _, _ => simp
  | [z], hg, hg' =>
    exfalso
    rw [List.mem_singleton.mp hg] at e
    rw [List.mem_singleton.mp hg', e] at e'
    cases e'
    have hy : Nm y := hn z (by rw [show xs.foldl (groupIns costF) [] = [z] from hG]; exact .head _) y (by rw [e]; exact .head _)
    obtain ⟨y0, hy0, rfl⟩ := List.mem_map.mp hy
    have := List.all_eq_true.mp apart y0 hy0
    simp only [Bool.not_eq_true', Bool.and_eq_false_iff, Bool.or_eq_false_iff, beq_eq_false_iff_ne, decide_eq_false_iff_not] at this
    rcases this with ⟨p, q⟩ | ⟨p, q⟩
    · rcases c1 with c1 | c1
      · exact p c1
      · exact q c1
    · rcases c2 with c2 | c2
      · exact p c2
      · exact q c2
set_option maxRecDepth 100000 in
theorem names_has (ns : List Int) : S [] ∈ namesOf ns ∧ S [97, 98, 65] ∈ namesOf ns := by
  constructor
  · exact List.mem_map.mpr ⟨0, List.mem_append_right _ (by decide), by kernel_rfl⟩
  · exact List.mem_map.mpr ⟨63, List.mem_append_right _ (by decide), by kernel_rfl⟩
end
section
theorem idxF_eq (c : Nat → Str → Bool) (xs : List Str) (n : Nat) : idxF c xs n = ((xs.zipIdx).take n).filterMap fun p => if c p.2 p.1 then some p.1 else none := by
  induction n with
  | zero => simp [idxF]
  | succ k ih =>
    rw [idxF, ih, List.take_add_one, List.filterMap_append]
    congr 1
    rw [List.getElem?_zipIdx]
    cases h : xs[k]? with
    | none => rfl
    | some x =>
      by_cases hc : c k x = true
      · simp [hc]
      · simp [hc]
theorem toldM_cons (x : Str) (xs ys : List Str) : toldM (x :: xs) ys = (if ys.count x < xs.count x + 1 then [x] else []) ++ toldM xs ys := by
  unfold toldM
  rw [idxF_eq, idxF_eq, List.take_of_length_le (by simp), List.take_of_length_le (by simp), List.zipIdx_cons, List.filterMap_cons]
  have e : (xs.zipIdx (0 + 1)).filterMap (fun p => if decide (ys.count p.1 < ((x :: xs).drop p.2).count p.1) = true then some p.1 else none) = (xs.zipIdx).filterMap (fun p => if decide (ys.count p.1 < (xs.drop p.2).count p.1) = true then some p.1 else none) := by
    rw [List.zipIdx_succ, List.filterMap_map]
    rfl
  rw [e]
  by_cases h : ys.count x < xs.count x + 1
  · simp [h]
  · simp [h]
theorem uld_app : ∀ (a b A M : List Str), uld (a ++ b) A M = uld b (uld a A M).2 (uld a A M).1
  | [], b, A, M => rfl
  | x :: a, b, A, M => by
    rw [List.cons_append, uld, uld]
    split
    · exact uld_app a b _ _
    · exact uld_app a b _ _
theorem count_erase' (l : List Str) (a b : Str) : (l.erase a).count b = l.count b - (if a == b then 1 else 0) := by
  rw [List.count_erase]
theorem uld_one (xs A : List Str) : ∀ x, (uld xs.reverse A []).2.count x = A.count x - xs.count x := by
  suffices H : ∀ (r A M : List Str) (x : Str), (uld r A M).2.count x = A.count x - r.count x by
    intro x; rw [H, List.count_reverse]
  intro r
  induction r with
  | nil => intro A M x; rw [uld]; simp
  | cons y r ih =>
    intro A M x
    rw [uld]
    split
    · rename_i h
      rw [ih, List.count_erase, List.count_cons]
      split <;> omega
    · rename_i h
      rw [ih, List.count_cons]
      split
      · rename_i e
        have e' : y = x := by simpa using e
        subst e'
        have : A.count y = 0 := List.count_eq_zero.mpr (by simpa using h)
        omega
      · rfl
theorem uld_M (xs ys : List Str) : (uld xs.reverse ys []).1 = (toldM xs ys).reverse := by
  induction xs with
  | nil => rfl
  | cons x xs ih =>
    rw [List.reverse_cons, uld_app, toldM_cons, uld]
    have hc := uld_one xs ys x
    by_cases h : ys.count x < xs.count x + 1
    · have : (uld xs.reverse ys []).2.contains x = false := by
        rw [List.contains_eq_mem, decide_eq_false_iff_not, ← List.count_eq_zero]
        omega
      rw [if_pos h, if_neg (by rw [this]; decide), uld, List.reverse_append, ih]
      rfl
    · have : (uld xs.reverse ys []).2.contains x = true := by
        rw [List.contains_eq_mem, decide_eq_true_iff, ← List.count_pos_iff]
        omega
      rw [if_neg h, if_pos this, uld, List.nil_append, ih]
end
section
theorem fm_congr {α β : Type} {f g : α → Option β} : ∀ {l : List α}, (∀ x ∈ l, f x = g x) → l.filterMap f = l.filterMap g
  | [], _ => rfl
  | a :: l, h => by rw [List.filterMap_cons, List.filterMap_cons, h a (.head _), fm_congr fun x hx => h x (.tail _ hx)]
noncomputable def keepF (c : Str → Nat) : List Str → List Str
  | [] => []
  | y :: A => if c y = 0 then y :: keepF c A else keepF (fun z => if z = y then c z - 1 else c z) A
theorem keepF_zero : ∀ (A : List Str), keepF (fun _ => 0) A = A
  | [] => rfl
  | y :: A => by rw [keepF, if_pos rfl, keepF_zero A]
theorem keepF_erase (x : Str) : ∀ (A : List Str) (c : Str → Nat), keepF c (A.erase x) = keepF (fun z => if z = x then c z + 1 else c z) A
  | [], c => rfl
  | y :: A, c => by
    by_cases h : y = x
    · subst h
      rw [List.erase_cons_head, keepF, if_neg (by simp)]
      congr 1
      funext z
      by_cases e : z = y
      · simp [e]
      · simp [e]
    · rw [List.erase_cons_tail (by simpa using h), keepF, keepF]
      by_cases e : c y = 0
      · rw [if_pos e, if_pos (by simp [h, e]), keepF_erase x A c]
      · rw [if_neg e, if_neg (by simp [h, e]), keepF_erase x A]
        congr 1
        funext z
        by_cases e1 : z = x
        · subst e1
          simp [Ne.symm h]
        · simp [e1]
theorem uld_keep : ∀ (r A M : List Str), (uld r A M).2 = keepF (fun z => r.count z) A
  | [], A, M => by
    rw [uld]
    exact (keepF_zero A).symm
  | x :: r, A, M => by
    have key : keepF (fun z => r.count z) (A.erase x) = keepF (fun z => (x :: r).count z) A := by
      rw [keepF_erase]
      congr 1
      funext z
      rw [List.count_cons]
      by_cases e : z = x
      · simp [e]
      · simp [e, Ne.symm e]
    rw [uld]
    split
    · rw [uld_keep r, key]
    · rename_i h
      rw [uld_keep r, ← key, List.erase_of_not_mem (by simpa using h)]
theorem keep_told : ∀ (ys : List Str) (c : Str → Nat), (ys.zipIdx.filterMap fun p => if c p.1 < (ys.take (p.2 + 1)).count p.1 then some p.1 else none) = keepF c ys
  | [], c => rfl
  | y :: ys, c => by
    rw [List.zipIdx_cons, List.filterMap_cons, List.zipIdx_succ, List.filterMap_map]
    have hm : ∀ p ∈ ys.zipIdx, 1 ≤ (ys.take (p.2 + 1)).count p.1 := by
      intro p hp
      have h1 := List.mem_zipIdx_iff_getElem?.mp hp
      rw [List.take_add_one, h1, List.count_append]
      simp
    rw [keepF]
    by_cases e : c y = 0
    · rw [if_pos e, ← keep_told ys c]
      have h0 : (if c (y, 0).1 < ((y :: ys).take ((y, 0).2 + 1)).count (y, 0).1 then some (y, 0).1 else none) = some y := by simp [e]
      rw [h0]
      show y :: _ = y :: _
      congr 1
      refine fm_congr fun p hp => ?_
      have := hm p hp
      simp only [Function.comp, Prod.map, id, List.take_succ_cons, List.count_cons]
      by_cases q : y = p.1
      · have : c p.1 = 0 := q ▸ e
        rw [if_pos (by simp [q, this]), if_pos (by omega)]
      · simp [q]
    · rw [if_neg e, ← keep_told ys]
      have h0 : (if c (y, 0).1 < ((y :: ys).take ((y, 0).2 + 1)).count (y, 0).1 then some (y, 0).1 else none) = none := by
        simp; omega
      rw [h0]
      refine fm_congr fun p hp => ?_
      simp only [Function.comp, Prod.map, id, List.take_succ_cons, List.count_cons]
      by_cases q : p.1 = y
      · rw [q]
        simp only [beq_self_eq_true, if_true]
        by_cases z : c y < (ys.take (p.2 + 1)).count y + 1
        · rw [if_pos z, if_pos (by omega)]
        · rw [if_neg z, if_neg (by omega)]
      · simp [q, Ne.symm q]
theorem uld_L (xs ys : List Str) : (uld xs.reverse ys []).2 = toldL xs ys := by
  rw [uld_keep]
  unfold toldL
  rw [idxF_eq, List.take_of_length_le (by simp), ← keep_told]
  refine fm_congr fun p _ => ?_
  simp only [List.count_reverse, decide_eq_true_eq]
end
section
noncomputable def cntF (z : Str) (X Y : List Str) : Nat := if Y.contains z = true then 0 else if (Y.all fun y => ltS y z) = true then X.count z else min 1 (X.count z)
theorem cntF_zero {z : Str} {X Y : List Str} (h : X.count z = 0) : cntF z X Y = 0 := by
  unfold cntF
  rw [h]
  split
  · rfl
  · split <;> rfl
theorem cntF_congr {z : Str} {X X' Y Y' : List Str} (h1 : X.count z = X'.count z) (h2 : X.count z ≠ 0 → Y.contains z = Y'.contains z ∧ (Y.all fun y => ltS y z) = (Y'.all fun y => ltS y z)) : cntF z X Y = cntF z X' Y' := by
  by_cases h : X.count z = 0
  · rw [cntF_zero h, cntF_zero (h1 ▸ h)]
  · obtain ⟨a, b⟩ := h2 h
    unfold cntF
    rw [a, b, h1]
theorem drop_facts {x : Str} : ∀ {xs : List Str}, SortedS (x :: xs) → (∀ a ∈ xs.dropWhile (· == x), ltS x a = true) ∧ (∀ z, z ≠ x → (xs.dropWhile (· == x)).count z = xs.count z) ∧ (xs.dropWhile (· == x)).Sublist xs
  | [], _ => ⟨(fun a h => nomatch h), fun _ _ => rfl, .slnil⟩
  | w :: r, h => by
    obtain ⟨h1, h2⟩ := List.pairwise_cons.mp h
    by_cases e : w = x
    · subst e
      obtain ⟨i1, i2, i3⟩ := drop_facts (x := w) (xs := r) h2
      rw [List.dropWhile_cons_of_pos (by simp)]
      refine ⟨i1, fun z hz => ?_, i3.cons _⟩
      rw [i2 z hz, List.count_cons_of_ne (Ne.symm hz)]
    · rw [List.dropWhile_cons_of_neg (by simpa using e)]
      have hw : ltS x w = true := by
        cases q : ltS x w with
        | true => rfl
        | false => exact absurd (ltS_eq (h1 w (.head _)) q) e
      refine ⟨fun a ha => ?_, fun _ _ => rfl, List.Sublist.refl _⟩
      rcases List.mem_cons.mp ha with rfl | ha
      · exact hw
      · have h3 := (List.pairwise_cons.mp h2).1 a ha
        cases q : ltS x a with
        | true => rfl
        | false => rw [ltS_not q h3] at hw; cases hw
theorem head_lt {x y : Str} {ys : List Str} (h : SortedS (y :: ys)) (hxy : ltS x y = true) : ∀ a ∈ y :: ys, ltS x a = true := by
  intro a ha
  rcases List.mem_cons.mp ha with rfl | ha
  · exact hxy
  · have h3 := (List.pairwise_cons.mp h).1 a ha
    cases q : ltS x a with
    | true => rfl
    | false => rw [ltS_not q h3] at hxy; cases hxy
theorem lt_ne {x a : Str} (h : ltS x a = true) : a ≠ x := by
  rintro rfl
  rw [ltS_irr] at h; cases h
theorem not_in {x : Str} {l : List Str} (h : ∀ a ∈ l, ltS x a = true) : l.contains x = false := by
  rw [List.contains_eq_mem, decide_eq_false_iff_not]
  intro hm
  exact lt_ne (h x hm) rfl
theorem cnt_zero {x : Str} {l : List Str} (h : ∀ a ∈ l, ltS x a = true) : l.count x = 0 :=
  List.count_eq_zero.mpr fun hm => lt_ne (h x hm) rfl
theorem in_cons {x z : Str} {xs : List Str} (h : SortedS (x :: xs)) (hz : z ≠ x) : (x :: xs).contains z = (xs.dropWhile (· == x)).contains z := by
  have := (drop_facts h).2.1 z hz
  rw [Bool.eq_iff_iff, List.contains_eq_mem, List.contains_eq_mem, decide_eq_true_iff, decide_eq_true_iff, ← List.count_pos_iff, ← List.count_pos_iff, this, List.count_cons_of_ne (Ne.symm hz)]
theorem all_cons {x z : Str} {xs : List Str} (h : SortedS (x :: xs)) (hz : ltS x z = true) : ((x :: xs).all fun y => ltS y z) = ((xs.dropWhile (· == x)).all fun y => ltS y z) := by
  rw [Bool.eq_iff_iff, List.all_eq_true, List.all_eq_true]
  constructor
  · intro k y hy
    exact k y (.tail _ ((drop_facts h).2.2.subset hy))
  · intro k y hy
    by_cases e : y = x
    · rw [e]; exact hz
    · refine k y ?_
      have h1 := in_cons h e
      rw [List.contains_eq_mem, List.contains_eq_mem, decide_eq_decide] at h1
      exact h1.mp hy
theorem sorted_drop {x : Str} {xs : List Str} (h : SortedS (x :: xs)) : SortedS (xs.dropWhile (· == x)) := ((List.pairwise_cons.mp h).2).sublist (drop_facts h).2.2
theorem sld_counts (z : Str) : ∀ (n : Nat) (X Y M U : List Str), X.length + Y.length ≤ n → SortedS X → SortedS Y → (sld X Y M U).1.count z = M.count z + cntF z X Y ∧ (sld X Y M U).2.count z = U.count z + cntF z Y X := by
  intro n
  induction n with
  | zero =>
    intro X Y M U hn hX hY
    obtain rfl : X = [] := List.eq_nil_of_length_eq_zero (by omega)
    obtain rfl : Y = [] := List.eq_nil_of_length_eq_zero (by omega)
    rw [sld]
    simp [cntF]
  | succ n ih =>
    intro X Y M U hn hX hY
    cases X with
    | nil => rw [sld]; simp [cntF]
    | cons x xs =>
    cases Y with
    | nil => rw [sld]; simp [cntF]
    | cons y ys =>
    obtain ⟨a1, a2, a3⟩ := drop_facts hX
    obtain ⟨b1, b2, b3⟩ := drop_facts hY
    have la := a3.length_le
    have lb := b3.length_le
    simp only [List.length_cons] at hn
    rw [sld]
    by_cases h1 : ltS x y = true
    · rw [if_pos h1]
      obtain ⟨i1, i2⟩ := ih (xs.dropWhile (· == x)) (y :: ys) (M ++ [x]) U (by simp only [List.length_cons]; omega) (sorted_drop hX) hY
      rw [i1, i2]
      have hy := head_lt hY h1
      constructor
      · by_cases e : z = x
        · subst e
          rw [cntF_zero (cnt_zero a1), List.count_append]
          unfold cntF
          rw [if_neg (by rw [not_in hy]; decide), if_neg]
          · have : (z :: xs).count z = xs.count z + 1 := List.count_cons_self
            rw [this]
            simp
          · intro k
            have := List.all_eq_true.mp k y (.head _)
            rw [ltS_asymm h1] at this; cases this
        · have e2 : (M ++ [x]).count z = M.count z := by
            rw [List.count_append, List.count_cons_of_ne (Ne.symm e), List.count_nil]; rfl
          rw [e2]
          congr 1
          exact cntF_congr (by rw [a2 z e, List.count_cons_of_ne (Ne.symm e)]) fun _ => ⟨rfl, rfl⟩
      · congr 1
        refine cntF_congr rfl fun hz => ?_
        have hzy : z ∈ y :: ys := List.count_pos_iff.mp (Nat.pos_of_ne_zero hz)
        have hxz := hy z hzy
        exact ⟨(in_cons hX (lt_ne hxz)).symm, (all_cons hX hxz).symm⟩
    · have h1' : ltS x y = false := by simpa using h1
      rw [if_neg h1]
      by_cases h2 : ltS y x = true
      · rw [if_pos h2]
        obtain ⟨i1, i2⟩ := ih (x :: xs) (ys.dropWhile (· == y)) M (U ++ [y]) (by simp only [List.length_cons]; omega) hX (sorted_drop hY)
        rw [i1, i2]
        have hx := head_lt hX h2
        constructor
        · congr 1
          refine cntF_congr rfl fun hz => ?_
          have hzx : z ∈ x :: xs := List.count_pos_iff.mp (Nat.pos_of_ne_zero hz)
          have hyz := hx z hzx
          exact ⟨(in_cons hY (lt_ne hyz)).symm, (all_cons hY hyz).symm⟩
        · by_cases e : z = y
          · subst e
            rw [cntF_zero (cnt_zero b1), List.count_append]
            unfold cntF
            rw [if_neg (by rw [not_in hx]; decide), if_neg]
            · have : (z :: ys).count z = ys.count z + 1 := List.count_cons_self
              rw [this]
              simp
            · intro k
              have := List.all_eq_true.mp k x (.head _)
              rw [ltS_asymm h2] at this; cases this
          · have e2 : (U ++ [y]).count z = U.count z := by
              rw [List.count_append, List.count_cons_of_ne (Ne.symm e), List.count_nil]; rfl
            rw [e2]
            congr 1
            exact cntF_congr (by rw [b2 z e, List.count_cons_of_ne (Ne.symm e)]) fun _ => ⟨rfl, rfl⟩
      · have h2' : ltS y x = false := by simpa using h2
        obtain rfl : x = y := ltS_eq h1' h2'
        rw [if_neg h2]
        obtain ⟨i1, i2⟩ := ih (xs.dropWhile (· == x)) (ys.dropWhile (· == x)) M U (by omega) (sorted_drop hX) (sorted_drop hY)
        rw [i1, i2]
        constructor
        · congr 1
          by_cases e : z = x
          · subst e
            rw [cntF_zero (cnt_zero a1)]
            unfold cntF
            rw [if_pos (by simp)]
          · refine cntF_congr (by rw [a2 z e, List.count_cons_of_ne (Ne.symm e)]) fun hz => ?_
            have hm : z ∈ xs.dropWhile (· == x) := List.count_pos_iff.mp (Nat.pos_of_ne_zero hz)
            exact ⟨(in_cons hY e).symm, (all_cons hY (a1 z hm)).symm⟩
        · congr 1
          by_cases e : z = x
          · subst e
            rw [cntF_zero (cnt_zero b1)]
            unfold cntF
            rw [if_pos (by simp)]
          · refine cntF_congr (by rw [b2 z e, List.count_cons_of_ne (Ne.symm e)]) fun hz => ?_
            have hm : z ∈ ys.dropWhile (· == x) := List.count_pos_iff.mp (Nat.pos_of_ne_zero hz)
            exact ⟨(in_cons hX e).symm, (all_cons hX (b1 z hm)).symm⟩
end
section
theorem sld_sub : ∀ (n : Nat) (X Y M U : List Str), X.length + Y.length ≤ n → SortedS X → SortedS Y → (sld X Y M U).1.Sublist (M ++ X) ∧ (sld X Y M U).2.Sublist (U ++ Y) := by
  intro n
  induction n with
  | zero =>
    intro X Y M U hn hX hY
    obtain rfl : X = [] := List.eq_nil_of_length_eq_zero (by omega)
    obtain rfl : Y = [] := List.eq_nil_of_length_eq_zero (by omega)
    rw [sld]
    exact ⟨by show M.Sublist (M ++ []); rw [List.append_nil]; exact List.Sublist.refl _, List.Sublist.refl _⟩
  | succ n ih =>
    intro X Y M U hn hX hY
    cases X with
    | nil => rw [sld]; exact ⟨by show M.Sublist (M ++ []); rw [List.append_nil]; exact List.Sublist.refl _, List.Sublist.refl _⟩
    | cons x xs =>
    cases Y with
    | nil => rw [sld]; exact ⟨List.Sublist.refl _, by show U.Sublist (U ++ []); rw [List.append_nil]; exact List.Sublist.refl _⟩
    | cons y ys =>
    obtain ⟨a1, a2, a3⟩ := drop_facts hX
    obtain ⟨b1, b2, b3⟩ := drop_facts hY
    have la := a3.length_le
    have lb := b3.length_le
    simp only [List.length_cons] at hn
    rw [sld]
    split
    · obtain ⟨i1, i2⟩ := ih (xs.dropWhile (· == x)) (y :: ys) (M ++ [x]) U (by simp only [List.length_cons]; omega) (sorted_drop hX) hY
      refine ⟨i1.trans ?_, i2⟩
      rw [List.append_assoc]
      exact (List.Sublist.refl M).append (a3.cons_cons x)
    · split
      · obtain ⟨i1, i2⟩ := ih (x :: xs) (ys.dropWhile (· == y)) M (U ++ [y]) (by simp only [List.length_cons]; omega) hX (sorted_drop hY)
        refine ⟨i1, i2.trans ?_⟩
        rw [List.append_assoc]
        exact (List.Sublist.refl U).append (b3.cons_cons y)
      · obtain ⟨i1, i2⟩ := ih (xs.dropWhile (· == x)) (ys.dropWhile (· == y)) M U (by omega) (sorted_drop hX) (sorted_drop hY)
        exact ⟨i1.trans ((List.Sublist.refl M).append (a3.cons x)), i2.trans ((List.Sublist.refl U).append (b3.cons y))⟩
theorem lackN_count (xs ys : List Str) (z : Str) : ∀ k, (lackN xs ys k).count z = if ys.contains z = true then 0 else if ltS (maxS ys) z = true then (xs.take k).count z else min 1 ((xs.take k).count z)
  | 0 => by
    rw [lackN, List.take_zero, List.count_nil]
    split
    · rfl
    · split <;> rfl
  | k + 1 => by
    rw [lackN, List.count_append, lackN_count xs ys z k, List.take_add_one, List.count_append]
    cases h : xs[k]? with
    | none => simp
    | some x =>
      simp only [Option.toList_some]
      by_cases e : x = z
      · subst e
        by_cases c : ys.contains x = true
        · rw [if_pos c, if_pos c]
          have : lackC xs ys k x = false := by unfold lackC; rw [c]; rfl
          rw [if_neg (by rw [this]; decide)]
          rfl
        · have c' : ys.contains x = false := by simpa using c
          rw [if_neg c, if_neg c]
          by_cases m : ltS (maxS ys) x = true
          · rw [if_pos m, if_pos m]
            have : lackC xs ys k x = true := by unfold lackC; rw [c', m]; simp
            rw [if_pos this]
          · have m' : ltS (maxS ys) x = false := by simpa using m
            rw [if_neg m, if_neg m]
            by_cases t : (xs.take k).contains x = true
            · have : lackC xs ys k x = false := by unfold lackC; rw [c', m', t]; rfl
              rw [if_neg (by rw [this]; decide), List.count_nil, List.count_cons_self]
              have h1 : 0 < (xs.take k).count x := List.count_pos_iff.mpr (by simpa using t)
              omega
            · have t' : (xs.take k).contains x = false := by simpa using t
              have : lackC xs ys k x = true := by unfold lackC; rw [c', m', t']; rfl
              rw [if_pos this, List.count_cons_self, List.count_nil]
              have h1 : (xs.take k).count x = 0 := List.count_eq_zero.mpr (by simpa using t')
              rw [h1]; rfl
      · have h1 : (if lackC xs ys k x = true then [x] else []).count z = 0 := by
          split
          · rw [List.count_cons_of_ne e, List.count_nil]
          · rfl
        have h2 : [x].count z = 0 := by rw [List.count_cons_of_ne e, List.count_nil]
        rw [h1, h2]; rfl
theorem all_max {ys : List Str} (hne : ys ≠ []) (z : Str) : ((sortS ys).all fun y => ltS y z) = ltS (maxS ys) z := by
  cases ys with
  | nil => exact absurd rfl hne
  | cons w r =>
    obtain ⟨m1, m2⟩ := maxS_fold r w
    rw [Bool.eq_iff_iff, List.all_eq_true]
    constructor
    · intro k
      exact k _ ((sortS_perm (w :: r)).mem_iff.mpr m1)
    · intro k y hy
      have hy' := (sortS_perm (w :: r)).mem_iff.mp hy
      cases q : ltS y z with
      | true => rfl
      | false =>
        have := ltS_not (m2 y hy') q
        rw [show ltS (maxS (w :: r)) z = ltS (r.foldl (fun b a => if ltS b a then a else b) w) z from rfl, this] at k
        cases k
theorem sld_one {xs ys : List Str} (h2 : ys ≠ []) {R : List Str} (hs : R.Sublist (sortS xs)) (hc : ∀ z, R.count z = cntF z (sortS xs) (sortS ys)) : R = lackS xs ys := by
  unfold lackS
  refine sorted_one (List.Perm.trans ?_ (sortS_perm _).symm) ((sortS_sorted xs).sublist hs) (sortS_sorted _)
  rw [List.perm_iff_count]
  intro z
  rw [hc, lackN_count, List.take_length]
  unfold cntF
  have e1 : (sortS ys).contains z = ys.contains z := by
    rw [List.contains_eq_mem, List.contains_eq_mem, decide_eq_decide]
    exact (sortS_perm ys).mem_iff
  rw [e1, all_max h2, (sortS_perm xs).count_eq]
theorem sld_is {xs ys : List Str} (h1 : xs ≠ []) (h2 : ys ≠ []) : (sld (sortS xs) (sortS ys) [] []).1 = lackS xs ys ∧ (sld (sortS xs) (sortS ys) [] []).2 = lackS ys xs := by
  obtain ⟨s1, s2⟩ := sld_sub _ (sortS xs) (sortS ys) [] [] (Nat.le_refl _) (sortS_sorted xs) (sortS_sorted ys)
  have hc := fun z => sld_counts z _ (sortS xs) (sortS ys) [] [] (Nat.le_refl _) (sortS_sorted xs) (sortS_sorted ys)
  exact ⟨sld_one h2 s1 fun z => by rw [(hc z).1]; simp, sld_one h1 s2 fun z => by rw [(hc z).2]; simp⟩
theorem said_dat (xs ys : List Str) (h1 : xs ≠ []) (h2 : ys ≠ []) : [Dat.tuple [.list ((sld (sortS xs) (sortS ys) [] []).1.map .str), .list ((sld (sortS xs) (sortS ys) [] []).2.map .str)], .tuple [.list ((uld xs.reverse ys []).1.map .str), .list ((uld xs.reverse ys []).2.map .str)]] = [.tuple [.list ((lackS xs ys).map Dat.str), .list ((lackS ys xs).map Dat.str)], .tuple [.list ((toldM xs ys).reverse.map Dat.str), .list ((toldL xs ys).map Dat.str)]] := by
  rw [(sld_is h1 h2).1, (sld_is h1 h2).2, uld_M, uld_L]
theorem idxF_mem {c : Nat → Str → Bool} {xs : List Str} {x : Str} : ∀ {k : Nat}, x ∈ idxF c xs k → x ∈ xs
  | 0, h => nomatch h
  | k + 1, h => by
    rw [idxF] at h
    rcases List.mem_append.mp h with h | h
    · exact idxF_mem h
    · cases e : xs[k]? with
      | none => rw [e] at h; cases h
      | some y =>
        rw [e] at h
        dsimp only at h
        split at h
        · rw [List.mem_singleton.mp h]; exact List.mem_of_getElem? e
        · cases h
theorem lackN_mem {xs ys : List Str} {x : Str} : ∀ {k : Nat}, x ∈ lackN xs ys k → x ∈ xs
  | 0, h => nomatch h
  | k + 1, h => by
    rw [lackN] at h
    rcases List.mem_append.mp h with h | h
    · exact lackN_mem h
    · cases e : xs[k]? with
      | none => rw [e] at h; cases h
      | some y =>
        rw [e] at h
        dsimp only at h
        split at h
        · rw [List.mem_singleton.mp h]; exact List.mem_of_getElem? e
        · cases h
theorem lackS_mem {xs ys : List Str} {x : Str} (h : x ∈ lackS xs ys) : x ∈ xs := lackN_mem ((sortS_perm _).mem_iff.mp h)
end
section
section
local macro_rules | `(tactic| o_law) => `(tactic| refine holds_law said fun _ => ?_)
local macro_rules | `(tactic| o_head $_) => `(tactic| refine (fun (_ : True) => ?hc) ?hw)
local macro_rules | `(tactic| w_witness2) => `(tactic| exact trivial)
section
local macro_rules | `(tactic| k_head) => `(tactic| x_head)
set_option maxRecDepth 100000 in
set_option maxHeartbeats 8000000 in
open_top hx for PySem.Challenge.rw_oy0158_01
end
end
noncomputable def vw : Program := { PySem.Challenge.pw_oy0158_01 with main := { PySem.Challenge.pw_oy0158_01.main with body := (PySem.Challenge.pw_oy0158_01.main.body.drop 1).take 5 ++ (PySem.Challenge.pw_oy0158_01.main.body.drop 7).take 2 ++ (PySem.Challenge.pw_oy0158_01.main.body.drop 11).take 3 ++ PySem.Challenge.pw_oy0158_01.main.body.drop 15 } }
noncomputable def vloose : List Str := [Str.ofString "_initial_missing", Str.ofString "reduce"]
noncomputable def ads : List Addr := List.range 112
theorem ads_eq (P : Params) : ads = (hx.heap_1 P).map (·.1) := by kernel_rfl
noncomputable def hook : Hook := kHook hx.heap_1 ads ads_eq
set_option maxRecDepth 100000 in
theorem left : LeftO PySem.Challenge.rw_oy0158_01.row.toRowW.prog vw vloose (fun s => xlAt vw [] s && recOk (RowW.records PySem.Challenge.rw_oy0158_01.row.toRowW) s) (Hook.obs hook) (Hook.val hook) 1226 := fun w => by kernel_rfl
set_option maxRecDepth 100000 in
set_option maxHeartbeats 8000000 in
noncomputable def hopn (hw : PySem.Challenge.rw_oy0158_01.row.toRowW.promised) := holds_open (r := PySem.Challenge.rw_oy0158_01.row) (q := vw) (loose := vloose) (Xt := fun s => xlAt vw [] s && recOk (RowW.records PySem.Challenge.rw_oy0158_01.row.toRowW) s) (XP := XL vw []) (Yf := Hook.obs hook) (Ya := Hook.val hook) (YP := Hook.says hook) (N := 1226) left (Hook.of hook) (Hook.keeps hook) (fun s e => xl_of s (Bool.and_eq_true_iff.mp e).1) XL.keeps (by rfl) (by rfl) (by rfl) (fun s e => recFacts_of (Bool.and_eq_true_iff.mp e).2) (by rfl) (row_said said) (by decide +kernel) ⟨rfl, rfl, rfl, rfl, rfl, by decide +kernel⟩ hw
section
local macro_rules | `(tactic| o_law) => `(tactic| refine holds_law said fun _ => ?_)
local macro_rules | `(tactic| k_head) => `(tactic| refine hopn ?hw ?hc)
set_option maxRecDepth 100000 in
set_option maxHeartbeats 8000000 in
open_top hz for PySem.Challenge.rw_oy0158_01
end
end
section
inductive Op where
  | n (i : Nat)
  | o (j : Nat)
  | a
  | u (i : Nat)
  | f
  | x
inductive Rn (α : Type) where
  | mk (eqs : List (Addr × Addr)) (ok : Bool) (ops : List Op) (c : Nat) (L : List (Addr × Obj)) (tk : Tok) (t : Sem α)
noncomputable def Rn.eqs {α : Type} : Rn α → List (Addr × Addr) | .mk e _ _ _ _ _ _ => e
noncomputable def Rn.ok {α : Type} : Rn α → Bool | .mk _ b _ _ _ _ _ => b
noncomputable def Rn.ops {α : Type} : Rn α → List Op | .mk _ _ o _ _ _ _ => o
noncomputable def Rn.c {α : Type} : Rn α → Nat | .mk _ _ _ c _ _ _ => c
noncomputable def Rn.L {α : Type} : Rn α → List (Addr × Obj) | .mk _ _ _ _ L _ _ => L
noncomputable def Rn.tk {α : Type} : Rn α → Tok | .mk _ _ _ _ _ t _ => t
noncomputable def Rn.t {α : Type} : Rn α → Sem α | .mk _ _ _ _ _ _ t => t
noncomputable def Rn.pre {α : Type} (e : List (Addr × Addr)) (b : Bool) : Rn α → Rn α | .mk e' b' o c L k t => .mk (e ++ e') (b && b') o c L k t
noncomputable def Rn.fit {α : Type} (r : Rn α) : Prop := (r.eqs.map (·.1), r.ok) = (r.eqs.map (·.2), true)
theorem Rn.fit_pre {α : Type} {e : List (Addr × Addr)} {b : Bool} {r : Rn α} (h : (r.pre e b).fit) : (e.map (·.1) = e.map (·.2) ∧ b = true) ∧ r.fit := by
  obtain ⟨e', b', o, c, L, k, t⟩ := r
  obtain ⟨h1, h2⟩ := Prod.mk.inj h
  simp only [Rn.pre, Rn.eqs, Rn.ok, List.map_append, Bool.and_eq_true] at h1 h2
  obtain ⟨h3, h4⟩ := List.append_inj h1 (by rw [List.length_map, List.length_map])
  exact ⟨⟨h3, h2.1⟩, Prod.ext h4 h2.2⟩
theorem Rn.pre_t {α : Type} (e : List (Addr × Addr)) (b : Bool) (r : Rn α) : (r.pre e b).t = r.t := by cases r; rfl
theorem Rn.pre_c {α : Type} (e : List (Addr × Addr)) (b : Bool) (r : Rn α) : (r.pre e b).c = r.c := by cases r; rfl
theorem Rn.pre_L {α : Type} (e : List (Addr × Addr)) (b : Bool) (r : Rn α) : (r.pre e b).L = r.L := by cases r; rfl
theorem Rn.pre_tk {α : Type} (e : List (Addr × Addr)) (b : Bool) (r : Rn α) : (r.pre e b).tk = r.tk := by cases r; rfl
noncomputable def nxC (dq : Code → Option (Sem PySem.Fin)) : PySem.Fin → Option (Sem PySem.Fin)
  | .again c => if c.quiet = true then dq c else none
  | _ => none
noncomputable def nx0 {α : Type} : α → Option (Sem α) := fun _ => none
noncomputable def Op.src (L O : List (Addr × Obj)) : Op → Option (Addr × Obj)
  | .n i => L[i]?
  | .o i => O[i]?
  | _ => none
noncomputable def Op.upd (L : List (Addr × Obj)) : Op → Option (Nat × (Addr × Obj))
  | .u i => (L[i]?).map fun q => (i, q)
  | _ => none
noncomputable def Op.isA : Op → Bool
  | .a => true
  | _ => false
noncomputable def Op.isF : Op → Bool
  | .f => true
  | _ => false
noncomputable def Op.isX : Op → Bool
  | .x => true
  | _ => false
noncomputable def semFin {β : Type} (n : β) (f : Flow → β) : Sem PySem.Fin → β
  | .pure (.done v) => f v
  | _ => n
noncomputable def Rn.back {α : Type} (r : Rn PySem.Fin) (n : Rn α) (f : Flow → Rn α) : Rn α := semFin n (fun v => (f v).pre r.eqs r.ok) r.t
noncomputable def lcase {α : Type} (n : Rn α) (f : Op → List Op → Rn α) : List Op → Rn α
  | [] => n
  | x :: r => f x r
noncomputable abbrev GrT := (α : Type) → (α → Option (Sem α)) → List Op → Nat → List (Addr × Obj) → Tok → Sem α → Rn α
noncomputable def gs (S : Setting) (O : List (Addr × Obj)) (dq : Code → Option (Sem PySem.Fin)) (b : Nat) (R : GrT) (α : Type) (nx : α → Option (Sem α)) (op : Op) (ops : List Op) (c : Nat) (L : List (Addr × Obj)) (tk : Tok) : Sem α → Rn α
  | .rule _ k => R α nx (op :: ops) c L tk (k ())
  | .at _ k => R α nx (op :: ops) c L tk (k ())
  | .point _ k => R α nx (op :: ops) c L tk (k ())
  | .ask k => R α nx (op :: ops) c L tk (k S)
  | .pure v => (nx v).elim (.mk [] true (op :: ops) c L tk (.pure v)) fun t' => R α nx (op :: ops) c L tk t'
  | .load a p k => (op.src L O).elim (.mk [] true [] c L tk (.load a p k)) fun q => (R α nx ops c L tk (k q.2)).pre [(a, q.1)] true
  | .update a p f k => (op.upd L).elim (.mk [] true [] c L tk (.update a p f k)) fun q => (R α nx ops c (L.set q.1 (q.2.1, f q.2.2)) tk (k ())).pre [(a, q.2.1)] (!(f q.2.2).isFreed)
  | .alloc o k => bif op.isA then (R α nx ops (c + 1) ((b + (8 + c), o) :: L) tk (k (b + (8 + c)))).pre [] (!o.isFreed) else .mk [] true [] c L tk (.alloc o k)
  | .fresh k => bif op.isF then R α nx ops c L (tk + 1) (k tk) else .mk [] true [] c L tk (.fresh k)
  | .call cd none g l k => bif op.isX then .mk [] true ops c L tk (.call cd none g l k) else (dq cd).elim (.mk [] true [] c L tk (.call cd none g l k)) fun tc =>
      (fun r => Rn.back r (.mk [] true [] c L tk (.call cd none g l k)) fun v => R α nx r.ops r.c r.L r.tk (k (.ok v))) (R PySem.Fin (nxC dq) (op :: ops) c L tk tc)
  | t => .mk [] true [] c L tk t
noncomputable def gr0 (S : Setting) (O : List (Addr × Obj)) (dq : Code → Option (Sem PySem.Fin)) (b n : Nat) : GrT :=
  Nat.rec (motive := fun _ => GrT) (fun _ _ ops c L tk t => .mk [] true ops c L tk t) (fun _ R α nx ops c L tk t => lcase (.mk [] true [] c L tk t) (fun op ops => gs S O dq b R α nx op ops c L tk t) ops) n
noncomputable def gr (S : Setting) (O : List (Addr × Obj)) (dq : Code → Option (Sem PySem.Fin)) (b n : Nat) {α : Type} (nx : α → Option (Sem α)) (ops : List Op) (c : Nat) (L : List (Addr × Obj)) (tk : Tok) (t : Sem α) : Rn α := gr0 S O dq b n α nx ops c L tk t
structure Lg (h₀ : Heap) (A₀ : List Addr) (h : Heap) (L : List (Addr × Obj)) : Prop where
  own : ∀ p ∈ L, h.get? p.1 = some p.2
  nd : (L.map (·.1)).Nodup
  keep : ∀ b o, h₀.get? b = some o → b ∉ A₀ → h.get? b = some o
  low : ∀ p ∈ L, p.1 ∈ A₀ ∨ h₀.get? p.1 = none
  all : ∀ b ∈ A₀, b ∈ L.map (·.1)
section
variable {h₀ h : Heap} {A₀ : List Addr} {L : List (Addr × Obj)}
theorem Lg.start {L : List (Addr × Obj)} (hL : ∀ p ∈ L, h.get? p.1 = some p.2) (hn : (L.map (·.1)).Nodup) : Lg h (L.map (·.1)) h L :=
  ⟨hL, hn, fun _ _ e _ => e, fun p hp => .inl (List.mem_map_of_mem hp), fun _ hb => hb⟩
theorem Lg.none_of (D : Lg h₀ A₀ h L) {x : Addr} (hx : h.get? x = none) : h₀.get? x = none := by
  cases e : h₀.get? x with
  | none => rfl
  | some o =>
    by_cases hb : x ∈ A₀
    · obtain ⟨p, hp, rfl⟩ := List.mem_map.mp (D.all x hb)
      rw [D.own p hp] at hx; cases hx
    · rw [D.keep x o e hb] at hx; cases hx
theorem Lg.off (D : Lg h₀ A₀ h L) {x : Addr} (hx : h.get? x = none) : x ∉ L.map (·.1) := by
  intro hm
  obtain ⟨p, hp, rfl⟩ := List.mem_map.mp hm
  rw [D.own p hp] at hx; cases hx
theorem Lg.alloc (D : Lg h₀ A₀ h L) {o : Obj} (hf : o.isFreed = false) : Lg h₀ A₀ (h.push o) ((h.objs.size, o) :: L) := by
  have hx : h.get? h.objs.size = none := Heap.get?_none_of_le (Nat.le_refl _)
  refine ⟨?_, ?_, fun b o' e hb => Heap.get?_push_of_some _ (D.keep b o' e hb), ?_, fun b hb => .tail _ (D.all b hb)⟩
  · intro p hp
    rcases List.mem_cons.mp hp with rfl | hp
    · exact Heap.get?_push_size _ hf
    · exact Heap.get?_push_of_some _ (D.own p hp)
  · rw [List.map_cons, List.nodup_cons]
    exact ⟨D.off hx, D.nd⟩
  · intro p hp
    rcases List.mem_cons.mp hp with rfl | hp
    · exact .inr (D.none_of hx)
    · exact D.low p hp
theorem nodup_idx {l : List Addr} (hn : l.Nodup) {i j : Nat} {x : Addr} (hi : l[i]? = some x) (hj : l[j]? = some x) : i = j := by
  obtain ⟨h1, e1⟩ := List.getElem?_eq_some_iff.mp hi
  exact (List.getElem?_inj h1 hn).mp (hi.trans hj.symm)
theorem Lg.update (D : Lg h₀ A₀ h L) {i : Nat} {q : Addr × Obj} (hi : L[i]? = some q) {f : Obj → Obj} (hf : (f q.2).isFreed = false) : Lg h₀ A₀ (h.update q.1 f) (L.set i (q.1, f q.2)) := by
  have hq : q ∈ L := List.mem_of_getElem? hi
  have hk : (L.set i (q.1, f q.2)).map (·.1) = L.map (·.1) := by
    rw [List.map_set]
    refine set_same ?_
    rw [List.getElem?_map, hi]; rfl
  have hmem : ∀ p ∈ L.set i (q.1, f q.2), p = (q.1, f q.2) ∨ (p ∈ L ∧ p.1 ≠ q.1) := by
    intro p hp
    obtain ⟨j, hj⟩ := List.getElem?_of_mem hp
    by_cases e : i = j
    · subst e
      rw [List.getElem?_set_self (List.getElem?_eq_some_iff.mp hi).1] at hj
      exact .inl (Option.some.inj hj).symm
    · rw [List.getElem?_set_ne e] at hj
      refine .inr ⟨List.mem_of_getElem? hj, fun e2 => e ?_⟩
      refine nodup_idx D.nd (x := q.1) ?_ ?_
      · rw [List.getElem?_map, hi]; rfl
      · rw [List.getElem?_map, hj]; exact congrArg some e2
  refine ⟨?_, hk ▸ D.nd, ?_, ?_, hk ▸ D.all⟩
  · intro p hp
    rcases hmem p hp with rfl | ⟨hp, hne⟩
    · exact Heap.get?_update_self _ (D.own q hq) hf
    · rw [Heap.get?_update_ne _ _ _ _ hne]; exact D.own p hp
  · intro b o e hb
    rw [Heap.get?_update_ne _ _ _ _ ?_]
    · exact D.keep b o e hb
    · rintro rfl
      rcases D.low q hq with h1 | h1
      · exact hb h1
      · rw [h1] at e; cases e
  · intro p hp
    rcases hmem p hp with rfl | ⟨hp, _⟩
    · exact D.low q hq
    · exact D.low p hp
end
section
variable {α : Type} {prog : Program} {w : World} {A : Around} {E : Value → Shared → Prop} {Q : α → Shared → Prop}
theorem ex_load {h : Heap} {g : Array GenState} {d : Drawn} {t : Nat} {os : OsState} {a : Addr} {q : Option Value} {k : Obj → Sem α} {o : Obj} (ho : h.get? a = some o) (x : wpAny (model prog w) A (k o) Q E ⟨h, g, d, t, os⟩) :
    wpAny (model prog w) A (.load a q k) Q E ⟨h, g, d, t, os⟩ := wpAny_bind (m := loadPart a q) (f := k) (wpAny_loadPart ho x)
theorem ex_update {h : Heap} {g : Array GenState} {d : Drawn} {t : Nat} {os : OsState} {a : Addr} {q : Option Value} {f : Obj → Obj} {k : Unit → Sem α} {o : Obj} (ho : h.get? a = some o) (x : wpAny (model prog w) A (k ()) Q E ⟨h.update a f, g, d, t, os⟩) :
    wpAny (model prog w) A (.update a q f k) Q E ⟨h, g, d, t, os⟩ := wpAny_bind (m := updatePart a q f) (f := k) (wpAny_updatePart ho x)
theorem ex_alloc {h : Heap} {g : Array GenState} {d : Drawn} {t : Nat} {os : OsState} {o : Obj} {k : Addr → Sem α} (x : wpAny (model prog w) A (k h.objs.size) Q E ⟨h.push o, g, d, t, os⟩) :
    wpAny (model prog w) A (.alloc o k) Q E ⟨h, g, d, t, os⟩ := wpAny_bind (m := alloc o) (f := k) (wpAny_alloc x)
theorem ex_fresh {h : Heap} {g : Array GenState} {d : Drawn} {t : Nat} {os : OsState} {k : Tok → Sem α} (x : wpAny (model prog w) A (k t) Q E ⟨h, g, d, t + 1, os⟩) :
    wpAny (model prog w) A (.fresh k) Q E ⟨h, g, d, t, os⟩ := wpAny_bind (m := fresh) (f := k) (wpAny_fresh x)
noncomputable def DqOk (prog : Program) (w : World) (dq : Code → Option (Sem PySem.Fin)) : Prop :=
  ∀ (A : Around) (cd : Code) (tc : Sem PySem.Fin) (R : Result → Shared → Prop) (s : Shared), dq cd = some tc → (∀ A', wpAny (model prog w) A' tc (postC prog w A R) (postE R) s) → codeAny (model prog w) A cd R s
end
noncomputable def Rg (prog : Program) (w : World) (h₀ : Heap) (A₀ : List Addr) (b : Nat) (g : Array GenState) (d : Drawn) (os : OsState) {α : Type} (PA : Around → Prop) (Q : α → Shared → Prop) (E : Value → Shared → Prop) (t : Sem α) (h : Heap) (tk : Tok) (r : Rn α) : Prop :=
  r.fit → (∀ A h', PA A → Lg h₀ A₀ h' r.L → h'.objs.size = b + (8 + r.c) → wpAny (model prog w) A r.t Q E ⟨h', g, d, r.tk, os⟩) → ∀ A, PA A → wpAny (model prog w) A t Q E ⟨h, g, d, tk, os⟩
section
variable {prog : Program} {w : World} {h₀ : Heap} {A₀ : List Addr} {b : Nat} {g : Array GenState} {d : Drawn} {os : OsState} {α : Type} {PA : Around → Prop} {Q : α → Shared → Prop} {E : Value → Shared → Prop} {t : Sem α} {h : Heap} {tk : Tok}
theorem Rg.stop {ops : List Op} {c : Nat} {L : List (Addr × Obj)} (D : Lg h₀ A₀ h L) (hs : h.objs.size = b + (8 + c)) : Rg prog w h₀ A₀ b g d os PA Q E t h tk (.mk [] true ops c L tk t) := fun _ hk A hA => hk A h hA D hs
theorem Rg.elim {β : Type} {o : Option β} {n : Rn α} {f : β → Rn α} (hn : Rg prog w h₀ A₀ b g d os PA Q E t h tk n) (hf : ∀ q, o = some q → Rg prog w h₀ A₀ b g d os PA Q E t h tk (f q)) : Rg prog w h₀ A₀ b g d os PA Q E t h tk (o.elim n f) := by
  cases o with
  | none => exact hn
  | some q => exact hf q rfl
theorem Rg.cond {o : Bool} {n m : Rn α} (hm : Rg prog w h₀ A₀ b g d os PA Q E t h tk m) (hn : Rg prog w h₀ A₀ b g d os PA Q E t h tk n) : Rg prog w h₀ A₀ b g d os PA Q E t h tk (bif o then m else n) := by
  cases o with
  | true => exact hm
  | false => exact hn
theorem Rg.pre {e : List (Addr × Addr)} {x : Bool} {r : Rn α} (hr : e.map (·.1) = e.map (·.2) → x = true → Rg prog w h₀ A₀ b g d os PA Q E t h tk r) : Rg prog w h₀ A₀ b g d os PA Q E t h tk (r.pre e x) := by
  intro hf hk
  obtain ⟨⟨h1, h2⟩, h3⟩ := Rn.fit_pre hf
  refine hr h1 h2 h3 ?_
  rw [Rn.pre_t, Rn.pre_c, Rn.pre_L, Rn.pre_tk] at hk
  exact hk
end
theorem semFin_eq {β : Type} {n : β} {f : Flow → β} (t : Sem PySem.Fin) : semFin n f t = n ∨ ∃ v, t = .pure (.done v) ∧ semFin n f t = f v := by
  cases t with
  | pure x =>
    cases x with
    | done v => exact .inr ⟨v, rfl, rfl⟩
    | _ => exact .inl rfl
  | _ => exact .inl rfl
theorem gr_ok {prog : Program} {w : World} {h₀ : Heap} {A₀ : List Addr} {O : List (Addr × Obj)} (hO : ∀ p ∈ O, h₀.get? p.1 = some p.2 ∧ p.1 ∉ A₀) {dq : Code → Option (Sem PySem.Fin)} (hdq : DqOk prog w dq) {b : Nat} {g : Array GenState} {d : Drawn} {os : OsState} :
    ∀ (n : Nat) {α : Type} (nx : α → Option (Sem α)) (PA : Around → Prop) (Q : α → Shared → Prop) (E : Value → Shared → Prop) (_ : ∀ v t' s, nx v = some t' → (∀ A, PA A → wpAny (model prog w) A t' Q E s) → Q v s)
      (ops : List Op) (c : Nat) (L : List (Addr × Obj)) (tk : Tok) (t : Sem α) (h : Heap), Lg h₀ A₀ h L → h.objs.size = b + (8 + c) → Rg prog w h₀ A₀ b g d os PA Q E t h tk (gr ⟨prog, w.params⟩ O dq b n nx ops c L tk t) := by
  intro n
  induction n with
  | zero => intro α nx PA Q E hnx ops c L tk t h D hs; exact Rg.stop D hs
  | succ n ih =>
    intro α nx PA Q E hnx ops c L tk t h D hs
    cases ops with
    | nil => exact Rg.stop D hs
    | cons op ops =>
    show Rg prog w h₀ A₀ b g d os PA Q E t h tk (gs ⟨prog, w.params⟩ O dq b (gr0 ⟨prog, w.params⟩ O dq b n) α nx op ops c L tk t)
    have ih1 : ∀ t', Rg prog w h₀ A₀ b g d os PA Q E t' h tk (gr0 ⟨prog, w.params⟩ O dq b n α nx (op :: ops) c L tk t') := fun t' => ih nx PA Q E hnx (op :: ops) c L tk t' h D hs
    cases t with
    | rule _ k => exact fun hf hk A hA Γ p hΓ => ih1 _ hf hk A hA Γ p hΓ
    | «at» q k => exact fun hf hk A hA Γ p hΓ => ih1 _ hf hk A hA Γ q hΓ
    | point _ k => exact fun hf hk A hA Γ p hΓ => ih1 _ hf hk A hA Γ p hΓ
    | ask k => exact fun hf hk A hA Γ p hΓ => ih1 _ hf hk A hA Γ p hΓ
    | pure v => exact Rg.elim (Rg.stop D hs) fun t' e hf hk A _ => wpAny_pure (hnx v t' _ e fun A hA => ih1 t' hf hk A hA)
    | load a p k =>
      refine Rg.elim (Rg.stop D hs) fun q e => Rg.pre fun h1 _ hf hk A hA => ?_
      have ha : a = q.1 := (List.cons.inj h1).1
      refine ex_load (o := q.2) ?_ (ih nx PA Q E hnx _ c L tk (k q.2) h D hs hf hk A hA)
      cases op with
      | n i => exact ha ▸ D.own q (List.mem_of_getElem? e)
      | o i => exact ha ▸ D.keep _ _ (hO q (List.mem_of_getElem? e)).1 (hO q (List.mem_of_getElem? e)).2
      | _ => cases e
    | update a p f k =>
      refine Rg.elim (Rg.stop D hs) fun q e => Rg.pre fun h1 h3 hf hk A hA => ?_
      have ha : a = q.2.1 := (List.cons.inj h1).1
      have e' : L[q.1]? = some q.2 := by
        cases op with
        | u i =>
          obtain ⟨x, e1, e2⟩ := Option.map_eq_some_iff.mp e
          rw [← e2]; exact e1
        | _ => cases e
      subst ha
      exact ex_update (o := q.2.2) (D.own q.2 (List.mem_of_getElem? e')) (ih nx PA Q E hnx _ c _ tk (k ()) _ (D.update e' (by simpa using h3)) (by rw [Heap.size_update]; exact hs) hf hk A hA)
    | alloc o k =>
      refine Rg.cond (Rg.pre fun _ h3 hf hk A hA => ?_) (Rg.stop D hs)
      refine ex_alloc ?_
      have Da := D.alloc (o := o) (by simpa using h3)
      rw [hs] at Da ⊢
      exact ih nx PA Q E hnx _ (c + 1) _ tk (k (b + (8 + c))) _ Da (by rw [Heap.size_push, hs]; omega) hf hk A hA
    | fresh k => exact Rg.cond (fun hf hk A hA => ex_fresh (ih nx PA Q E hnx _ c L (tk + 1) (k tk) h D hs hf hk A hA)) (Rg.stop D hs)
    | call cd hd gd l k =>
      cases hd with
      | some _ => exact Rg.stop D hs
      | none =>
        refine Rg.cond (Rg.stop D hs) (Rg.elim (Rg.stop D hs) fun tc e => ?_)
        show Rg _ _ _ _ _ _ _ _ _ _ _ _ _ _ (Rn.back (gr0 ⟨prog, w.params⟩ O dq b n PySem.Fin (nxC dq) (op :: ops) c L tk tc) _ _)
        have X : ∀ Q' E' hn', Rg prog w h₀ A₀ b g d os (fun _ => True) Q' E' tc h tk (gr0 ⟨prog, w.params⟩ O dq b n PySem.Fin (nxC dq) (op :: ops) c L tk tc) := fun Q' E' hn' => ih (nxC dq) (fun _ => True) Q' E' hn' (op :: ops) c L tk tc h D hs
        generalize gr0 ⟨prog, w.params⟩ O dq b n PySem.Fin (nxC dq) (op :: ops) c L tk tc = r at X ⊢
        unfold Rn.back
        refine (semFin_eq (n := Rn.mk [] true [] c L tk (.call cd none gd l k)) (f := fun v => (gr0 ⟨prog, w.params⟩ O dq b n α nx r.ops r.c r.L r.tk (k (.ok v))).pre r.eqs r.ok) r.t).elim (fun y => ?_) (fun y => ?_)
        · rw [y]; exact Rg.stop D hs
        obtain ⟨f1, et, y⟩ := y
        rw [y]
        refine Rg.pre fun h1 h2 hf hk A hA => ?_
        refine y_start α prog w A Q E _ cd none gd l k (by intro e; cases e) (hdq _ cd tc _ _ e fun A' => ?_)
        refine X _ _ ?_ (Prod.ext h1 h2) (fun A'' h' _ D' hs' => ?_) A' trivial
        · intro v t' s' hv ht'
          cases v with
          | done f => cases hv
          | again c' =>
            unfold nxC at hv
            dsimp only at hv
            split at hv
            · rename_i hq
              exact ⟨hq, hdq _ c' t' _ s' hv fun A' => ht' A' trivial⟩
            · cases hv
        · rw [et]
          exact wpAny_pure (ih nx PA Q E hnx _ r.c r.L r.tk (k (.ok f1)) h' D' hs' hf hk A hA)
    | _ => exact Rg.stop D hs
end
section
noncomputable def bigA : Around := { handled := none, depth := 600, frames := none, guards := none, units := 5000 }
noncomputable def callK {α : Type} : Sem α → Result → Sem α
  | .call _ _ _ _ k, r => k r
  | t, _ => t
noncomputable def callG {α : Type} : Sem α → Bool
  | .call _ _ g _ _ => g
  | _ => false
noncomputable def callL {α : Type} : Sem α → List Value
  | .call _ _ _ l _ => l
  | _ => []
noncomputable def callC {α : Type} : Sem α → Option Code
  | .call c none _ _ _ => some c
  | _ => none
noncomputable def stackK {α : Type} : Sem α → List (Code × Pos) → Sem α
  | .stack k, r => k r
  | t, _ => t
theorem callC_eq {α : Type} {t : Sem α} {c : Code} (h : callC t = some c) : t = .call c none (callG t) (callL t) (callK t) := by
  cases t with
  | call c' hd g l k =>
    cases hd with
    | none => cases h; rfl
    | some _ => cases h
  | _ => cases h
theorem ex_call {α : Type} {M : Model} {A : Around} {t : Sem α} {Q : α → Shared → Prop} {E : Value → Shared → Prop} {s : Shared} (c : Code) (e : callC t = some c)
    (h : wpAny M A (.call c none (callG t) (callL t) .pure) (fun r s' => wpAny M A (callK t r) Q E s') (fun _ _ => False) s) : wpAny M A t Q E s := by
  have e' := callC_eq e
  generalize callG t = g at *
  generalize callL t = l at *
  generalize callK t = k at *
  subst e'
  exact wpAny_bind (m := .call c none g l .pure) (f := k) (wpAny_mono h (fun _ _ q => q) fun _ _ q => q.elim)
theorem ex_stack {α : Type} {prog : Program} {w : World} {A : Around} {E : Value → Shared → Prop} {Q : α → Shared → Prop} {s : Shared} {t : Sem α} (e : t = .stack (stackK t)) (x : ∀ st, Lies A st → wpAny (model prog w) A (stackK t st) Q E s) : wpAny (model prog w) A t Q E s := by
  rw [e]
  exact fun Γ p hΓ => x ((Γ.code, p) :: Γ.below) (lies_of hΓ) Γ p hΓ
theorem ex_code {prog : Program} {w : World} {A : Around} {c : Code} {R : Result → Shared → Prop} {s : Shared} (h : wpAny (model prog w) (A.under c) (denote table c) (postC prog w A R) (postE R) s) : codeAny (model prog w) A c R s :=
  y_code prog w A R s c (wpOwn_of_wpAny h)
theorem ex_enter {prog : Program} {w : World} {A : Around} {c : Code} {g : Bool} {l : List Value} {Q : Result → Shared → Prop} {E : Value → Shared → Prop} {s : Shared} (h : codeAny (model prog w) (A.mark none) c Q s) :
    wpAny (model prog w) A (.call c none g l .pure) Q E s :=
  y_start Result prog w A Q E s c none g l .pure (by intro e; cases e) (codeAny_mono h fun r s' q => wpAny_pure q)
noncomputable def dqT (TB : List (Nat × Builtin)) : Code → Option (Sem PySem.Fin)
  | .builtin id args => (TB.lookup (code id)).map fun b => b args
  | .call f args => some (callAny f args)
  | .body st env => some (denote table (.body st env))
  | _ => none
noncomputable def TbOk (TB : List (Nat × Builtin)) : Prop := ∀ p ∈ TB, ∃ id, p.1 = code id ∧ entryFor table id = some p.2
theorem mem_of_lookup {β : Type} {l : List (Nat × β)} {n : Nat} {v : β} (h : l.lookup n = some v) : (n, v) ∈ l := by
  induction l with
  | nil => cases h
  | cons p l ih =>
    obtain ⟨k, x⟩ := p
    rw [List.lookup_cons] at h
    cases e : n == k with
    | true =>
      rw [e] at h
      cases h
      rw [eq_of_beq e]; exact .head _
    | false => rw [e] at h; exact .tail _ (ih h)
theorem dq_ok {prog : Program} {w : World} {TB : List (Nat × Builtin)} (hT : TbOk TB) : DqOk prog w (dqT TB) := by
  intro A cd tc R s h x
  refine ex_code ?_
  have e : denote table cd = tc := by
    cases cd with
    | builtin id args =>
      cases e : TB.lookup (code id) with
      | none => simp only [dqT, e, Option.map_none] at h; cases h
      | some b =>
        simp only [dqT, e, Option.map_some] at h
        obtain ⟨id', h1, h2⟩ := hT _ (mem_of_lookup e)
        obtain rfl := code_inj _ _ h1
        show (match entryFor table id with | some b => b args | none => _) = _
        rw [h2]; exact Option.some.inj h
    | call f args => exact Option.some.inj h
    | body st env => exact Option.some.inj h
    | _ => cases h
  rw [e]; exact x _
inductive EqT {α : Type} (a : α) : α → Type where
  | refl : EqT a a
theorem EqT.eq {α : Type} {a b : α} : EqT a b → a = b
  | .refl => rfl
structure TNt where
  T : ((Value → Bool) → List Value → List Value) → Args → Sem PySem.Fin
  e : ∀ args, EqT (Builtin.«type.__new__» args) (T (@List.filter Value) args)
noncomputable def TNd : TNt := ⟨?T, by
    intro args
    delta Builtin.«type.__new__»
    generalize @List.filter Value = F
    exact .refl⟩
structure SGt where
  T : ((Value → Bool) → List Value → List Value) → Args → Sem PySem.Fin
  e : ∀ args, EqT (Builtin.«super.__getattribute__» args) (T (@List.dropWhile Value) args)
noncomputable def SGd : SGt := ⟨?T, by
    intro args
    delta Builtin.«super.__getattribute__»
    generalize @List.dropWhile Value = F
    exact .refl⟩
structure LIt where
  T : (Bool → Bool → Bool) → Args → Sem PySem.Fin
  e : ∀ args, EqT (Builtin.«list.__iadd__» args) (T or args)
noncomputable def LId : LIt := ⟨?T, by
    intro args
    delta Builtin.«list.__iadd__» Builtin.List.listExtendWith
    generalize or = F
    exact .refl⟩
theorem li_eq : Builtin.«list.__iadd__» = LId.T fun x y => or y x := by
  rw [← show or = fun x y => or y x from funext fun x => funext fun y => Bool.or_comm x y]
  exact funext fun args => (LId.e args).eq
noncomputable abbrev FT := (Value → Bool) → List Value → List Value
theorem tn_eq : Builtin.«type.__new__» = TNd.T (@List.filter Value) := funext fun args => (TNd.e args).eq
theorem sg_eq : Builtin.«super.__getattribute__» = SGd.T (@List.dropWhile Value) := funext fun args => (SGd.e args).eq
noncomputable abbrev GT := Nat → List (Code × Pos) → Nat → Sem Unit
noncomputable def E1 (G : GT) (own : Nat) : Sem Unit := do
  let st ← stack
  let limit ← currentRecursionLimit
  G own st limit
noncomputable def EFs : { G : GT // @enterFrame = E1 G } := ⟨fun own st limit => _, by funext own; unfold enterFrame E1; rfl⟩
theorem ef_pure {A : Around} {st : List (Code × Pos)} (l : Lies A st) (hd : A.depth < recursionLimit) : EFs.1 0 st recursionLimit = pure () := by
  have h1 := l.near hd 0
  have h2 := l.sum hd
  refine (if_neg (fun hc => ?_)).trans ((if_neg (fun hc => ?_)).trans (if_neg (fun hc => ?_)))
  · exact Bool.noConfusion (h1.symm.trans hc)
  · have hc' : ((st.map (·.1)).map (·.frames)).sum - 0 ≥ recursionLimit := hc
    omega
  · have hc' : ((st.map (·.1)).map (·.frames)).sum - 0 + ((st.map (·.1)).filter Code.isCreation).length ≥ recursionLimit := hc
    omega
structure BCt where
  T : (Nat → Sem Unit) → Str → Str → List Value → List (Str × Value) → List Stmt → Scope → List Str → Nat → Env → Pos → Option Value → Sem Value
  e : ∀ a b c d e f g h i j k, EqT (buildClass a b c d e f g h i j k) (T @enterFrame a b c d e f g h i j k)
noncomputable def BCs : BCt := ⟨?T, by
    intro a b c d e f g h i j k
    delta buildClass
    generalize @enterFrame = F
    exact .refl⟩
noncomputable def ob (w : World) (k : Nat) : Obj := match (hx.heap_1 w.params).lookup k with
  | some o => o
  | none => { cls := .none }
noncomputable def fd35 (w : World) : FuncData := match (ob w 35).data with
  | .func fd => fd
  | _ => default
noncomputable def bd35 (w : World) : List Stmt := match (fd35 w).body with
  | .stmts b => b
  | _ => []
noncomputable abbrev St (x : String) : Str := Str.ofString x
noncomputable def envCK (w : World) (x0 : Addr) : Env := envOfC (St "cmp_to_key") (fd35 w).scope x0 35 (.ref 34)
noncomputable def CT (w : World) (G : GT) (env : Env) : Sem Value := match bd35 w with
  | .ClassDef name bases keywords body decorators [] scope _ bind statics pos :: _ => do
    let a ← evalArgs (.builtin "__build_class__") false (backTo pos (starEach bases env)) (backToKw pos (keywordEach keywords env))
    standAt pos
    holding (a.pos ++ a.kw.map (·.2)) (BCs.1 (E1 G) name (qualnameIn env name bind) a.pos a.kw body scope statics (firstLineOf decorators pos) env pos none)
  | _ => .unsupported ""
noncomputable def hxo (P : Params) : Frag := (hx.heap_1 P).filter fun p => p.1 != 30
noncomputable def TBs : List (Nat × Builtin) := [(code "list.__iadd__", LId.T fun x y => or y x), (code "type.__getattribute__", Builtin.«type.__getattribute__»), (code "type.__prepare__", Builtin.«type.__prepare__»), (code "type.__init__", Builtin.«type.__init__»), (code "proto.collect", Builtin.«proto.collect»), (code "classmethod_descriptor.__get__", Builtin.«classmethod_descriptor.__get__»), (code "object.__init_subclass__", Builtin.«object.__init_subclass__»), (code "object.__new__", Builtin.«object.__new__»), (code "object.__setattr__", Builtin.«object.__setattr__»), (code "object.__getattribute__", Builtin.«object.__getattribute__»), (code "proto.getattr_hooked", Builtin.«proto.getattr_hooked»), (code "proto.slot", Builtin.«proto.slot»), (code "proto.slot#set", Builtin.«proto.slot#set»), (code "len", Builtin.«len»), (code "list.__len__", Builtin.«list.__len__»)]
noncomputable abbrev OF (w : World) : List (Addr × Obj) := [(0, ob w 0), (2, ob w 2), (3, ob w 3), (4, ob w 4), (34, ob w 34), (35, ob w 35)]
end
section
noncomputable def ent (h : Int) (k : String) (t : Tok) (v : Value) : DictEntry := ⟨h, .str (Str.ofString k) t, v⟩
structure KQ where
  bt : Addr
  ns : Addr
  sl : Addr
  f1 : Addr
  f2 : Addr
  f3 : Addr
  f4 : Addr
  f5 : Addr
  f6 : Addr
  sa : Addr
  t : Tok
  tq : Tok
  tm : Tok
  tfl : Tok
  n2 : Nat
  n3 : Nat
  n4 : Nat
  nn : Nat
  H : Nat → Int
  T : Nat → Tok
  a : Tok
  fd : Nat → FuncData
noncomputable abbrev nsP (K : KQ) : Obj :=
  ⟨.type "dict", none, .dict #[ent (K.H 0) "__module__" (K.T 0) (.str (St "cpy313.functools") K.tm), ent (K.H 1) "__qualname__" (K.T 1) (.str (St "cmp_to_key.<locals>.K") K.tq), ent (K.H 2) "__firstlineno__" (K.T 2) (.int 52 K.tfl), ent (K.H 3) "__slots__" (K.T 3) (.ref K.sl),
     ent (K.H 4) "__init__" (K.T 4) (.ref K.f1), ent (K.H 5) "__lt__" (K.T 5) (.ref K.f2), ent (K.H 6) "__gt__" (K.T 6) (.ref K.f3), ent (K.H 7) "__eq__" (K.T 7) (.ref K.f4), ent (K.H 8) "__le__" (K.T 8) (.ref K.f5), ent (K.H 9) "__ge__" (K.T 9) (.ref K.f6), ent (K.H 10) "__hash__" (K.T 10) .none, ent (K.H 11) "__static_attributes__" (K.T 11) (.ref K.sa)] K.nn, #[]⟩
noncomputable abbrev fnO (fd : FuncData) : Obj := ⟨.type "function", none, .func fd, #[]⟩
noncomputable def OT (w : World) (K : KQ) : List (Addr × Obj) := [(K.bt, ⟨.type "tuple", none, .seq #[.type "object"] K.n2, #[]⟩), (K.ns + 8, nsP K), (K.sl, ⟨.type "list", none, .seq #[.str (St "obj") K.a] K.n3, #[]⟩),
      (K.f1, fnO (K.fd 1)), (K.f2, fnO (K.fd 2)), (K.f3, fnO (K.fd 3)), (K.f4, fnO (K.fd 4)), (K.f5, fnO (K.fd 5)), (K.f6, fnO (K.fd 6)),
      (K.sa, ⟨.type "tuple", none, .seq #[.str (St "obj") K.n4] 0, #[]⟩), (2, ⟨.none, none, .dict #[], #[]⟩), (35, ob w 35)]
noncomputable def argsN (K : KQ) : Args := ⟨[.type "type", .str (Str.ofString "K") K.t, .ref K.bt, .ref (K.ns + 8)], []⟩

structure KP where
  x59 : Addr
  x60 : Addr
  x61 : Addr
  n : Nat
  hO : Int
  hD : Int
  tO : Tok
  tD : Tok
  tP : Tok
noncomputable abbrev cdO (K : KQ) (P : KP) : Obj :=
  ⟨.type "dict", none, .dict #[ent (K.H 0) "__module__" (K.T 0) (.str (St "cpy313.functools") K.tm), ent (K.H 2) "__firstlineno__" (K.T 2) (.int 52 K.tfl), ent (K.H 3) "__slots__" (K.T 3) (.ref K.sl),
     ent (K.H 4) "__init__" (K.T 4) (.ref K.f1), ent (K.H 5) "__lt__" (K.T 5) (.ref K.f2), ent (K.H 6) "__gt__" (K.T 6) (.ref K.f3), ent (K.H 7) "__eq__" (K.T 7) (.ref K.f4), ent (K.H 8) "__le__" (K.T 8) (.ref K.f5), ent (K.H 9) "__ge__" (K.T 9) (.ref K.f6), ent (K.H 10) "__hash__" (K.T 10) .none, ent (K.H 11) "__static_attributes__" (K.T 11) (.ref K.sa),
     ent P.hO "obj" P.tO (.ref P.x61), ent P.hD "__doc__" P.tD .none] P.n, #[]⟩
noncomputable abbrev clsO (K : KQ) (P : KP) : Obj :=
  ⟨.type "type", none, .cls { name := St "K", bases := [.type "object"], mro := [.ref P.x60, .type "object"], ns := P.x59, qualname := St "cmp_to_key.<locals>.K", hasDict := false, slotNames := [St "obj"] },
    #[some (.ref K.bt), none, some (.str (St "K") K.t), some (.str (St "cmp_to_key.<locals>.K") K.tq), some (.builtin "object.__new__"), some (.bool false)]⟩
noncomputable abbrev mdO (P : KP) : Obj := ⟨.type "member_descriptor", none, .fields #[.str (St "obj") P.tP, .ref P.x60, .builtin "proto.slot", .builtin "proto.slot#set", .int 0 0], #[]⟩
theorem tbs_ok : TbOk TBs := by
  intro p hp
  simp only [TBs, List.mem_cons, List.not_mem_nil, or_false] at hp
  rcases hp with rfl | rfl | rfl | rfl | rfl | rfl | rfl | rfl | rfl | rfl | rfl | rfl | rfl | rfl | rfl
  · exact ⟨_, rfl, li_eq ▸ entryFor_of_fast (by kernel_rfl)⟩
  all_goals exact ⟨_, rfl, entryFor_of_fast (by kernel_rfl)⟩
noncomputable def pureV {α : Type} : Sem α → Option α
  | .pure v => some v
  | _ => none
theorem pureV_eq {α : Type} {t : Sem α} {v : α} (h : pureV t = some v) : t = .pure v := by
  cases t with
  | pure a => cases h; rfl
  | _ => cases h
theorem wpAny_big {α : Type} {M : Model} {A : Around} {t : Sem α} {Q : α → Shared → Prop} {E : Value → Shared → Prop} {s : Shared} (h : wpAny M bigA t Q E s) (h1 : A.handled = none) (h2 : A.depth ≤ 600) (h3 : A.units ≤ 5000) : wpAny M A t Q E s :=
  fun Γ p hΓ => h Γ p ⟨hΓ.1.trans h1, Nat.le_trans hΓ.2.1 h2, fun _ e => (nomatch e), fun _ e => (nomatch e), Nat.le_trans hΓ.2.2.2.2 h3⟩
theorem run_on {α : Type} {w : World} {A : Around} {E : Value → Shared → Prop} {Q : α → Shared → Prop} {h₀ : Heap} {A₀ : List Addr} {O : List (Addr × Obj)} (hO : ∀ p ∈ O, h₀.get? p.1 = some p.2 ∧ p.1 ∉ A₀) {g : Array GenState} {d : Drawn} {os : OsState} {b n c : Nat} {ops : List Op} {L : List (Addr × Obj)} {h : Heap} {tk : Tok} {t : Sem α} {r : Rn α}
    (hr : gr ⟨PR, w.params⟩ O (dqT TBs) b n nx0 ops c L tk t = r) (D : Lg h₀ A₀ h L) (hs : h.objs.size = b + (8 + c)) (L' : List (Addr × Obj)) (c' : Nat) (tk' : Tok)
    (he : (r.eqs.map (·.1), r.ok, r.L, r.c, r.tk) = (r.eqs.map (·.2), true, L', c', tk'))
    (hk : ∀ h', Lg h₀ A₀ h' L' → h'.objs.size = b + (8 + c') → wpAny (model PR w) A r.t Q E ⟨h', g, d, tk', os⟩) :
    wpAny (model PR w) A t Q E ⟨h, g, d, tk, os⟩ := by
  subst hr
  obtain ⟨e1, e2⟩ := Prod.mk.inj he
  obtain ⟨e2, e3⟩ := Prod.mk.inj e2
  obtain ⟨e3, e4⟩ := Prod.mk.inj e3
  obtain ⟨e4, e5⟩ := Prod.mk.inj e4
  refine gr_ok hO (dq_ok tbs_ok) n nx0 (fun A' => A' = A) Q E (fun v t' s e => nomatch e) ops c L tk t h D hs (Prod.ext e1 e2) (fun A' h' hA' D' hs' => ?_) A rfl
  subst hA'
  rw [e5]
  exact hk h' (e3 ▸ D') (e4 ▸ hs')
theorem run_call {α : Type} {w : World} {A : Around} {E : Value → Shared → Prop} {Q : α → Shared → Prop} {h₀ : Heap} {A₀ : List Addr} {O : List (Addr × Obj)} (hO : ∀ p ∈ O, h₀.get? p.1 = some p.2 ∧ p.1 ∉ A₀) {g : Array GenState} {d : Drawn} {os : OsState} {b n c : Nat} {ops : List Op} {L : List (Addr × Obj)} {h : Heap} {tk : Tok} {t : Sem α} {r : Rn α}
    (hr : gr ⟨PR, w.params⟩ O (dqT TBs) b n nx0 ops c L tk t = r) (D : Lg h₀ A₀ h L) (hs : h.objs.size = b + (8 + c)) (L' : List (Addr × Obj)) (c' : Nat) (cd : Code)
    (he : (r.eqs.map (·.1), r.ok, r.L, r.c, callC r.t) = (r.eqs.map (·.2), true, L', c', some cd))
    (hk : ∀ h', Lg h₀ A₀ h' L' → h'.objs.size = b + (8 + c') → wpAny (model PR w) A (.call cd none (callG r.t) (callL r.t) .pure) (fun res s' => wpAny (model PR w) A (callK r.t res) Q E s') (fun _ _ => False) ⟨h', g, d, r.tk, os⟩) :
    wpAny (model PR w) A t Q E ⟨h, g, d, tk, os⟩ := by
  subst hr
  obtain ⟨e1, e2⟩ := Prod.mk.inj he
  obtain ⟨e2, e3⟩ := Prod.mk.inj e2
  obtain ⟨e3, e4⟩ := Prod.mk.inj e3
  obtain ⟨e4, e5⟩ := Prod.mk.inj e4
  refine gr_ok hO (dq_ok tbs_ok) n nx0 (fun A' => A' = A) Q E (fun v t' s e => nomatch e) ops c L tk t h D hs (Prod.ext e1 e2) (fun A' h' hA' D' hs' => ?_) A rfl
  subst hA'
  exact ex_call cd e5 (hk h' (e3 ▸ D') (e4 ▸ hs'))
theorem run_end {α : Type} {w : World} {A : Around} {E : Value → Shared → Prop} {Q : α → Shared → Prop} {h₀ : Heap} {A₀ : List Addr} {O : List (Addr × Obj)} (hO : ∀ p ∈ O, h₀.get? p.1 = some p.2 ∧ p.1 ∉ A₀) {g : Array GenState} {d : Drawn} {os : OsState} {b n c : Nat} {ops : List Op} {L : List (Addr × Obj)} {h : Heap} {tk : Tok} {t : Sem α} {r : Rn α}
    (hr : gr ⟨PR, w.params⟩ O (dqT TBs) b n nx0 ops c L tk t = r) (D : Lg h₀ A₀ h L) (hs : h.objs.size = b + (8 + c)) (L' : List (Addr × Obj)) (c' : Nat) (v : α)
    (he : (r.eqs.map (·.1), r.ok, r.L, r.c, pureV r.t) = (r.eqs.map (·.2), true, L', c', some v))
    (hk : ∀ h', Lg h₀ A₀ h' L' → h'.objs.size = b + (8 + c') → Q v ⟨h', g, d, r.tk, os⟩) :
    wpAny (model PR w) A t Q E ⟨h, g, d, tk, os⟩ := by
  subst hr
  obtain ⟨e1, e2⟩ := Prod.mk.inj he
  obtain ⟨e2, e3⟩ := Prod.mk.inj e2
  obtain ⟨e3, e4⟩ := Prod.mk.inj e3
  obtain ⟨e4, e5⟩ := Prod.mk.inj e4
  refine gr_ok hO (dq_ok tbs_ok) n nx0 (fun A' => A' = A) Q E (fun v t' s e => nomatch e) ops c L tk t h D hs (Prod.ext e1 e2) (fun A' h' hA' D' hs' => ?_) A rfl
  rw [pureV_eq e5]
  exact wpAny_pure (hk h' (e3 ▸ D') (e4 ▸ hs'))
noncomputable def stackB {α : Type} : Sem α → Bool
  | .stack _ => true
  | _ => false
theorem stackB_eq {α : Type} {t : Sem α} (h : stackB t = true) : t = .stack (stackK t) := by
  cases t with
  | stack k => rfl
  | _ => cases h
theorem run_stack {α : Type} {w : World} {A : Around} {E : Value → Shared → Prop} {Q : α → Shared → Prop} {h₀ : Heap} {A₀ : List Addr} {O : List (Addr × Obj)} (hO : ∀ p ∈ O, h₀.get? p.1 = some p.2 ∧ p.1 ∉ A₀) {g : Array GenState} {d : Drawn} {os : OsState} {b n c : Nat} {ops : List Op} {L : List (Addr × Obj)} {h : Heap} {tk : Tok} {t : Sem α} {r : Rn α}
    (hr : gr ⟨PR, w.params⟩ O (dqT TBs) b n nx0 ops c L tk t = r) (D : Lg h₀ A₀ h L) (hs : h.objs.size = b + (8 + c)) (L' : List (Addr × Obj)) (c' : Nat) (tk' : Tok)
    (he : (r.eqs.map (·.1), r.ok, r.L, r.c, r.tk, stackB r.t) = (r.eqs.map (·.2), true, L', c', tk', true))
    (hk : ∀ h' st, Lies A st → Lg h₀ A₀ h' L' → h'.objs.size = b + (8 + c') → wpAny (model PR w) A (stackK r.t st) Q E ⟨h', g, d, tk', os⟩) :
    wpAny (model PR w) A t Q E ⟨h, g, d, tk, os⟩ := by
  subst hr
  obtain ⟨e1, e2⟩ := Prod.mk.inj he
  obtain ⟨e2, e3⟩ := Prod.mk.inj e2
  obtain ⟨e3, e4⟩ := Prod.mk.inj e3
  obtain ⟨e4, e5⟩ := Prod.mk.inj e4
  obtain ⟨e5, e6⟩ := Prod.mk.inj e5
  refine gr_ok hO (dq_ok tbs_ok) n nx0 (fun A' => A' = A) Q E (fun v t' s e => nomatch e) ops c L tk t h D hs (Prod.ext e1 e2) (fun A' h' hA' D' hs' => ?_) A rfl
  subst hA'
  rw [e5]
  exact ex_stack (stackB_eq e6) fun st hl => hk h' st hl (e3 ▸ D') (e4 ▸ hs')
theorem denote_b {id : String} {b : Builtin} {args : Args} (h : entryFor table id = some b) : denote table (.builtin id args) = b args := by
  show (match entryFor table id with | some b => b args | none => _) = b args
  rw [h]
theorem Lg.join {h₀ h h' : Heap} {A₀ : List Addr} {L news : List (Addr × Obj)} (D : Lg h₀ A₀ h L) (M : Mem h h' [] news) : Lg h₀ A₀ h' (news ++ L) := by
  have old : ∀ b o, h.get? b = some o → h'.get? b = some o := fun b o e => M.keep b o e (by unfold away; simp)
  refine ⟨?_, ?_, fun b o e hb => old _ _ (D.keep b o e hb), ?_, fun b hb => ?_⟩
  · intro p hp
    rcases List.mem_append.mp hp with hp | hp
    · exact (M.nw p hp).1
    · exact old _ _ (D.own p hp)
  · rw [List.map_append, List.nodup_append]
    refine ⟨M.ord.imp fun h => Nat.ne_of_gt h, D.nd, ?_⟩
    intro a ha b hb e
    obtain ⟨p, hp, rfl⟩ := List.mem_map.mp ha
    exact D.off (M.nw p hp).2 (e ▸ hb)
  · intro p hp
    rcases List.mem_append.mp hp with hp | hp
    · exact .inr (D.none_of (M.nw p hp).2)
    · exact D.low p hp
  · rw [List.map_append]; exact List.mem_append_right _ (D.all b hb)
theorem Lg.join2 {h₀ h h' : Heap} {A₀ : List Addr} {L L' : List (Addr × Obj)} (D : Lg h₀ A₀ h L) (M : Lg h [] h' L') : Lg h₀ A₀ h' (L' ++ L) := by
  have old : ∀ b o, h.get? b = some o → h'.get? b = some o := fun b o e => M.keep b o e (by simp)
  have fr : ∀ p ∈ L', h.get? p.1 = none := fun p hp => (M.low p hp).resolve_left (by simp)
  refine ⟨?_, ?_, fun b o e hb => old _ _ (D.keep b o e hb), ?_, fun b hb => ?_⟩
  · intro p hp
    rcases List.mem_append.mp hp with hp | hp
    · exact M.own p hp
    · exact old _ _ (D.own p hp)
  · rw [List.map_append, List.nodup_append]
    refine ⟨M.nd, D.nd, ?_⟩
    intro a ha b hb e
    obtain ⟨p, hp, rfl⟩ := List.mem_map.mp ha
    exact D.off (fr p hp) (e ▸ hb)
  · intro p hp
    rcases List.mem_append.mp hp with hp | hp
    · exact .inr (D.none_of (fr p hp))
    · exact D.low p hp
  · rw [List.map_append]; exact List.mem_append_right _ (D.all b hb)
theorem Lg.nil {h : Heap} : Lg h [] h [] := Lg.start (L := []) (by intro p hp; cases hp) List.nodup_nil
theorem from8 {h : Heap} {k : Nat} {o : Obj} (hk : h.get? k = some o) (h7 : 7 ≤ k) : ∃ b, h.objs.size = b + (8 + 0) :=
  ⟨h.objs.size - 8, by have h2 : @LT.lt Nat _ k h.objs.size := Heap.lt_size hk; omega⟩
noncomputable def hashAt (o : Obj) (i : Nat) : Int := match o.data with
  | .dict es _ => match es.toList[i]? with
    | some e => e.hash
    | none => 0
  | _ => 0
noncomputable def objAt (L : List (Addr × Obj)) (i : Nat) : Obj := match L[i]? with
  | some p => p.2
  | none => { cls := .none }
noncomputable def entAt (o : Obj) (i : Nat) : Option DictEntry := match o.data with
  | .dict es _ => es.toList[i]?
  | _ => none
noncomputable def tokOf : Value → Tok
  | .str _ t => t
  | .int _ t => t
  | _ => 0
noncomputable def intOf : Value → Int
  | .int z _ => z
  | _ => 0
noncomputable def refOf : Value → Addr
  | .ref a => a
  | _ => 0
noncomputable def ktokAt (o : Obj) (i : Nat) : Tok := match entAt o i with
  | some e => tokOf e.key
  | none => 0
noncomputable def vtokAt (o : Obj) (i : Nat) : Tok := match entAt o i with
  | some e => tokOf e.val
  | none => 0
noncomputable def cntAt (o : Obj) : Nat := match o.data with
  | .dict _ n => n
  | _ => 0
noncomputable def itokAt (o : Obj) : Tok := match o.data with
  | .seq vs _ => match vs.toList with
    | v :: _ => tokOf v
    | [] => 0
  | _ => 0
noncomputable def scnt (o : Obj) : Nat := match o.data with
  | .seq _ n => n
  | _ => 0
noncomputable def fld (o : Obj) (i : Nat) : Value := match o.data with
  | .fields vs => match vs.toList[i]? with
    | some v => v
    | none => .none
  | _ => .none
theorem tt_swap {α : Type} {a b : Rn α} (h : @Rn.rec α (fun _ => Sem α) (fun _ _ _ _ _ _ t => t) a = @Rn.rec α (fun _ => Sem α) (fun _ _ _ _ _ _ t => t) b) : a.t = b.t := by
  cases a; cases b; exact h
noncomputable def kdefOf (b : List Stmt) (i : Nat) : Arguments × List Stmt × Scope := match b[i]? with
  | some (.FunctionDef _ args body _ _ _ sc _ _ _) => (args, body, sc)
  | _ => default
noncomputable def cbody (w : World) : List Stmt := match bd35 w with
  | .ClassDef _ _ _ body _ _ _ _ _ _ _ :: _ => body
  | _ => []
noncomputable def mkFd (w : World) (i : Nat) (nm qn : String) (clos : List (Str × Addr)) (code ct : Value) : FuncData :=
  { name := St nm, qualname := St qn, params := (kdefOf (cbody w) i).1, body := .stmts (kdefOf (cbody w) i).2.1, scope := (kdefOf (cbody w) i).2.2, globals := mainGlobals, closure := clos, defaults := .none, kwdefaults := .none, pyModule := .str (St "law_oy0158_01") 281, code := code, closureTuple := ct }
structure CF where
  y1 : Addr
  y2 : Addr
  y3 : Addr
  y4 : Addr
  y5 : Addr
  g : Int
  t1 : Tok
  t2 : Tok
  t3 : Tok
  t4 : Tok
noncomputable abbrev cdF (nm qn : String) (ln : Int) (c : CF) : Obj := ⟨.type "code", none, .fields #[.str (St nm) c.t1, .str (St qn) c.t2, .str (St "/claim/cut.py") c.t3, .int ln 0, .int 2 0, .int 0 0, .int 0 0, .int 19 0, .ref c.y1, .bool true, .int 181 0, .ref c.y2, .none, .ref c.y3, .ref c.y4, .ref c.y5, .int c.g 0, .int ln 0, .str (St "/claim/cut.py") c.t4], #[]⟩
noncomputable abbrev cdI (c : CF) : Obj := cdF "__init__" "cmp_to_key.<locals>.K.__init__" 56 c
noncomputable abbrev cdL (c : CF) : Obj := cdF "__lt__" "cmp_to_key.<locals>.K.__lt__" 59 c
noncomputable def cfOf (o : Obj) : CF := ⟨refOf (fld o 8), refOf (fld o 11), refOf (fld o 13), refOf (fld o 14), refOf (fld o 15), intOf (fld o 16), tokOf (fld o 0), tokOf (fld o 1), tokOf (fld o 2), tokOf (fld o 18)⟩
noncomputable abbrev cdK (x5 x6 tk3 : Nat) : Obj := ⟨.type "code", none, .fields #[.str (St "K") tk3, .str (St "cmp_to_key.<locals>.K") (tk3 + 1), .str (St "/claim/cut.py") (tk3 + 2), .int 52 0, .int 0 0, .int 0 0, .int 0 0, .int 0 0, .ref x5, .bool true, .int 181 0, .ref x6, .none, .none, .none, .none, .int (tk3 + 4 : Nat) 0, .int 52 0, .str (St "/claim/cut.py") (tk3 + 5)], #[]⟩
structure TQ where
  x5 : Addr
  x6 : Addr
  x7 : Addr
  tk3 : Tok
  c1 : Addr
  c2 : Addr
  c3 : Addr
  c4 : Addr
  c5 : Addr
  c6 : Addr
  k1 : CF
  k2 : CF
noncomputable abbrev tabK (T : TQ) : Obj := tabObj #[.int 56 0, .int 8 0, .ref T.c1, .int 59 0, .int 8 0, .ref T.c2, .int 62 0, .int 8 0, .ref T.c3, .int 65 0, .int 8 0, .ref T.c4, .int 68 0, .int 8 0, .ref T.c5, .int 71 0, .int 8 0, .ref T.c6]
noncomputable abbrev fnI (w : World) (c1 : Addr) : FuncData := mkFd w 2 "__init__" "cmp_to_key.<locals>.K.__init__" [] (.ref c1) .none
noncomputable abbrev fnL (w : World) (c2 ct x1 : Addr) : FuncData := mkFd w 3 "__lt__" "cmp_to_key.<locals>.K.__lt__" [(St "mycmp", x1)] (.ref c2) (.ref ct)
structure KAt (w : World) (M : List (Addr × Obj)) (x1 : Addr) (K : KQ) (P : KP) (c1 c2 ct : Addr) (k1 k2 : CF) : Prop where
  d : (P.x59, cdO K P) ∈ M
  c : (P.x60, clsO K P) ∈ M
  m : (P.x61, mdO P) ∈ M
  i : (K.f1, fnO (fnI w c1)) ∈ M
  ci : (c1, cdI k1) ∈ M
  l : (K.f2, fnO (fnL w c2 ct x1)) ∈ M
  cl : (c2, cdL k2) ∈ M
noncomputable def KIn (w : World) (M : List (Addr × Obj)) (x60 x1 : Addr) : Prop := ∃ (K : KQ) (P : KP) (c1 c2 ct : Addr) (k1 k2 : CF), x60 = P.x60 ∧ KAt w M x1 K P c1 c2 ct k1 k2
noncomputable abbrev tabT (T : TQ) : Obj := tabObj #[.int 52 0, .int 4 0, .ref T.x7]
structure TAt (M : List (Addr × Obj)) (T : TQ) : Prop where
  k : (T.x7, cdK T.x5 T.x6 T.tk3) ∈ M
  t : (T.x6, tabK T) ∈ M
  i : (T.c1, cdI T.k1) ∈ M
  l : (T.c2, cdL T.k2) ∈ M
noncomputable def TIn (M : List (Addr × Obj)) (tab : Obj) : Prop := ∃ T : TQ, tab = tabT T ∧ TAt M T
theorem KIn.mono {w : World} {M M' : List (Addr × Obj)} {x60 x1 : Addr} (h : ∀ p ∈ M, p ∈ M') : KIn w M x60 x1 → KIn w M' x60 x1 := fun ⟨K, P, c1, c2, ct, k1, k2, e, a⟩ => ⟨K, P, c1, c2, ct, k1, k2, e, h _ a.d, h _ a.c, h _ a.m, h _ a.i, h _ a.ci, h _ a.l, h _ a.cl⟩
theorem TIn.mono {M M' : List (Addr × Obj)} {tab : Obj} (h : ∀ p ∈ M, p ∈ M') : TIn M tab → TIn M' tab := fun ⟨T, e, a⟩ => ⟨T, e, h _ a.k, h _ a.t, h _ a.i, h _ a.l⟩
end
section
section
set_option maxRecDepth 100000
set_option maxHeartbeats 0
set_option hygiene false in
local macro_rules | `(tactic| x_close) => `(tactic| (refine hQ _ _ _ (by assumption)))
theorem super_x (w : World) (s : Shared) (g : Bool) (l : List Value) (K : KQ) (P : KP) (hs : s.heap.get? P.x60 = some (clsO K P)) (Q : Result → Shared → Prop) (E : Value → Shared → Prop)
    (hQ : ∀ (x : Addr) (h' : Heap) (t : Nat), Mem s.heap h' [] [(x, ⟨.type "super", none, .fields #[.ref P.x60, .ref P.x60, .ref P.x60], #[]⟩)] → Q (.ok (.ret (.ref x))) ⟨h', s.gens, s.drawn, t, s.os⟩) :
    wpAny (model PR w) bigA (.call (.call (.type "super") ⟨[.ref P.x60, .ref P.x60], []⟩) none g l .pure) Q E s := by
  obtain ⟨x59, x60, x61, n, hO, hD, tO, tD, tP⟩ := P
  obtain ⟨bt, ns, sl, f1, f2, f3, f4, f5, f6, sa, t, tq, tm, tfl, n2, n3, n4, nn, H, T, a, fd⟩ := K
  dsimp only [clsO] at *
  x_run
end
noncomputable abbrev supO (P : KP) : Obj := ⟨.type "super", none, .fields #[.ref P.x60, .ref P.x60, .ref P.x60], #[]⟩
noncomputable abbrev bmO (P : KP) : Obj := ⟨.type "builtin_function_or_method", none, .fields #[.builtin "object.__init_subclass__", .ref P.x60], #[]⟩
noncomputable def OS (w : World) (K : KQ) (P : KP) (x62 : Addr) : List (Addr × Obj) := [(x62, supO P), (2, ⟨.none, none, .dict #[], #[]⟩), (P.x60, clsO K P), (35, ob w 35)]
noncomputable def argS (x62 : Addr) (tn : Tok) : Args := ⟨[.ref x62, .str (St "__init_subclass__") tn], []⟩

section
noncomputable def Ko : FT := fun _ _ => [.type "object"]
noncomputable def opsA1 : List Op := [.o 0, .o 1, .o 0, .o 1, .o 1, .o 2, .a, .o 2, .o 2, .n 0, .n 0, .u 0, .n 0, .n 0, .a, .n 0, .n 0, .n 0, .a, .u 0, .u 0, .u 0, .n 1, .u 1, .n 1, .n 1, .n 1, .n 1, .n 1]
noncomputable def opsA2 : List Op := [.n 0, .u 0, .n 0, .u 0, .n 0, .n 0, .n 0, .n 1, .n 1, .f, .a, .n 2, .f, .n 2, .u 2, .n 1, .u 1, .n 1, .u 1, .n 2, .f, .n 2, .u 2, .n 2, .n 2, .n 2, .n 2, .o 2, .o 3, .o 4, .o 5, .o 6, .o 7, .o 8, .o 9, .n 0, .x]
noncomputable def RA1 (w : World) (K : KQ) (F : FT) (b : Nat) (tk : Tok) : Rn PySem.Fin := gr ⟨PR, w.params⟩ (OT w K) (dqT TBs) b 300 nx0 opsA1 0 [] tk (TNd.T F (argsN K))
noncomputable def LA1 (w : World) (K : KQ) (b : Nat) (tk : Tok) : List (Addr × Obj) := [(b + (8 + 2), objAt (RA1 w K Ko b tk).L 0), (b + (8 + 1), objAt (RA1 w K Ko b tk).L 1), (b + (8 + 0), objAt (RA1 w K Ko b tk).L 2)]
noncomputable def RA (w : World) (K : KQ) (b : Nat) (tk : Tok) : Rn PySem.Fin := gr ⟨PR, w.params⟩ (OT w K) (dqT TBs) b 300 nx0 opsA2 3 (LA1 w K b tk) tk (RA1 w K Ko b tk).t
noncomputable def PA (w : World) (K : KQ) (b : Nat) (tk : Tok) : KP :=
  ⟨b + (8 + 1), b + (8 + 2), b + (8 + 3), cntAt (objAt (RA w K b tk).L 2), hashAt (objAt (RA w K b tk).L 2) 11, hashAt (objAt (RA w K b tk).L 2) 12, ktokAt (objAt (RA w K b tk).L 2) 11, ktokAt (objAt (RA w K b tk).L 2) 12, tokOf (fld (objAt (RA w K b tk).L 0) 0)⟩
noncomputable def LA (w : World) (K : KQ) (b : Nat) (tk : Tok) : List (Addr × Obj) := [((PA w K b tk).x61, mdO (PA w K b tk)), ((PA w K b tk).x60, clsO K (PA w K b tk)), ((PA w K b tk).x59, cdO K (PA w K b tk)), (b + (8 + 0), objAt (RA w K b tk).L 3)]
noncomputable def RB (w : World) (K : KQ) (b : Nat) (tk : Tok) (x62 b2 : Nat) (tk2 : Tok) : Rn PySem.Fin := gr ⟨PR, w.params⟩ (OT w K) (dqT TBs) b2 300 nx0 [.f, .n 0, .x] 0 ((x62, supO (PA w K b tk)) :: LA w K b tk) tk2 (callK (RA w K b tk).t (.ok (.ret (.ref x62))))
end

theorem dep_le {A : Around} {c : Code} {n : Nat} (h : A.depth ≤ n) (w : Nat) (hw : c.weight = w) {k : Nat} (hk : n + w ≤ k) : ((A.mark none).under c).depth ≤ k := by
  show A.depth + c.weight ≤ k
  omega
theorem uni_le {A : Around} {c : Code} {n : Nat} (h : A.units ≤ n) (w : Nat) (hw : c.cUnits = w) {k : Nat} (hk : n + w ≤ k) : ((A.mark none).under c).units ≤ k := by
  show A.units + c.cUnits ≤ k
  omega
theorem hnd_under {A : Around} {c : Code} (h : A.handled = none) : ((A.mark none).under c).handled = none := by
  show (none : Option Value).or A.handled = none
  rw [h]; rfl
theorem entry_sga : entryFor table "super.__getattribute__" = some (SGd.T (@List.dropWhile Value)) := sg_eq ▸ entryFor_of_fast (by kernel_rfl)
theorem no_A {h : Heap} {O : List (Addr × Obj)} (hO : ∀ p ∈ O, h.get? p.1 = some p.2) : ∀ p ∈ O, h.get? p.1 = some p.2 ∧ p.1 ∉ ([] : List Addr) := fun p hp => ⟨hO p hp, by simp⟩
theorem mem_at {l : List (Addr × Obj)} (i : Nat) {p : Addr × Obj} (h : l[i]? = some p) : p ∈ l := List.mem_of_getElem? h
section
noncomputable def S0 (w : World) (K : KQ) (P : KP) (x62 tn b tk : Nat) : Rn PySem.Fin := gr ⟨PR, w.params⟩ (OS w K P x62) (dqT TBs) b 100 nx0 [.o 0, .x] 0 [] tk (denote table (.call (.builtin "super.__getattribute__") (argS x62 tn)))
noncomputable def Sa (w : World) (K : KQ) (P : KP) (F : FT) (x62 tn b tk : Nat) : Rn PySem.Fin := gr ⟨PR, w.params⟩ (OS w K P x62) (dqT TBs) b 100 nx0 [.o 0, .o 0, .o 0, .o 1, .o 2] 0 [] (S0 w K P x62 tn b tk).tk (SGd.T F (argS x62 tn))
noncomputable def Km (P : KP) : FT := fun _ _ => [.ref P.x60, .type "object"]
noncomputable def S1 (w : World) (K : KQ) (P : KP) (x62 tn b tk : Nat) : Rn PySem.Fin := gr ⟨PR, w.params⟩ (OS w K P x62) (dqT TBs) b 100 nx0 [.x] 0 [] (Sa w K P (Km P) x62 tn b tk).tk (Sa w K P (Km P) x62 tn b tk).t
noncomputable def S2 (w : World) (K : KQ) (P : KP) (x62 tn b tk : Nat) : Rn Result := gr ⟨PR, w.params⟩ (OS w K P x62) (dqT TBs) b 100 nx0 [.o 2, .o 2, .a, .x] 0 [] (S1 w K P x62 tn b tk).tk (.call (.call (.builtin "classmethod_descriptor.__get__") ⟨[.builtin "object.__init_subclass__", .none, .ref P.x60], []⟩) none (callG (S1 w K P x62 tn b tk).t) (callL (S1 w K P x62 tn b tk).t) .pure)
noncomputable def S3 (w : World) (K : KQ) (P : KP) (x62 tn b tk : Nat) : Rn PySem.Fin := gr ⟨PR, w.params⟩ (OS w K P x62) (dqT TBs) b 100 nx0 [.x] 1 [(b + (8 + 0), bmO P)] (S2 w K P x62 tn b tk).tk (callK (S1 w K P x62 tn b tk).t (.ok (.ret (.ref (b + (8 + 0))))))
end
section
set_option maxRecDepth 100000
set_option maxHeartbeats 0
theorem Sa_swap (w : World) (K : KQ) (P : KP) (F : FT) (x62 tn b tk : Nat) : (Sa w K P F x62 tn b tk).t = (Sa w K P (fun _ _ => F (fun x => x != .ref P.x60) [.ref P.x60, .type "object"]) x62 tn b tk).t := tt_swap (by kernel_rfl)
theorem Sa_eq (w : World) (K : KQ) (P : KP) (x62 tn b tk : Nat) : (Sa w K P (@List.dropWhile Value) x62 tn b tk).t = (Sa w K P (Km P) x62 tn b tk).t := by
  rw [Sa_swap]
  have : @List.dropWhile Value (fun x => x != .ref P.x60) [.ref P.x60, .type "object"] = [.ref P.x60, .type "object"] := by simp [List.dropWhile]
  rw [this]; rfl
theorem sga (w : World) (A : Around) (K : KQ) (P : KP) (gg : Bool) (ll : List Value) (x62 tn : Nat) (h₀ : Heap) (g : Array GenState) (d : Drawn) (tk : Tok) (os : OsState) (Q : Result → Shared → Prop) (E : Value → Shared → Prop)
   (hO : ∀ p ∈ OS w K P x62, h₀.get? p.1 = some p.2)
   (hQ : ∀ x h' t, Lg h₀ [] h' [(x, bmO P)] → Q (.ok (.ret (.ref x))) ⟨h', g, d, t, os⟩) :
   wpAny (model PR w) A (.call (.call (.builtin "super.__getattribute__") (argS x62 tn)) none gg ll .pure) Q E ⟨h₀, g, d, tk, os⟩ := by
  obtain ⟨b, hb⟩ := from8 (k := 35) (hO (35, ob w 35) (mem_at 3 rfl)) (by decide)
  refine ex_enter (ex_code ?_)
  refine run_end (r := S0 w K P x62 tn b tk) (no_A hO) rfl Lg.nil hb [] 0 (.again (.builtin "super.__getattribute__" (argS x62 tn))) (by kernel_rfl) fun h1 D1 hs1 => And.intro (by kernel_rfl) (ex_code ?_)
  rw [denote_b entry_sga]
  refine run_on (r := Sa w K P (@List.dropWhile Value) x62 tn b tk) (no_A hO) rfl D1 hs1 [] 0 (Sa w K P (Km P) x62 tn b tk).tk (by kernel_rfl) fun h1 D1 hs1 => ?_
  rw [Sa_eq]
  refine run_call (r := S1 w K P x62 tn b tk) (no_A hO) rfl D1 hs1 [] 0 (.call (.builtin "classmethod_descriptor.__get__") ⟨[.builtin "object.__init_subclass__", (if (Value.ref P.x60 == Value.ref P.x60) = true then .none else .ref P.x60), .ref P.x60], []⟩) (by kernel_rfl) fun h2 D2 hs2 => ?_
  rw [if_pos (by simp)]
  refine run_end (r := S2 w K P x62 tn b tk) (no_A hO) rfl D2 hs2 [(b + (8 + 0), bmO P)] 1 (.ok (.ret (.ref (b + (8 + 0))))) (by kernel_rfl) fun h3 D3 hs3 => ?_
  exact run_end (r := S3 w K P x62 tn b tk) (no_A hO) rfl D3 hs3 [(b + (8 + 0), bmO P)] 1 (.done (.ret (.ref (b + (8 + 0))))) (by kernel_rfl) fun h4 D4 _ => hQ _ _ _ D4
theorem RA1_swap (w : World) (K : KQ) (F : FT) (b tk : Nat) : (RA1 w K F b tk).t = (RA1 w K (fun _ _ => F (fun x => x != .ref (b + (8 + 2))) [.ref (b + (8 + 2)), .type "object"]) b tk).t := tt_swap (by kernel_rfl)
theorem RA1_eq (w : World) (K : KQ) (b tk : Nat) : (RA1 w K (@List.filter Value) b tk).t = (RA1 w K Ko b tk).t := by
  rw [RA1_swap]
  have : @List.filter Value (fun x => x != .ref (b + (8 + 2))) [.ref (b + (8 + 2)), .type "object"] = [.type "object"] := by simp
  rw [this]; rfl
end
section
noncomputable def RC (w : World) (K : KQ) (b : Nat) (tk : Tok) (x62 b2 : Nat) (tk2 : Tok) (x63 b3 : Nat) (tk3 : Tok) : Rn PySem.Fin := gr ⟨PR, w.params⟩ (OT w K) (dqT TBs) b3 300 nx0 [.n 0, .n 3, .n 3, .n 3, .n 3, .x] 0 ((x63, bmO (PA w K b tk)) :: (x62, supO (PA w K b tk)) :: LA w K b tk) tk3 (callK (RB w K b tk x62 b2 tk2).t (.ok (.ret (.ref x63))))
end
section
set_option maxRecDepth 100000
set_option maxHeartbeats 0
theorem tnew (w : World) (A : Around) (hA : A.handled = none) (hAd : A.depth ≤ 500) (hAu : A.units ≤ 4000) (K : KQ)
   (h₀ : Heap) (g : Array GenState) (d : Drawn) (tk : Tok) (os : OsState) (Q : PySem.Fin → Shared → Prop) (E : Value → Shared → Prop)
   (hO : ∀ p ∈ OT w K, h₀.get? p.1 = some p.2)
   (hQ : ∀ P h' L t', Lg h₀ [] h' L → (P.x59, cdO K P) ∈ L → (P.x60, clsO K P) ∈ L → (P.x61, mdO P) ∈ L → Q (.done (.ret (.ref P.x60))) ⟨h', g, d, t', os⟩) :
   wpAny (model PR w) A (TNd.T (@List.filter Value) (argsN K)) Q E ⟨h₀, g, d, tk, os⟩ := by
  have o35 := hO (35, ob w 35) (mem_at 11 rfl)
  obtain ⟨b, hb⟩ := from8 (k := 35) o35 (by decide)
  refine run_on (r := RA1 w K (@List.filter Value) b tk) (no_A hO) rfl Lg.nil hb (LA1 w K b tk) 3 tk (by kernel_rfl) fun h0 D0 hs0 => ?_
  rw [RA1_eq]
  refine run_call (r := RA w K b tk) (no_A hO) rfl D0 hs0 (LA w K b tk) 4 (.call (.type "super") ⟨[.ref (PA w K b tk).x60, .ref (PA w K b tk).x60], []⟩) (by kernel_rfl) fun h1 D1 hs1 => ?_
  refine wpAny_big (super_x w _ _ _ K (PA w K b tk) (D1.own (_, _) (mem_at 1 rfl)) _ _ ?_) hA (by omega) (by omega)
  intro x62 h2 tk2 M2
  have D2 := D1.join M2
  obtain ⟨b2, hb2⟩ := from8 (k := 35) (D2.keep _ _ o35 (by simp)) (by decide)
  refine run_call (r := RB w K b tk x62 b2 tk2) (no_A hO) rfl D2 hb2 ((x62, supO (PA w K b tk)) :: LA w K b tk) 0 (.call (.builtin "super.__getattribute__") (argS x62 tk2)) (by kernel_rfl) fun h3 D3 hs3 => ?_
  refine sga w A K (PA w K b tk) _ _ x62 tk2 h3 _ _ _ _ _ _ ?_ ?_
  · intro p hp
    simp only [OS, List.mem_cons, List.not_mem_nil, or_false] at hp
    rcases hp with rfl | rfl | rfl | rfl
    · exact D3.own _ (.head _)
    · exact D3.keep _ _ (hO _ (mem_at 10 rfl)) (by simp)
    · exact D3.own _ (mem_at 2 rfl)
    · exact D3.keep _ _ o35 (by simp)
  intro x63 h4 tk4 M4
  have D4 := D3.join2 M4
  obtain ⟨b3, hb3⟩ := from8 (k := 35) (D4.keep _ _ o35 (by simp)) (by decide)
  exact run_end (r := RC w K b tk x62 b2 tk2 x63 b3 tk4) (no_A hO) rfl D4 hb3 ((x63, bmO (PA w K b tk)) :: (x62, supO (PA w K b tk)) :: LA w K b tk) 0 (.done (.ret (.ref (PA w K b tk).x60))) (by kernel_rfl) fun h5 D5 _ =>
    hQ (PA w K b tk) _ _ _ D5 (mem_at 4 rfl) (mem_at 3 rfl) (mem_at 2 rfl)
end
end
section
theorem entry_tcall : entryFor table "type.__call__" = some Builtin.«type.__call__» := entryFor_of_fast (by kernel_rfl)
theorem entry_tnew : entryFor table "type.__new__" = some (TNd.T (@List.filter Value)) := tn_eq ▸ entryFor_of_fast (by kernel_rfl)
noncomputable def argT (K : KQ) : Args := ⟨[.str (Str.ofString "K") K.t, .ref K.bt, .ref (K.ns + 8)], []⟩
section
noncomputable def T0 (w : World) (K : KQ) (b tk : Nat) : Rn PySem.Fin := gr ⟨PR, w.params⟩ [] (dqT TBs) b 100 nx0 [.x] 0 [] tk (denote table (.call (.type "type") (argT K)))
noncomputable def T1 (w : World) (K : KQ) (b tk : Nat) : Rn PySem.Fin := gr ⟨PR, w.params⟩ [] (dqT TBs) b 100 nx0 [.x] 0 [] tk (Builtin.«type.__call__» (argsN K))
noncomputable def T2 (w : World) (K : KQ) (b tk : Nat) : Rn PySem.Fin := gr ⟨PR, w.params⟩ [] (dqT TBs) b 100 nx0 [.x] 0 [] tk (denote table (.call (.builtin "type.__new__") (argsN K)))
noncomputable def T3 (w : World) (K : KQ) (P : KP) (b tk b2 tk2 : Nat) : Rn PySem.Fin := gr ⟨PR, w.params⟩ [(P.x60, clsO K P)] (dqT TBs) b2 100 nx0 [.o 0, .o 0, .o 0, .x] 0 [] tk2 (callK (T1 w K b tk).t (.ok (.ret (.ref P.x60))))
end
section
set_option maxRecDepth 100000
set_option maxHeartbeats 0
theorem tcall (w : World) (A : Around) (hA : A.handled = none) (hAd : A.depth ≤ 450) (hAu : A.units ≤ 3900) (gg : Bool) (ll : List Value) (K : KQ)
   (h₀ : Heap) (g : Array GenState) (d : Drawn) (tk : Tok) (os : OsState) (Q : Result → Shared → Prop) (E : Value → Shared → Prop)
   (hO : ∀ p ∈ OT w K, h₀.get? p.1 = some p.2)
   (hQ : ∀ P h' L t', Lg h₀ [] h' L → (P.x59, cdO K P) ∈ L → (P.x60, clsO K P) ∈ L → (P.x61, mdO P) ∈ L → Q (.ok (.ret (.ref P.x60))) ⟨h', g, d, t', os⟩) :
   wpAny (model PR w) A (.call (.call (.type "type") (argT K)) none gg ll .pure) Q E ⟨h₀, g, d, tk, os⟩ := by
  have o35 := hO (35, ob w 35) (mem_at 11 rfl)
  obtain ⟨b, hb⟩ := from8 (k := 35) o35 (by decide)
  have no : ∀ {h : Heap}, ∀ p ∈ ([] : List (Addr × Obj)), h.get? p.1 = some p.2 ∧ p.1 ∉ ([] : List Addr) := fun p hp => nomatch hp
  refine ex_enter (ex_code ?_)
  refine run_end (r := T0 w K b tk) no rfl Lg.nil hb [] 0 (.again (.builtin "type.__call__" (argsN K))) (by kernel_rfl) fun h1 D1 hs1 => And.intro (by kernel_rfl) (ex_code ?_)
  rw [denote_b entry_tcall]
  refine run_call (r := T1 w K b (T0 w K b tk).tk) no rfl D1 hs1 [] 0 (.call (.builtin "type.__new__") (argsN K)) (by kernel_rfl) fun h2 D2 hs2 => ?_
  have b1 := dep_le hAd (c := .builtin "type.__call__" (argsN K)) 0 (by kernel_rfl) (Nat.le_refl _)
  have b2 := uni_le hAu (c := .builtin "type.__call__" (argsN K)) 1 (by kernel_rfl) (Nat.le_refl _)
  have b3 := hnd_under hA (c := .builtin "type.__call__" (argsN K))
  generalize (A.mark none).under (.builtin "type.__call__" (argsN K)) = A1 at *
  refine ex_enter (ex_code ?_)
  refine run_end (r := T2 w K b (T1 w K b (T0 w K b tk).tk).tk) no rfl D2 hs2 [] 0 (.again (.builtin "type.__new__" (argsN K))) (by kernel_rfl) fun h3 D3 hs3 => And.intro (by kernel_rfl) (ex_code ?_)
  rw [denote_b entry_tnew]
  refine tnew w _ (hnd_under b3) (dep_le b1 0 (by kernel_rfl) (by omega)) (uni_le b2 1 (by kernel_rfl) (by omega)) K h3 _ _ _ _ _ _ (fun p hp => D3.keep _ _ (hO p hp) (by simp)) ?_
  intro P h4 L4 tk4 D4 m1 m2 m3
  show wpAny _ _ _ _ _ _
  have D5 := D3.join2 D4
  rw [List.append_nil] at D5
  obtain ⟨b4, hb4⟩ := from8 (k := 35) (D5.keep _ _ o35 (by simp)) (by decide)
  refine run_end (h₀ := h4) (r := T3 w K P b (T0 w K b tk).tk b4 tk4) (fun p hp => ?_) rfl Lg.nil hb4 [] 0 (.done (.ret (.ref P.x60))) (by kernel_rfl) fun h6 D6 _ => ?_
  · rw [List.mem_singleton.mp hp]; exact ⟨D4.own _ m2, by simp⟩
  have D7 := D5.join2 D6
  exact hQ P h6 _ _ D7 m1 m2 m3
end
end
section
section
noncomputable def Gk : GT := fun _ _ _ => pure ()
noncomputable def OE (w : World) : Option TQ → List (Addr × Obj)
  | none => OF w
  | some T => OF w ++ [(30, tabT T), (T.x7, cdK T.x5 T.x6 T.tk3), (T.x6, tabK T)]
noncomputable def LE : Option TQ → List (Addr × Obj)
  | none => [(30, tabObj #[])]
  | some _ => []
noncomputable def C11 (w : World) (G : GT) (b x0 tk : Nat) : Rn Value := gr ⟨PR, w.params⟩ (OE w none) (dqT TBs) b 300 nx0 [.o 2, .o 0, .a, .f, .f, .a, .n 0, .a, .n 0, .o 4, .n 3, .f, .f, .f, .f, .a, .a, .f, .f, .a, .n 6, .u 6, .n 6, .o 2, .o 3, .o 2, .a, .x] 0 (LE none) tk (CT w G (envCK w x0))
noncomputable def LC1 (w : World) (b x0 tk : Nat) : List (Addr × Obj) := [(b + (8 + 6), objAt (C11 w Gk b x0 tk).L 0), (b + (8 + 5), objAt (C11 w Gk b x0 tk).L 1), (b + (8 + 4), objAt (C11 w Gk b x0 tk).L 2), (b + (8 + 3), objAt (C11 w Gk b x0 tk).L 3), (b + (8 + 2), objAt (C11 w Gk b x0 tk).L 4), (b + (8 + 1), objAt (C11 w Gk b x0 tk).L 5), (b + (8 + 0), objAt (C11 w Gk b x0 tk).L 6), (30, objAt (C11 w Gk b x0 tk).L 7)]
noncomputable def C21 (w : World) (G : GT) (b x0 tk : Nat) (st : List (Code × Pos)) : Rn Value := gr ⟨PR, w.params⟩ (OE w none) (dqT TBs) b 300 nx0 [.o 1] 7 (LC1 w b x0 tk) (tk + 8) (stackK (C11 w G b x0 tk).t st)
noncomputable def C12 (w : World) (T : TQ) (G : GT) (b x0 tk : Nat) : Rn Value := gr ⟨PR, w.params⟩ (OE w (some T)) (dqT TBs) b 300 nx0 [.o 2, .o 0, .a, .f, .f, .a, .n 0, .a, .n 0, .o 4, .o 6, .o 2, .o 3, .o 2, .a, .x] 0 (LE (some T)) tk (CT w G (envCK w x0))
noncomputable def LC2 (w : World) (T : TQ) (b x0 tk : Nat) : List (Addr × Obj) := [(b + (8 + 3), objAt (C12 w T Gk b x0 tk).L 0), (b + (8 + 2), objAt (C12 w T Gk b x0 tk).L 1), (b + (8 + 1), objAt (C12 w T Gk b x0 tk).L 2), (b + (8 + 0), objAt (C12 w T Gk b x0 tk).L 3)]
noncomputable def C22 (w : World) (T : TQ) (G : GT) (b x0 tk : Nat) (st : List (Code × Pos)) : Rn Value := gr ⟨PR, w.params⟩ (OE w (some T)) (dqT TBs) b 300 nx0 [.o 1] 4 (LC2 w T b x0 tk) (tk + 2) (stackK (C12 w T G b x0 tk).t st)
noncomputable def C31 (w : World) (b x0 tk : Nat) (st : List (Code × Pos)) : Rn Value := gr ⟨PR, w.params⟩ (OE w none) (dqT TBs) b 3000 nx0 [.n 4, .n 4, .o 2, .n 4, .f, .n 4, .u 4, .f, .n 4, .f, .n 4, .u 4, .f, .n 4, .f, .n 4, .u 4, .f, .n 4, .f, .n 4, .u 4, .f, .a, .n 5, .f, .n 5, .u 5, .n 2, .n 3, .f, .f, .f, .a, .a, .f, .f, .a, .a, .a, .f, .f, .a, .n 9, .u 9, .n 9, .o 2, .o 3, .o 2, .a, .n 12, .f, .n 12, .u 12, .a, .n 10, .n 11, .f, .f, .f, .f, .a, .a, .f, .f, .a, .a, .a, .f, .f, .a, .n 17, .u 17, .n 17, .o 2, .o 3, .o 2, .a, .n 20, .f, .n 20, .u 20, .a, .n 18, .n 19, .f, .f, .f, .f, .a, .a, .f, .f, .a, .a, .a, .f, .f, .a, .n 25, .u 25, .n 25, .o 2, .o 3, .o 2, .a, .n 28, .f, .n 28, .u 28, .a, .n 26, .n 27, .f, .f, .f, .f, .a, .a, .f, .f, .a, .a, .a, .f, .f, .a, .n 33, .u 33, .n 33, .o 2, .o 3, .o 2, .a, .n 36, .f, .n 36, .u 36, .a, .n 34, .n 35, .f, .f, .f, .f, .a, .a, .f, .f, .a, .a, .a, .f, .f, .a, .n 41, .u 41, .n 41, .o 2, .o 3, .o 2, .a, .n 44, .f, .n 44, .u 44, .a, .n 42, .n 43, .f, .f, .f, .f, .a, .a, .f, .f, .a, .a, .a, .f, .f, .a, .n 49, .u 49, .n 49, .o 2, .o 3, .o 2, .a, .n 52, .f, .n 52, .u 52, .n 52, .f, .n 52, .u 52, .f, .a, .n 53, .f, .n 53, .u 53, .x] 7 (LC1 w b x0 tk) (tk + 8) (C21 w Gk b x0 tk st).t
noncomputable def C32 (w : World) (T : TQ) (b x0 tk : Nat) (st : List (Code × Pos)) : Rn Value := gr ⟨PR, w.params⟩ (OE w (some T)) (dqT TBs) b 3000 nx0 [.n 1, .n 1, .o 2, .n 1, .f, .n 1, .u 1, .f, .n 1, .f, .n 1, .u 1, .f, .n 1, .f, .n 1, .u 1, .f, .n 1, .f, .n 1, .u 1, .f, .a, .n 2, .f, .n 2, .u 2, .o 7, .o 8, .o 2, .o 3, .o 2, .a, .n 3, .f, .n 3, .u 3, .a, .o 7, .o 8, .o 2, .o 3, .o 2, .a, .n 5, .f, .n 5, .u 5, .a, .o 7, .o 8, .o 2, .o 3, .o 2, .a, .n 7, .f, .n 7, .u 7, .a, .o 7, .o 8, .o 2, .o 3, .o 2, .a, .n 9, .f, .n 9, .u 9, .a, .o 7, .o 8, .o 2, .o 3, .o 2, .a, .n 11, .f, .n 11, .u 11, .a, .o 7, .o 8, .o 2, .o 3, .o 2, .a, .n 13, .f, .n 13, .u 13, .n 13, .f, .n 13, .u 13, .f, .a, .n 14, .f, .n 14, .u 14, .x] 4 (LC2 w T b x0 tk) (tk + 2) (C22 w T Gk b x0 tk st).t
noncomputable def funcOf (o : Obj) : FuncData := match o.data with
  | .func fd => fd
  | _ => default
noncomputable def KQ1 (w : World) (b x0 tk : Nat) (st : List (Code × Pos)) : KQ :=
  { bt := b + (8 + 0), ns := b + 2, sl := b + (8 + 7), f1 := b + (8 + 14), f2 := b + (8 + 22), f3 := b + (8 + 30), f4 := b + (8 + 38), f5 := b + (8 + 46), f6 := b + (8 + 54), sa := b + (8 + 55)
    t := tk, tq := vtokAt (objAt (C31 w b x0 tk st).L 53) 1, tm := vtokAt (objAt (C31 w b x0 tk st).L 53) 0, tfl := vtokAt (objAt (C31 w b x0 tk st).L 53) 2, n2 := scnt (objAt (C31 w b x0 tk st).L 55), n3 := scnt (objAt (C31 w b x0 tk st).L 48), n4 := itokAt (objAt (C31 w b x0 tk st).L 0), nn := cntAt (objAt (C31 w b x0 tk st).L 53)
    H := fun i => hashAt (objAt (C31 w b x0 tk st).L 53) i, T := fun i => ktokAt (objAt (C31 w b x0 tk st).L 53) i, a := itokAt (objAt (C31 w b x0 tk st).L 48), fd := fun i => funcOf (objAt (C31 w b x0 tk st).L (49 - 8 * i)) }
noncomputable def TQ1 (w : World) (b x0 tk : Nat) (st : List (Code × Pos)) : TQ :=
  { x5 := b + (8 + 3), x6 := b + (8 + 4), x7 := b + (8 + 5), tk3 := tk + 2, c1 := b + (8 + 13), c2 := b + (8 + 21), c3 := b + (8 + 29), c4 := b + (8 + 37), c5 := b + (8 + 45), c6 := b + (8 + 53), k1 := cfOf (objAt (C31 w b x0 tk st).L 42), k2 := cfOf (objAt (C31 w b x0 tk st).L 34) }
noncomputable def C41 (w : World) (b x0 tk : Nat) (st : List (Code × Pos)) (P : KP) (L4 : List (Addr × Obj)) (b5 tk4 : Nat) : Rn Value := gr ⟨PR, w.params⟩ (OE w none) (dqT TBs) b5 100 nx0 [.x] 0 (L4 ++ (C31 w b x0 tk st).L) tk4 (callK (C31 w b x0 tk st).t (.ok (.ret (.ref P.x60))))
noncomputable def KQ2 (w : World) (T : TQ) (b x0 tk : Nat) (st : List (Code × Pos)) : KQ :=
  { bt := b + (8 + 0), ns := b + 2, sl := b + (8 + 4), f1 := b + (8 + 5), f2 := b + (8 + 7), f3 := b + (8 + 9), f4 := b + (8 + 11), f5 := b + (8 + 13), f6 := b + (8 + 15), sa := b + (8 + 16)
    t := tk, tq := vtokAt (objAt (C32 w T b x0 tk st).L 14) 1, tm := vtokAt (objAt (C32 w T b x0 tk st).L 14) 0, tfl := vtokAt (objAt (C32 w T b x0 tk st).L 14) 2, n2 := scnt (objAt (C32 w T b x0 tk st).L 16), n3 := scnt (objAt (C32 w T b x0 tk st).L 12), n4 := itokAt (objAt (C32 w T b x0 tk st).L 0), nn := cntAt (objAt (C32 w T b x0 tk st).L 14)
    H := fun i => hashAt (objAt (C32 w T b x0 tk st).L 14) i, T := fun i => ktokAt (objAt (C32 w T b x0 tk st).L 14) i, a := itokAt (objAt (C32 w T b x0 tk st).L 12), fd := fun i => funcOf (objAt (C32 w T b x0 tk st).L (13 - 2 * i)) }
noncomputable def C42 (w : World) (T : TQ) (b x0 tk : Nat) (st : List (Code × Pos)) (P : KP) (L4 : List (Addr × Obj)) (b5 tk4 : Nat) : Rn Value := gr ⟨PR, w.params⟩ (OE w (some T)) (dqT TBs) b5 100 nx0 [.x] 0 (L4 ++ (C32 w T b x0 tk st).L) tk4 (callK (C32 w T b x0 tk st).t (.ok (.ret (.ref P.x60))))
end
section
set_option maxRecDepth 100000
set_option maxHeartbeats 0
theorem z0 (w : World) : (hxo w.params).lookup 0 = some (ob w 0) := by kernel_rfl
theorem z2 (w : World) : (hxo w.params).lookup 2 = some (ob w 2) := by kernel_rfl
theorem z2' (w : World) : ob w 2 = ⟨.none, none, .dict #[], #[]⟩ := by kernel_rfl
theorem z3 (w : World) : (hxo w.params).lookup 3 = some (ob w 3) := by kernel_rfl
theorem z4 (w : World) : (hxo w.params).lookup 4 = some (ob w 4) := by kernel_rfl
theorem z34 (w : World) : (hxo w.params).lookup 34 = some (ob w 34) := by kernel_rfl
theorem z35 (w : World) : (hxo w.params).lookup 35 = some (ob w 35) := by kernel_rfl
theorem of_at {w : World} {h : Heap} (X : (hxo w.params).In h) : ∀ p ∈ OF w, h.get? p.1 = some p.2 ∧ p.1 ∉ ([30] : List Addr) := by
  intro p hp
  simp only [List.mem_cons, List.not_mem_nil, or_false] at hp
  rcases hp with rfl | rfl | rfl | rfl | rfl | rfl
  · exact ⟨X _ _ (z0 w), by simp⟩
  · exact ⟨X _ _ (z2 w), by simp⟩
  · exact ⟨X _ _ (z3 w), by simp⟩
  · exact ⟨X _ _ (z4 w), by simp⟩
  · exact ⟨X _ _ (z34 w), by simp⟩
  · exact ⟨X _ _ (z35 w), by simp⟩
theorem C21_swap (w : World) (G : GT) (b x0 tk : Nat) (st : List (Code × Pos)) : (C21 w G b x0 tk st).t = (C21 w (fun _ _ _ => G 0 st recursionLimit) b x0 tk st).t := tt_swap (by kernel_rfl)
theorem C21_eq (w : World) (b x0 tk : Nat) {A : Around} {st : List (Code × Pos)} (l : Lies A st) (hd : A.depth < recursionLimit) : (C21 w EFs.1 b x0 tk st).t = (C21 w Gk b x0 tk st).t := by
  rw [C21_swap, ef_pure l hd]; rfl
theorem ck_make1 (w : World) (A : Around) (hA : A.handled = none) (hAd : A.depth ≤ 400) (hAu : A.units ≤ 3500) (x0 : Nat) (h₀ : Heap) (g : Array GenState) (d : Drawn) (tk : Tok) (os : OsState) (Q : Value → Shared → Prop) (E : Value → Shared → Prop)
    (KX : (hxo w.params).In h₀) (h30 : h₀.get? 30 = some (tabObj #[]))
    (hQ : ∀ x60 tab h' L t', Lg h₀ [30] h' L → (30, tab) ∈ L → KIn w L x60 (x0 + 1) → TIn L tab → Q (.ref x60) ⟨h', g, d, t', os⟩) :
    wpAny (model PR w) A (CT w EFs.1 (envCK w x0)) Q E ⟨h₀, g, d, tk, os⟩ := by
  have o35 := KX _ _ (z35 w)
  obtain ⟨b, hb⟩ := from8 (k := 35) o35 (by decide)
  have D0 : Lg h₀ [30] h₀ (LE none) := Lg.start (L := [(30, tabObj #[])]) (by intro p hp; obtain rfl := List.mem_singleton.mp hp; exact h30) (by simp)
  have hO : ∀ p ∈ OE w none, h₀.get? p.1 = some p.2 ∧ p.1 ∉ ([30] : List Addr) := fun p hp => of_at KX p hp
  refine run_stack (r := C11 w EFs.1 b x0 tk) hO rfl D0 hb (LC1 w b x0 tk) 7 (tk + 8) (by kernel_rfl) fun h1 st hl D1 hs1 => ?_
  refine run_on (r := C21 w EFs.1 b x0 tk st) hO rfl D1 hs1 (LC1 w b x0 tk) 7 (tk + 8) (by kernel_rfl) fun h2 D2 hs2 => ?_
  rw [C21_eq w b x0 tk hl (Nat.lt_of_le_of_lt hAd (by decide))]
  refine run_call (r := C31 w b x0 tk st) hO rfl D2 hs2 (C31 w b x0 tk st).L 56 (.call (.type "type") (argT (KQ1 w b x0 tk st))) (by kernel_rfl) fun h3 D3 hs3 => ?_
  refine tcall w A hA (by omega) (by omega) _ _ (KQ1 w b x0 tk st) h3 _ _ _ _ _ _ ?_ ?_
  · intro p hp
    simp only [OT, List.mem_cons, List.not_mem_nil, or_false] at hp
    rcases hp with rfl | rfl | rfl | rfl | rfl | rfl | rfl | rfl | rfl | rfl | rfl | rfl
    · exact D3.own _ (mem_at 55 (by kernel_rfl))
    · exact D3.own _ (mem_at 53 (by kernel_rfl))
    · exact D3.own _ (mem_at 48 (by kernel_rfl))
    · exact D3.own _ (mem_at 41 (by kernel_rfl))
    · exact D3.own _ (mem_at 33 (by kernel_rfl))
    · exact D3.own _ (mem_at 25 (by kernel_rfl))
    · exact D3.own _ (mem_at 17 (by kernel_rfl))
    · exact D3.own _ (mem_at 9 (by kernel_rfl))
    · exact D3.own _ (mem_at 1 (by kernel_rfl))
    · exact D3.own _ (mem_at 0 (by kernel_rfl))
    · exact (z2' w) ▸ D3.keep 2 _ (KX _ _ (z2 w)) (by simp)
    · exact D3.keep 35 _ o35 (by simp)
  intro P h4 L4 tk4 D4 m1 m2 m3
  have D5 := D3.join2 D4
  obtain ⟨b5, hb5⟩ := from8 (k := 35) (D5.keep _ _ o35 (by simp)) (by decide)
  refine run_end (r := C41 w b x0 tk st P L4 b5 tk4) hO rfl D5 hb5 (L4 ++ (C31 w b x0 tk st).L) 0 (.ref P.x60) (by kernel_rfl) fun h6 D6 _ => ?_
  refine hQ P.x60 (tabT (TQ1 w b x0 tk st)) h6 _ _ D6 (List.mem_append_right _ (mem_at 56 (by kernel_rfl))) ?_ ?_
  · exact ⟨KQ1 w b x0 tk st, P, b + (8 + 13), b + (8 + 21), b + (8 + 15), cfOf (objAt (C31 w b x0 tk st).L 42), cfOf (objAt (C31 w b x0 tk st).L 34), rfl, List.mem_append_left _ m1, List.mem_append_left _ m2, List.mem_append_left _ m3, List.mem_append_right _ (mem_at 41 (by kernel_rfl)), List.mem_append_right _ (mem_at 42 (by kernel_rfl)), List.mem_append_right _ (mem_at 33 (by kernel_rfl)), List.mem_append_right _ (mem_at 34 (by kernel_rfl))⟩
  · exact ⟨TQ1 w b x0 tk st, rfl, List.mem_append_right _ (mem_at 50 (by kernel_rfl)), List.mem_append_right _ (mem_at 51 (by kernel_rfl)), List.mem_append_right _ (mem_at 42 (by kernel_rfl)), List.mem_append_right _ (mem_at 34 (by kernel_rfl))⟩
theorem C22_swap (w : World) (T : TQ) (G : GT) (b x0 tk : Nat) (st : List (Code × Pos)) : (C22 w T G b x0 tk st).t = (C22 w T (fun _ _ _ => G 0 st recursionLimit) b x0 tk st).t := tt_swap (by kernel_rfl)
theorem C22_eq (w : World) (T : TQ) (b x0 tk : Nat) {A : Around} {st : List (Code × Pos)} (l : Lies A st) (hd : A.depth < recursionLimit) : (C22 w T EFs.1 b x0 tk st).t = (C22 w T Gk b x0 tk st).t := by
  rw [C22_swap, ef_pure l hd]; rfl
theorem ck_make2 (w : World) (A : Around) (hA : A.handled = none) (hAd : A.depth ≤ 400) (hAu : A.units ≤ 3500) (x0 : Nat) (h₀ : Heap) (g : Array GenState) (d : Drawn) (tk : Tok) (os : OsState) (Q : Value → Shared → Prop) (E : Value → Shared → Prop)
    (KX : (hxo w.params).In h₀) (M : List (Addr × Obj)) (tab : Obj) (hT : TIn M tab) (hM : ∀ p ∈ M, h₀.get? p.1 = some p.2) (h30 : h₀.get? 30 = some tab)
    (hQ : ∀ x60 h' L t', Lg h₀ [] h' L → KIn w (L ++ M) x60 (x0 + 1) → Q (.ref x60) ⟨h', g, d, t', os⟩) :
    wpAny (model PR w) A (CT w EFs.1 (envCK w x0)) Q E ⟨h₀, g, d, tk, os⟩ := by
  have o35 := KX _ _ (z35 w)
  obtain ⟨b, hb⟩ := from8 (k := 35) o35 (by decide)
  obtain ⟨T, rfl, hT⟩ := hT
  have D0 : Lg h₀ [] h₀ (LE (some T)) := Lg.nil
  have hO : ∀ p ∈ OE w (some T), h₀.get? p.1 = some p.2 ∧ p.1 ∉ ([] : List Addr) := by
    intro p hp
    refine ⟨?_, by simp⟩
    rcases List.mem_append.mp hp with hp | hp
    · exact (of_at KX p hp).1
    · simp only [List.mem_cons, List.not_mem_nil, or_false] at hp
      rcases hp with rfl | rfl | rfl
      · exact h30
      · exact hM _ hT.k
      · exact hM _ hT.t
  refine run_stack (r := C12 w T EFs.1 b x0 tk) hO rfl D0 hb (LC2 w T b x0 tk) 4 (tk + 2) (by kernel_rfl) fun h1 st hl D1 hs1 => ?_
  refine run_on (r := C22 w T EFs.1 b x0 tk st) hO rfl D1 hs1 (LC2 w T b x0 tk) 4 (tk + 2) (by kernel_rfl) fun h2 D2 hs2 => ?_
  rw [C22_eq w T b x0 tk hl (Nat.lt_of_le_of_lt hAd (by decide))]
  refine run_call (r := C32 w T b x0 tk st) hO rfl D2 hs2 (C32 w T b x0 tk st).L 17 (.call (.type "type") (argT (KQ2 w T b x0 tk st))) (by kernel_rfl) fun h3 D3 hs3 => ?_
  refine tcall w A hA (by omega) (by omega) _ _ (KQ2 w T b x0 tk st) h3 _ _ _ _ _ _ ?_ ?_
  · intro p hp
    simp only [OT, List.mem_cons, List.not_mem_nil, or_false] at hp
    rcases hp with rfl | rfl | rfl | rfl | rfl | rfl | rfl | rfl | rfl | rfl | rfl | rfl
    · exact D3.own _ (mem_at 16 (by kernel_rfl))
    · exact D3.own _ (mem_at 14 (by kernel_rfl))
    · exact D3.own _ (mem_at 12 (by kernel_rfl))
    · exact D3.own _ (mem_at 11 (by kernel_rfl))
    · exact D3.own _ (mem_at 9 (by kernel_rfl))
    · exact D3.own _ (mem_at 7 (by kernel_rfl))
    · exact D3.own _ (mem_at 5 (by kernel_rfl))
    · exact D3.own _ (mem_at 3 (by kernel_rfl))
    · exact D3.own _ (mem_at 1 (by kernel_rfl))
    · exact D3.own _ (mem_at 0 (by kernel_rfl))
    · exact (z2' w) ▸ D3.keep 2 _ (KX _ _ (z2 w)) (by simp)
    · exact D3.keep 35 _ o35 (by simp)
  intro P h4 L4 tk4 D4 m1 m2 m3
  have D5 := D3.join2 D4
  obtain ⟨b5, hb5⟩ := from8 (k := 35) (D5.keep _ _ o35 (by simp)) (by decide)
  refine run_end (r := C42 w T b x0 tk st P L4 b5 tk4) hO rfl D5 hb5 (L4 ++ (C32 w T b x0 tk st).L) 0 (.ref P.x60) (by kernel_rfl) fun h6 D6 _ => ?_
  exact hQ P.x60 h6 _ _ D6 ⟨KQ2 w T b x0 tk st, P, T.c1, T.c2, b + (8 + 6), T.k1, T.k2, rfl, List.mem_append_left _ (List.mem_append_left _ m1), List.mem_append_left _ (List.mem_append_left _ m2), List.mem_append_left _ (List.mem_append_left _ m3), List.mem_append_left _ (List.mem_append_right _ (mem_at 11 (by kernel_rfl))), List.mem_append_right _ hT.i, List.mem_append_left _ (List.mem_append_right _ (mem_at 9 (by kernel_rfl))), List.mem_append_right _ hT.l⟩
end
end
section
theorem Lg.grow {h₀ h h' : Heap} {A₀ : List Addr} {L : List (Addr × Obj)} (D : Lg h₀ A₀ h L) (old : ∀ b o, h.get? b = some o → h'.get? b = some o) : Lg h₀ A₀ h' L :=
  ⟨fun p hp => old _ _ (D.own p hp), D.nd, fun b o e hb => old _ _ (D.keep b o e hb), D.low, D.all⟩
section
variable {α : Type} {w : World} {A : Around} {E : Value → Shared → Prop} {Q : α → Shared → Prop} {h₀ : Heap} {A₀ : List Addr} {O : List (Addr × Obj)} {g : Array GenState} {d : Drawn} {os : OsState} {b n c : Nat} {ops : List Op} {L : List (Addr × Obj)} {h : Heap} {tk : Tok} {t : Sem α} {r : Rn α}
theorem run_end2 (hO : ∀ p ∈ O, h₀.get? p.1 = some p.2 ∧ p.1 ∉ A₀) (hr : gr ⟨PR, w.params⟩ O (dqT TBs) b n nx0 ops c L tk t = r) (D : Lg h₀ A₀ h L) (hs : h.objs.size = b + (8 + c)) (L' : List (Addr × Obj)) (c' : Nat) (tk' : Tok) (v : α)
    (he : (r.eqs.map (·.1), r.ok, r.L, r.c, r.tk, pureV r.t) = (r.eqs.map (·.2), true, L', c', tk', some v))
    (hk : ∀ h', Lg h₀ A₀ h' L' → h'.objs.size = b + (8 + c') → Q v ⟨h', g, d, tk', os⟩) :
    wpAny (model PR w) A t Q E ⟨h, g, d, tk, os⟩ := by
  obtain ⟨e1, e2⟩ := Prod.mk.inj he
  obtain ⟨e2, e3⟩ := Prod.mk.inj e2
  obtain ⟨e3, e4⟩ := Prod.mk.inj e3
  obtain ⟨e4, e5⟩ := Prod.mk.inj e4
  obtain ⟨e5, e6⟩ := Prod.mk.inj e5
  refine run_on hO hr D hs L' c' tk' (Prod.ext e1 (Prod.ext e2 (Prod.ext e3 (Prod.ext e4 e5)))) fun h' D' hs' => ?_
  rw [pureV_eq e6]
  exact wpAny_pure (hk h' D' hs')
theorem run_call2 (hO : ∀ p ∈ O, h₀.get? p.1 = some p.2 ∧ p.1 ∉ A₀) (hr : gr ⟨PR, w.params⟩ O (dqT TBs) b n nx0 ops c L tk t = r) (D : Lg h₀ A₀ h L) (hs : h.objs.size = b + (8 + c)) (L' : List (Addr × Obj)) (c' : Nat) (tk' : Tok) (cd : Code)
    (he : (r.eqs.map (·.1), r.ok, r.L, r.c, r.tk, callC r.t) = (r.eqs.map (·.2), true, L', c', tk', some cd))
    (hk : ∀ h' gg ll, Lg h₀ A₀ h' L' → h'.objs.size = b + (8 + c') → wpAny (model PR w) A (.call cd none gg ll .pure) (fun res s' => wpAny (model PR w) A (callK r.t res) Q E s') (fun _ _ => False) ⟨h', g, d, tk', os⟩) :
    wpAny (model PR w) A t Q E ⟨h, g, d, tk, os⟩ := by
  obtain ⟨e1, e2⟩ := Prod.mk.inj he
  obtain ⟨e2, e3⟩ := Prod.mk.inj e2
  obtain ⟨e3, e4⟩ := Prod.mk.inj e3
  obtain ⟨e4, e5⟩ := Prod.mk.inj e4
  obtain ⟨e5, e6⟩ := Prod.mk.inj e5
  exact run_on hO hr D hs L' c' tk' (Prod.ext e1 (Prod.ext e2 (Prod.ext e3 (Prod.ext e4 e5)))) fun h' D' hs' => ex_call cd e6 (hk h' _ _ D' hs')
end
noncomputable abbrev CF0 := List Value → Value → Bool
structure TCt where
  T : CF0 → Args → Sem PySem.Fin
  e : ∀ args, EqT (Builtin.«type.__call__» args) (T (@List.contains Value inferInstance) args)
noncomputable def TCd : TCt := ⟨?T, by
    intro args
    delta Builtin.«type.__call__» isInstance isSubtype
    generalize @List.contains Value _ = F
    exact .refl⟩
structure DGt where
  T : CF0 → Args → Sem PySem.Fin
  e : ∀ args, EqT (Builtin.«member_descriptor.__get__» args) (T (@List.contains Value inferInstance) args)
noncomputable def DGd : DGt := ⟨?T, by
    intro args
    delta Builtin.«member_descriptor.__get__» Builtin.Getset_descriptor.descrGet Builtin.Getset_descriptor.descrGetter Builtin.Getset_descriptor.descrCheckInstance isInstance isSubtype
    generalize @List.contains Value _ = F
    exact .refl⟩
structure DSt where
  T : CF0 → Args → Sem PySem.Fin
  e : ∀ args, EqT (Builtin.«member_descriptor.__set__» args) (T (@List.contains Value inferInstance) args)
noncomputable def DSd : DSt := ⟨?T, by
    intro args
    delta Builtin.«member_descriptor.__set__» Builtin.Getset_descriptor.descrSet Builtin.Getset_descriptor.descrStoreThrough Builtin.Getset_descriptor.descrCheckInstance isInstance isSubtype
    generalize @List.contains Value _ = F
    exact .refl⟩
noncomputable def Yes : CF0 := fun _ _ => true
noncomputable def Oa (w : World) (K : KQ) (P : KP) (a da la : Addr) : List (Addr × Obj) := [(P.x60, clsO K P), (P.x59, cdO K P), (P.x61, mdO P), (a, ⟨.ref P.x60, some da, .plain, #[some (.ref la)]⟩)]
noncomputable def Ga (w : World) (K : KQ) (P : KP) (a da la : Addr) (F : CF0) (b c : Nat) (L : List (Addr × Obj)) (tk : Tok) : Rn PySem.Fin := gr ⟨PR, w.params⟩ (Oa w K P a da la) (dqT TBs) b 100 nx0 [.o 2, .o 2, .o 3, .o 0] c L tk (DGd.T F ⟨[.ref P.x61, .ref a, .ref P.x60], []⟩)
theorem entry_tcF : entryFor table "type.__call__" = some (TCd.T (@List.contains Value inferInstance)) := (funext fun args => (TCd.e args).eq : Builtin.«type.__call__» = _) ▸ entryFor_of_fast (by kernel_rfl)
theorem entry_mget : entryFor table "member_descriptor.__get__" = some (DGd.T (@List.contains Value inferInstance)) := (funext fun args => (DGd.e args).eq : Builtin.«member_descriptor.__get__» = _) ▸ entryFor_of_fast (by kernel_rfl)
theorem entry_mset : entryFor table "member_descriptor.__set__" = some (DSd.T (@List.contains Value inferInstance)) := (funext fun args => (DSd.e args).eq : Builtin.«member_descriptor.__set__» = _) ▸ entryFor_of_fast (by kernel_rfl)
theorem has_self (x : Addr) : @List.contains Value inferInstance [.ref x, .type "object"] (.ref x) = true := by simp
section
set_option maxRecDepth 100000
set_option maxHeartbeats 0
theorem Ga_swap (w : World) (K : KQ) (P : KP) (a da la : Addr) (F : CF0) (b c : Nat) (L : List (Addr × Obj)) (tk : Tok) : (Ga w K P a da la F b c L tk).t = (Ga w K P a da la (fun _ _ => F [.ref P.x60, .type "object"] (.ref P.x60)) b c L tk).t := tt_swap (by kernel_rfl)
theorem Ga_eq (w : World) (K : KQ) (P : KP) (a da la : Addr) (b c : Nat) (L : List (Addr × Obj)) (tk : Tok) : (Ga w K P a da la (@List.contains Value inferInstance) b c L tk).t = (Ga w K P a da la Yes b c L tk).t := by
  rw [Ga_swap, has_self]; rfl
theorem attr_g (w : World) {A : Around} {h₀ : Heap} {L : List (Addr × Obj)} {b c : Nat} (K : KQ) (P : KP) (a da la : Addr) (t0 : Tok) (gg : Bool) (ll : List Value) {h : Heap} {g : Array GenState} {d : Drawn} {tk : Tok} {os : OsState} {Q : Result → Shared → Prop} {E : Value → Shared → Prop}
    (hO : ∀ p ∈ Oa w K P a da la, h₀.get? p.1 = some p.2) (D : Lg h₀ [] h L) (hs : h.objs.size = b + (8 + c))
    (hQ : ∀ h', Lg h₀ [] h' L → h'.objs.size = b + (8 + c) → Q (.ok (.ret (.ref la))) ⟨h', g, d, tk, os⟩) :
    wpAny (model PR w) A (.call (.builtin "proto.getattr_hooked" ⟨[.ref a, .str (St "obj") t0], []⟩) none gg ll .pure) Q E ⟨h, g, d, tk, os⟩ := by
  have hO' := no_A hO
  refine ex_enter (ex_code ?_)
  rw [denote_b (b := Builtin.«proto.getattr_hooked») (entryFor_of_fast (by kernel_rfl))]
  refine run_call2 (n := 100) (ops := [.o 3, .o 0, .o 0, .o 1, .o 2, .o 2, .o 0, .o 0, .o 1, .x]) hO' rfl D hs L c tk (.call (.builtin "member_descriptor.__get__") ⟨[.ref P.x61, .ref a, .ref P.x60], []⟩) (by kernel_rfl) fun h1 _ _ D1 hs1 => ?_
  refine ex_enter (ex_code ?_)
  refine run_end2 (n := 50) (ops := [.o 2, .x]) hO' rfl D1 hs1 L c tk (.again (.builtin "member_descriptor.__get__" ⟨[.ref P.x61, .ref a, .ref P.x60], []⟩)) (by kernel_rfl) fun h2 D2 hs2 => And.intro (by kernel_rfl) (ex_code ?_)
  rw [denote_b entry_mget]
  refine run_on (r := Ga w K P a da la (@List.contains Value inferInstance) b c L tk) hO' rfl D2 hs2 L c tk (by kernel_rfl) fun h3 D3 hs3 => ?_
  rw [Ga_eq]
  refine run_end2 (n := 50) (ops := [.o 2, .o 2, .x]) hO' rfl D3 hs3 L c tk (.again (.builtin "proto.slot" ⟨[.ref a, .ref P.x61], []⟩)) (by kernel_rfl) fun h4 D4 hs4 => And.intro (by kernel_rfl) (ex_code ?_)
  rw [denote_b (b := Builtin.«proto.slot») (entryFor_of_fast (by kernel_rfl))]
  refine run_end2 (n := 50) (ops := [.o 2, .o 2, .o 3, .o 0, .o 3, .x]) hO' rfl D4 hs4 L c tk (.done (.ret (.ref la))) (by kernel_rfl) fun h5 D5 hs5 => ?_
  refine run_end2 (n := 50) (ops := [.x]) hO' rfl D5 hs5 L c tk (.done (.ret (.ref la))) (by kernel_rfl) fun h6 D6 hs6 => ?_
  exact hQ _ D6 hs6
end
end
section
noncomputable def Oi (w : World) (K : KQ) (P : KP) (c1 : Addr) (k1 : CF) : List (Addr × Obj) := [(P.x60, clsO K P), (P.x59, cdO K P), (P.x61, mdO P), (K.f1, fnO (fnI w c1)), (c1, cdI k1)]
noncomputable def U1 (w : World) (K : KQ) (P : KP) (c1 : Addr) (k1 : CF) (F : CF0) (la b tk : Nat) : Rn PySem.Fin := gr ⟨PR, w.params⟩ (Oi w K P c1 k1) (dqT TBs) b 300 nx0 [.o 0, .o 0, .o 0, .o 0, .o 0, .o 0, .o 0, .o 0, .o 0, .o 0, .o 0, .o 0, .o 0, .o 0, .o 0, .o 0, .o 0, .o 0, .o 0, .o 0, .o 1, .o 0, .a, .a, .o 0, .n 0, .o 0] 0 [] tk (TCd.T F ⟨[.ref P.x60, .ref la], []⟩)
noncomputable abbrev insO (P : KP) (da : Addr) (sl : Array (Option Value)) : Obj := ⟨.ref P.x60, some da, .plain, sl⟩
noncomputable def dOb (w : World) (K : KQ) (P : KP) (c1 : Addr) (k1 : CF) (la b tk : Nat) : Obj := objAt (U1 w K P c1 k1 Yes la b tk).L 1
noncomputable abbrev LU (w : World) (K : KQ) (P : KP) (c1 : Addr) (k1 : CF) (la b tk : Nat) (sl : Array (Option Value)) : List (Addr × Obj) := [(b + (8 + 1), insO P (b + (8 + 0)) sl), (b + (8 + 0), dOb w K P c1 k1 la b tk)]
noncomputable abbrev esI (i la : Addr) (h1 h2 : Int) (t1 t2 : Tok) : Array DictEntry := #[ent h1 "self" t1 (.ref i), ent h2 "obj" t2 (.ref la)]
noncomputable abbrev frI (i la : Addr) (h1 h2 : Int) (t1 t2 : Tok) (nn : Nat) : Obj := ⟨.type "frame", none, .dict (esI i la h1 h2 t1 t2) nn, #[]⟩
noncomputable abbrev envI (w : World) (f1 c1 y0 : Addr) : Env := envX (St "cmp_to_key.<locals>.K.__init__") (kdefOf (cbody w) 2).2.2 y0 f1 (.ref c1) []
noncomputable def V2 (w : World) (K : KQ) (c1 i la b tk : Nat) : Rn Env := gr ⟨PR, w.params⟩ [] (dqT TBs) b 50 nx0 [.a, .f, .n 0, .u 0, .f, .n 0, .u 0, .x] 2 [] tk (newFunctionEnv (fnI w c1).scope (fnI w c1).globals (fnI w c1).closure [(St "self", .ref i), (St "obj", .ref la)] ((fnI w c1).qualname ++ ".<locals>.") (some K.f1) (fnI w c1).code none (fnI w c1).builtins)
noncomputable def Gs (w : World) (K : KQ) (P : KP) (c1 : Addr) (k1 : CF) (F : CF0) (la b tk : Nat) (L : List (Addr × Obj)) : Rn PySem.Fin := gr ⟨PR, w.params⟩ (Oi w K P c1 k1) (dqT TBs) b 100 nx0 [.o 2, .o 2, .n 1, .o 0] 3 L tk (DSd.T F ⟨[.ref P.x61, .ref (b + (8 + 1)), .ref la], []⟩)
section
set_option maxRecDepth 100000
set_option maxHeartbeats 0
theorem U1_swap (w : World) (K : KQ) (P : KP) (c1 : Addr) (k1 : CF) (F : CF0) (la b tk : Nat) : (U1 w K P c1 k1 F la b tk).t = (U1 w K P c1 k1 (fun _ _ => F [.ref P.x60, .type "object"] (.ref P.x60)) la b tk).t := tt_swap (by kernel_rfl)
theorem U1_eq (w : World) (K : KQ) (P : KP) (c1 : Addr) (k1 : CF) (la b tk : Nat) : (U1 w K P c1 k1 (@List.contains Value inferInstance) la b tk).t = (U1 w K P c1 k1 Yes la b tk).t := by
  rw [U1_swap, has_self]; rfl
theorem Gs_swap (w : World) (K : KQ) (P : KP) (c1 : Addr) (k1 : CF) (F : CF0) (la b tk : Nat) (fr : Addr × Obj) (da : Addr) (sl : Array (Option Value)) (L : List (Addr × Obj)) : (Gs w K P c1 k1 F la b tk (fr :: (b + (8 + 1), insO P da sl) :: L)).t = (Gs w K P c1 k1 (fun _ _ => F [.ref P.x60, .type "object"] (.ref P.x60)) la b tk (fr :: (b + (8 + 1), insO P da sl) :: L)).t := tt_swap (by kernel_rfl)
theorem Gs_eq (w : World) (K : KQ) (P : KP) (c1 : Addr) (k1 : CF) (la b tk : Nat) (fr : Addr × Obj) (da : Addr) (sl : Array (Option Value)) (L : List (Addr × Obj)) : (Gs w K P c1 k1 (@List.contains Value inferInstance) la b tk (fr :: (b + (8 + 1), insO P da sl) :: L)).t = (Gs w K P c1 k1 Yes la b tk (fr :: (b + (8 + 1), insO P da sl) :: L)).t := by
  rw [Gs_swap, has_self]; rfl
theorem kobj (w : World) (A : Around) (hAd : A.depth ≤ 600) (K : KQ) (P : KP) (c1 c2 ct x1 : Addr) (k1 k2 : CF) (M : List (Addr × Obj)) (KM : KAt w M x1 K P c1 c2 ct k1 k2) (x60 : Addr) (e6 : x60 = P.x60) (la : Addr)
    (h : Heap) (g : Array GenState) (d : Drawn) (tk : Tok) (os : OsState) (hM : ∀ p ∈ M, h.get? p.1 = some p.2) (KX : (hxo w.params).In h) (hNL : h.NoLimit) (Q : Value → Shared → Prop) (E : Value → Shared → Prop)
    (hQ : ∀ a da h' tk' L1, Lg h [] h' L1 → (a, (⟨.ref x60, some da, .plain, #[some (.ref la)]⟩ : Obj)) ∈ L1 → Q (.ref a) ⟨h', g, d, tk', os⟩) :
    wpAny (model PR w) A (call (.ref x60) [.ref la]) Q E ⟨h, g, d, tk, os⟩ := by
  subst e6
  obtain ⟨b, hb⟩ := from8 (k := 35) (KX _ _ (z35 w)) (by decide)
  have hO : ∀ q ∈ Oi w K P c1 k1, h.get? q.1 = some q.2 ∧ q.1 ∉ ([] : List Addr) := no_A (by
    intro q hq
    simp only [Oi, List.mem_cons, List.not_mem_nil, or_false] at hq
    rcases hq with rfl | rfl | rfl | rfl | rfl
    · exact hM _ KM.c
    · exact hM _ KM.d
    · exact hM _ KM.m
    · exact hM _ KM.i
    · exact hM _ KM.ci)
  refine wpAny_call (ex_code ?_)
  refine run_end2 (n := 50) (ops := [.o 0, .o 0, .x]) hO rfl Lg.nil hb [] 0 tk (.again (.call (.builtin "type.__call__") ⟨[.ref P.x60, .ref la], []⟩)) (by kernel_rfl) fun h1 D1 hs1 => And.intro (by kernel_rfl) (ex_code ?_)
  refine run_end2 (n := 50) (ops := [.o 0, .x]) hO rfl D1 hs1 [] 0 tk (.again (.builtin "type.__call__" ⟨[.ref P.x60, .ref la], []⟩)) (by kernel_rfl) fun h2 D2 hs2 => And.intro (by kernel_rfl) (ex_code ?_)
  rw [denote_b entry_tcF]
  refine run_on (r := U1 w K P c1 k1 (@List.contains Value inferInstance) la b tk) hO rfl D2 hs2 (LU w K P c1 k1 la b tk #[]) 2 tk (by kernel_rfl) fun h3 D3 hs3 => ?_
  rw [U1_eq]
  with_reducible refine run_call2 (n := 50) (ops := [.n 0, .o 0, .o 0, .o 1, .o 3, .x]) hO rfl D3 hs3 (LU w K P c1 k1 la b tk #[]) 2 tk (Code.call (.ref K.f1) ⟨[.ref (b + (8 + 1)), .ref la], []⟩) (by kernel_rfl) fun h4 _ _ D4 hs4 => ?_
  refine ex_enter ?_
  refine codeAny_call_function ?hdep (D4.keep _ _ (hM _ KM.i) (by simp)) rfl (by kernel_rfl) (by kernel_rfl) rfl ⟨c1, _, _, _, rfl, D4.keep _ _ (hM _ KM.ci) (by simp), rfl, rfl⟩ ?_
  case hdep => exact Nat.lt_of_le_of_lt (Nat.add_le_add hAd (Nat.le_of_ble_eq_true (show Nat.ble (Code.builtin "type.__call__" ⟨[.ref P.x60, .ref la], []⟩).weight 300 = true by kernel_rfl))) (by decide)
  with_reducible refine run_end2 (n := 50) (ops := [.x]) hO rfl D4 hs4 (LU w K P c1 k1 la b tk #[]) 2 tk [(St "self", .ref (b + (8 + 1))), (St "obj", .ref la)] (by kernel_rfl) fun h5 D5 hs5 => ?_
  obtain ⟨e1, he1⟩ : ∃ e, e = hashAt (objAt (V2 w K c1 (b + (8 + 1)) la b tk).L 0) 0 := ⟨_, rfl⟩
  obtain ⟨e2, he2⟩ : ∃ e, e = hashAt (objAt (V2 w K c1 (b + (8 + 1)) la b tk).L 0) 1 := ⟨_, rfl⟩
  obtain ⟨u1, hu1⟩ : ∃ e, e = ktokAt (objAt (V2 w K c1 (b + (8 + 1)) la b tk).L 0) 0 := ⟨_, rfl⟩
  obtain ⟨u2, hu2⟩ : ∃ e, e = ktokAt (objAt (V2 w K c1 (b + (8 + 1)) la b tk).L 0) 1 := ⟨_, rfl⟩
  obtain ⟨nn, hnn⟩ : ∃ e, e = cntAt (objAt (V2 w K c1 (b + (8 + 1)) la b tk).L 0) := ⟨_, rfl⟩
  with_reducible refine run_end2 (n := 50) (ops := [.a, .f, .n 0, .u 0, .f, .n 0, .u 0, .x]) hO rfl D5 hs5 ((b + (8 + 2), frI (b + (8 + 1)) la e1 e2 u1 u2 nn) :: LU w K P c1 k1 la b tk #[]) 3 (tk + 1 + 1) (envI w K.f1 c1 (b + (8 + 2))) (by subst he1 he2 hu1 hu2 hnn; kernel_rfl) fun h6 D6 hs6 => ?_
  clear he1 he2 hu1 hu2 hnn
  refine ⟨hNL.keeps fun b o e => D6.keep b o e (by simp), codeAny_func ?_⟩
  with_reducible refine run_call2 (n := 50) (ops := [.n 0, .n 0, .f, .n 1, .o 0, .o 0, .o 1, .x]) hO rfl D6 hs6 ((b + (8 + 2), frI (b + (8 + 1)) la e1 e2 u1 u2 nn) :: LU w K P c1 k1 la b tk #[]) 3 (tk + 1 + 1 + 1) (Code.call (.builtin "object.__setattr__") ⟨[.ref (b + (8 + 1)), .str (St "obj") (tk + 1 + 1), .ref la], []⟩) (by kernel_rfl) fun h7 _ _ D7 hs7 => ?_
  refine ex_enter (ex_code ?_)
  refine run_end2 (n := 50) (ops := [.n 1, .o 0, .x]) hO rfl D7 hs7 ((b + (8 + 2), frI (b + (8 + 1)) la e1 e2 u1 u2 nn) :: LU w K P c1 k1 la b tk #[]) 3 (tk + 1 + 1 + 1) (.again (.builtin "object.__setattr__" ⟨[.ref (b + (8 + 1)), .str (St "obj") (tk + 1 + 1), .ref la], []⟩)) (by kernel_rfl) fun h8 D8 hs8 => And.intro (by kernel_rfl) (ex_code ?_)
  rw [denote_b (b := Builtin.«object.__setattr__») (entryFor_of_fast (by kernel_rfl))]
  with_reducible refine run_call2 (n := 50) (ops := [.n 1, .o 0, .n 1, .o 0, .o 0, .o 1, .o 2, .o 2, .x]) hO rfl D8 hs8 ((b + (8 + 2), frI (b + (8 + 1)) la e1 e2 u1 u2 nn) :: LU w K P c1 k1 la b tk #[]) 3 (tk + 1 + 1 + 1) (Code.call (.builtin "member_descriptor.__set__") ⟨[.ref P.x61, .ref (b + (8 + 1)), .ref la], []⟩) (by kernel_rfl) fun h9 _ _ D9 hs9 => ?_
  refine ex_enter (ex_code ?_)
  refine run_end2 (n := 50) (ops := [.o 2, .x]) hO rfl D9 hs9 ((b + (8 + 2), frI (b + (8 + 1)) la e1 e2 u1 u2 nn) :: LU w K P c1 k1 la b tk #[]) 3 (tk + 1 + 1 + 1) (.again (.builtin "member_descriptor.__set__" ⟨[.ref P.x61, .ref (b + (8 + 1)), .ref la], []⟩)) (by kernel_rfl) fun h10 D10 hs10 => And.intro (by kernel_rfl) (ex_code ?_)
  rw [denote_b entry_mset]
  refine run_on (r := Gs w K P c1 k1 (@List.contains Value inferInstance) la b (tk + 1 + 1 + 1) ((b + (8 + 2), frI (b + (8 + 1)) la e1 e2 u1 u2 nn) :: LU w K P c1 k1 la b tk #[])) hO rfl D10 hs10 ((b + (8 + 2), frI (b + (8 + 1)) la e1 e2 u1 u2 nn) :: LU w K P c1 k1 la b tk #[]) 3 (tk + 1 + 1 + 1) (by kernel_rfl) fun h11 D11 hs11 => ?_
  rw [Gs_eq]
  refine run_end2 (n := 50) (ops := [.o 2, .o 2, .x]) hO rfl D11 hs11 ((b + (8 + 2), frI (b + (8 + 1)) la e1 e2 u1 u2 nn) :: LU w K P c1 k1 la b tk #[]) 3 (tk + 1 + 1 + 1) (.again (.builtin "proto.slot#set" ⟨[.ref (b + (8 + 1)), .ref la, .ref P.x61], []⟩)) (by kernel_rfl) fun h12 D12 hs12 => And.intro (by kernel_rfl) (ex_code ?_)
  rw [denote_b (b := Builtin.«proto.slot#set») (entryFor_of_fast (by kernel_rfl))]
  with_reducible refine run_end2 (n := 50) (ops := [.o 2, .o 2, .n 1, .o 0, .u 1, .x]) hO rfl D12 hs12 ((b + (8 + 2), frI (b + (8 + 1)) la e1 e2 u1 u2 nn) :: LU w K P c1 k1 la b tk #[some (.ref la)]) 3 (tk + 1 + 1 + 1) (PySem.Fin.done (.ret .none)) (by kernel_rfl) fun h13 D13 hs13 => ?_
  refine run_end2 (n := 50) (ops := [.x]) hO rfl D13 hs13 ((b + (8 + 2), frI (b + (8 + 1)) la e1 e2 u1 u2 nn) :: LU w K P c1 k1 la b tk #[some (.ref la)]) 3 (tk + 1 + 1 + 1) (PySem.Fin.done (.ret .none)) (by kernel_rfl) fun h14 D14 hs14 => ?_
  refine run_end2 (n := 50) (ops := [.x]) hO rfl D14 hs14 ((b + (8 + 2), frI (b + (8 + 1)) la e1 e2 u1 u2 nn) :: LU w K P c1 k1 la b tk #[some (.ref la)]) 3 (tk + 1 + 1 + 1) Flow.next (by kernel_rfl) fun h15 D15 hs15 => ?_
  refine run_end2 (n := 50) (ops := [.x]) hO rfl D15 hs15 ((b + (8 + 2), frI (b + (8 + 1)) la e1 e2 u1 u2 nn) :: LU w K P c1 k1 la b tk #[some (.ref la)]) 3 (tk + 1 + 1 + 1) (PySem.Fin.done (.ret (.ref (b + (8 + 1))))) (by kernel_rfl) fun h16 D16 hs16 => ?_
  exact hQ _ _ _ _ _ D16 (.tail _ (.head _))
end
end
section
theorem z84 (w : World) : (hxo w.params).lookup 84 = some (ob w 84) := by kernel_rfl
theorem ite_try {α : Type} {M : Model} {A : Around} {c : Prop} [Decidable c] {m : Sem α} {k : Value → Sem α} {Q : α → Shared → Prop} {E : Value → Shared → Prop} {s : Shared} (h : ∀ E', wpAny M A m Q E' s) : if c then wpAny M A m Q E s else wpAny M A (Sem.tryCatch m k) Q E s := by
  split
  · exact h _
  · exact wpAny_tryCatch (h _)
noncomputable def retV : List Stmt → Expr
  | [.Return (some e) _] => e
  | _ => .Name (St "x") ⟨0, 0, 0, 0⟩
noncomputable def retP : List Stmt → Pos
  | [.Return _ p] => p
  | _ => ⟨0, 0, 0, 0⟩
noncomputable def cmpL : Expr → Expr
  | .Compare l _ _ _ => l
  | e => e
noncomputable def cmpR : Expr → Expr
  | .Compare _ _ [r] _ => r
  | e => e
noncomputable def cmpP : Expr → Pos
  | .Compare _ _ _ p => p
  | _ => ⟨0, 0, 0, 0⟩
theorem bdL_eq (w : World) : (kdefOf (cbody w) 3).2.1 = [.Return (some (.Compare (cmpL (retV (kdefOf (cbody w) 3).2.1)) [.Lt] [cmpR (retV (kdefOf (cbody w) 3).2.1)] (cmpP (retV (kdefOf (cbody w) 3).2.1)))) (retP (kdefOf (cbody w) 3).2.1)] := by kernel_rfl
section
noncomputable def OL (w : World) (K : KQ) (P : KP) (c2 ct x1 : Addr) (oc : Value) (od : Option Addr) (osl : Array (Option Value)) (i j di dj li lj : Addr) : List (Addr × Obj) :=
  [(84, ob w 84), (x1, ⟨oc, od, .cell (some (.ref 84)), osl⟩), (i, ⟨.ref P.x60, some di, .plain, #[some (.ref li)]⟩), (j, ⟨.ref P.x60, some dj, .plain, #[some (.ref lj)]⟩), (P.x60, clsO K P), (P.x59, cdO K P), (K.f2, fnO (fnL w c2 ct x1))]
noncomputable abbrev envL (w : World) (f2 c2 x1 y0 : Addr) : Env := envX (St "cmp_to_key.<locals>.K.__lt__") (kdefOf (cbody w) 3).2.2 y0 f2 (.ref c2) [(St "mycmp", x1)]
noncomputable abbrev esL (a b : Addr) (h1 h2 : Int) (t1 t2 : Tok) : Array DictEntry := #[ent h1 "self" t1 (.ref a), ent h2 "other" t2 (.ref b)]
noncomputable abbrev frL (a b : Addr) (h1 h2 : Int) (t1 t2 : Tok) (nn : Nat) : Obj := ⟨.type "frame", none, .dict (esL a b h1 h2 t1 t2) nn, #[]⟩
noncomputable def V1 (w : World) (K : KQ) (c2 ct x1 i j b tk : Nat) : Rn Env := gr ⟨PR, w.params⟩ [] (dqT TBs) b 50 nx0 [.a, .f, .n 0, .u 0, .f, .n 0, .u 0, .x] 0 [] tk (newFunctionEnv (fnL w c2 ct x1).scope (fnL w c2 ct x1).globals (fnL w c2 ct x1).closure [(St "self", .ref i), (St "other", .ref j)] ((fnL w c2 ct x1).qualname ++ ".<locals>.") (some K.f2) (fnL w c2 ct x1).code none (fnL w c2 ct x1).builtins)
end
theorem strKeysL (a b : Addr) (h1 h2 : Int) (t1 t2 : Tok) : StrKeys (esL a b h1 h2 t1 t2) := by
  intro e he
  simp only [List.mem_toArray, List.mem_cons, List.not_mem_nil, or_false] at he
  rcases he with rfl | rfl <;> exact ⟨_, _, rfl⟩
section
set_option maxRecDepth 100000
set_option maxHeartbeats 0
theorem lt_key (w : World) (p : Program) (loose : List Str) (mean : ExcName → Option Value) (mg mb : Str → Option Value) (dp un : Nat) (gd : Option (List Code)) (cn : Str) (cs : Scope) (a : Addr) (ccd : Value) (cl : List (Str × Addr)) (outer : List Env) (A₀ : Around) (base h₀ : Heap) (L : Addr) (m : Str → Option Value)
    (A : Around) (hAe : A = ktrTop dp un gd cn cs L a ccd cl outer) (h : Heap) (g : Array GenState) (d : Drawn) (tk : Tok) (os : OsState) (B : Below A₀ base outer h₀) (F : Fr h₀ L h m) (X : (hd.heap_1 w.params).In h₀) (T : Top p loose mean mg mb h₀) (hk : cs.kind = .function) (hdp : dp ≤ 400) (hun : un ≤ 3500)
    (KX : (hxo w.params).In h) (M : List (Addr × Obj)) (hM : ∀ p ∈ M, h.get? p.1 = some p.2) (x60 x1 : Addr) (hK : KIn w M x60 x1) (o1 : Obj) (hx1 : h.get? x1 = some o1) (ho1 : o1.data = .cell (some (.ref 84))) (i j di dj li lj : Addr) (va vb : Array Value) (na nb : Nat) (hva : va.size < 100) (hvb : vb.size < 100)
    (hi : h.get? i = some ⟨.ref x60, some di, .plain, #[some (.ref li)]⟩) (hj : h.get? j = some ⟨.ref x60, some dj, .plain, #[some (.ref lj)]⟩)
    (hli : h.get? li = some ⟨.type "list", none, .seq va na, #[]⟩) (hlj : h.get? lj = some ⟨.type "list", none, .seq vb nb, #[]⟩)
    (Q : Bool → Shared → Prop) (E : Value → Shared → Prop) (hQ : ∀ h' tk', (∀ b o, h.get? b = some o → h'.get? b = some o) → Q (decide (vb.size < va.size)) ⟨h', g, d, tk', os⟩) :
    wpAny (model PR w) A (keyLt' oneType' (.ref i) (.ref j)) Q E ⟨h, g, d, tk, os⟩ := by
  obtain ⟨K, P, c1, c2, ct, k1, k2, rfl, KM⟩ := hK
  obtain ⟨oc, od, odt, osl⟩ := o1
  obtain rfl : odt = _ := ho1
  obtain ⟨b, hb⟩ := from8 (k := 35) (KX _ _ (z35 w)) (by decide)
  have hO : ∀ q ∈ OL w K P c2 ct x1 oc od osl i j di dj li lj, h.get? q.1 = some q.2 ∧ q.1 ∉ ([] : List Addr) := no_A (by
    intro q hq
    simp only [OL, List.mem_cons, List.not_mem_nil, or_false] at hq
    rcases hq with rfl | rfl | rfl | rfl | rfl | rfl | rfl
    · exact KX _ _ (z84 w)
    · exact hx1
    · exact hi
    · exact hj
    · exact hM _ KM.c
    · exact hM _ KM.d
    · exact hM _ KM.l)
  have hOa : ∀ a da la, h.get? a = some ⟨.ref P.x60, some da, .plain, #[some (.ref la)]⟩ → ∀ p ∈ Oa w K P a da la, h.get? p.1 = some p.2 := by
    intro a da la ha p hp
    simp only [Oa, List.mem_cons, List.not_mem_nil, or_false] at hp
    rcases hp with rfl | rfl | rfl | rfl
    · exact hM _ KM.c
    · exact hM _ KM.d
    · exact hM _ KM.m
    · exact ha
  have hAd : A.depth ≤ 400 := by subst hAe; exact hdp
  have hAu : A.units ≤ 3500 := by subst hAe; exact hun
  have hA : A.handled = none := by subst hAe; rfl
  rw [keyLt'_oneType, oneLt'_eq]
  simp only [if_true]
  refine wpAny_bind (wpAny_cRoomFor (by simp only [cLine]; omega) ?_)
  refine wpAny_bind ?_
  simp only [callSpecialIfBound?, bindSpecialIfBound?]
  refine wpAny_holding (wpAny_bind (wpAny_bind ?_))
  with_reducible refine run_end2 (n := 50) (ops := [.o 2, .o 4, .o 4, .o 5, .x]) hO rfl Lg.nil hb [] 0 tk (some (.ref K.f2)) (by kernel_rfl) fun h1 D1 hs1 => ?_
  dsimp only
  refine wpAny_bind (wpAny_askSetting (wpAny_ite (ite_try fun E' => ?_)))
  refine wpAny_bind ?_
  with_reducible refine run_end2 (n := 50) (ops := [.o 6, .x]) hO rfl D1 hs1 [] 0 tk (.ref K.f2, [.ref i]) (by kernel_rfl) fun h2 D2 hs2 => ?_
  refine wpAny_pure ?_
  refine wpAny_bind ?_
  show wpAny _ _ (call (.ref K.f2) [.ref i, .ref j]) _ _ _
  refine wpAny_call ?_
  refine codeAny_call_function (show A.depth < 1000 by omega) (D2.keep _ _ (hM _ KM.l) (by simp)) rfl (by kernel_rfl) (by kernel_rfl) rfl ⟨c2, _, _, _, rfl, D2.keep _ _ (hM _ KM.cl) (by simp), rfl, rfl⟩ ?_
  with_reducible refine run_end2 (n := 50) (ops := [.x]) hO rfl D2 hs2 [] 0 tk [(St "self", .ref i), (St "other", .ref j)] (by kernel_rfl) fun h3 D3 hs3 => ?_
  obtain ⟨e1, he1⟩ : ∃ e, e = hashAt (objAt (V1 w K c2 ct x1 i j b tk).L 0) 0 := ⟨_, rfl⟩
  obtain ⟨e2, he2⟩ : ∃ e, e = hashAt (objAt (V1 w K c2 ct x1 i j b tk).L 0) 1 := ⟨_, rfl⟩
  obtain ⟨u1, hu1⟩ : ∃ e, e = ktokAt (objAt (V1 w K c2 ct x1 i j b tk).L 0) 0 := ⟨_, rfl⟩
  obtain ⟨u2, hu2⟩ : ∃ e, e = ktokAt (objAt (V1 w K c2 ct x1 i j b tk).L 0) 1 := ⟨_, rfl⟩
  obtain ⟨nn, hnn⟩ : ∃ e, e = cntAt (objAt (V1 w K c2 ct x1 i j b tk).L 0) := ⟨_, rfl⟩
  with_reducible refine run_end2 (n := 50) (ops := [.a, .f, .n 0, .u 0, .f, .n 0, .u 0, .x]) hO rfl D3 hs3 [(b + (8 + 0), frL i j e1 e2 u1 u2 nn)] 1 (tk + 1 + 1) (envL w K.f2 c2 x1 (b + (8 + 0))) (by subst he1 he2 hu1 hu2 hnn; kernel_rfl) fun h4 D4 hs4 => ?_
  clear he1 he2 hu1 hu2 hnn D1 D2 D3 hs1 hs2 hs3
  refine ⟨?_, codeAny_func ?_⟩
  · exact (T.nolimit.keeps F.keep).keeps fun b o e => D4.keep b o e (by simp)
  rw [bdL_eq w]
  refine wpAny_execs_cons ?_
  rw [arm_exec_Return]
  refine wpAny_bind (wpAny_standAt ?_)
  rw [arm_evalOpt_some]
  refine wpAny_bind ?_
  rw [eval_Compare1]
  refine wpAny_bind ?_
  with_reducible refine run_call2 (n := 50) (ops := [.o 1, .n 0, .f, .o 2, .o 4, .o 4, .o 5, .x]) hO rfl D4 hs4 [(b + (8 + 0), frL i j e1 e2 u1 u2 nn)] 1 (tk + 1 + 1 + 1) (Code.builtin "proto.getattr_hooked" ⟨[.ref i, .str (St "obj") (tk + 1 + 1)], []⟩) (by kernel_rfl) fun h5 _ _ D5 hs5 => ?_
  refine attr_g w K P i di li _ _ _ (hOa _ _ _ hi) D5 hs5 fun h5 D5 hs5 => ?_
  with_reducible refine run_call2 (n := 50) (ops := [.n 0, .f, .o 3, .o 4, .o 4, .o 5, .x]) hO rfl D5 hs5 [(b + (8 + 0), frL i j e1 e2 u1 u2 nn)] 1 (tk + 1 + 1 + 1 + 1) (Code.builtin "proto.getattr_hooked" ⟨[.ref j, .str (St "obj") (tk + 1 + 1 + 1)], []⟩) (by kernel_rfl) fun h6 _ _ D6 hs6 => ?_
  refine attr_g w K P j dj lj _ _ _ (hOa _ _ _ hj) D6 hs6 fun h6 D6 hs6 => ?_
  with_reducible refine run_call2 (n := 50) (ops := [.o 0, .x]) hO rfl D6 hs6 [(b + (8 + 0), frL i j e1 e2 u1 u2 nn)] 1 (tk + 1 + 1 + 1 + 1) (Code.call (.ref 84) ⟨[.ref li, .ref lj], []⟩) (by kernel_rfl) fun h7 _ _ D7 hs7 => ?_
  refine ex_enter ?_
  have F7 : Fr h (b + (8 + 0)) h7 (nsFind (esL i j e1 e2 u1 u2)) := ⟨⟨_, _, _, D7.own _ (.head _), rfl, strKeysL _ _ _ _ _ _, fun _ => rfl⟩, fun b o e => D7.keep b o e (by simp), by rw [hb]; exact Nat.le_refl _⟩
  subst hAe
  refine compared_code w p loose mean mg mb li lj va.toList vb.toList (dp + 1) (un + 3) gd _ _ _ _ _ (envX cn cs L a ccd cl :: outer) _ base h (b + (8 + 0)) _ _ _ (pushX B F rfl hk) F7 (X.keeps F.keep) (T.keeps F.keep) (by kernel_rfl) ⟨⟨_, D7.keep _ _ hli (by simp), rfl, na, rfl⟩, ⟨_, D7.keep _ _ hlj (by simp), rfl, nb, rfl⟩, by simpa using hva, by simpa using hvb⟩ (by simp only [recursionLimit]; omega) (by simp only [cLine]; omega) ?_
  rintro v h8 tk8 old ⟨zt, rfl⟩
  generalize hz : 3 * cmp3 (vb.toList.length : Int) (va.toList.length : Int) = z
  have D8 := D7.grow old
  obtain ⟨b8, hb8⟩ := from8 (k := 35) (D8.keep _ _ (KX _ _ (z35 w)) (by simp)) (by decide)
  with_reducible refine run_end2 (n := 50) (ops := [.x]) hO rfl D8 hb8 [(b + (8 + 0), frL i j e1 e2 u1 u2 nn)] 0 tk8 (.int z zt) (by kernel_rfl) fun h9 D9 hs9 => ?_
  refine wpAny_bind ?_
  with_reducible refine run_end2 (n := 50) (ops := [.f, .x]) hO rfl D9 hs9 [(b + (8 + 0), frL i j e1 e2 u1 u2 nn)] 0 (tk8 + 1) (.int 0 tk8) (by kernel_rfl) fun h10 D10 hs10 => ?_
  refine wpAny_bind (wpAny_standAt ?_)
  refine wpAny_operate' (wpAny_lt_int ?_)
  have hz' : decide (z < 0) = decide (vb.size < va.size) := by
    rw [decide_eq_decide, ← hz]
    unfold cmp3
    simp only [Array.length_toList]
    split <;> (try split) <;> omega
  rw [hz']
  refine wpAny_pure ?_
  dsimp only
  refine wpAny_pure ?_
  dsimp only
  refine wpAny_truthy_bool ?_
  exact hQ _ _ fun b o e => D10.keep b o e (by simp)
end
end
section
noncomputable def LstsAre (news : List (Addr × Obj)) (vs : List Value) (ls : List Nat) : Prop := vs.length = ls.length ∧ ∀ i, i < ls.length → ∃ a xs e, vs[i]? = some (.ref a) ∧ (a, (⟨.type "list", none, .seq xs e, #[]⟩ : Obj)) ∈ news ∧ xs.size = ls.getD i 0
noncomputable def KeysAre (news : List (Addr × Obj)) (ks vs : List Value) (x60 : Addr) : Prop := ks.length ≤ vs.length ∧ ∀ i, i < ks.length → ∃ a da la, ks[i]? = some (.ref a) ∧ vs[i]? = some (.ref la) ∧ (a, (⟨.ref x60, some da, .plain, #[some (.ref la)]⟩ : Obj)) ∈ news
section
variable {w : World} {A : Around} {s : Shared} {h₀ : Heap} {L : Addr} {m : Str → Option Value} {news : List (Addr × Obj)}
theorem keys_go (hA : A.handled = none) (hAd : A.depth ≤ 600) (hAu : A.units ≤ 4000) {M : List (Addr × Obj)} {x60 x1 kS D : Addr} {e1 : Nat} (hK : KIn w M x60 x1) (hM : ∀ p ∈ M, p ∈ news) {vs : List Value} {ls : List Nat} (hV : LstsAre news vs ls)
    {Fin : List Value → Nat → Shared → Prop} (hkD : D < kS) (hlt : ∀ p ∈ news, p.1 < D) (KX₀ : (hxo w.params).In h₀) (hNL₀ : h₀.NoLimit)
    (hFin : ∀ ks e h tk ins, ks.length = vs.length → KeysAre ins ks vs x60 → Fr h₀ L h m → News h₀ L h ((kS, seqObj "list" (List.toArray ks) e) :: (D, seqObj "list" #[] e1) :: (ins ++ news)) → (∀ p ∈ ins, p.1 ≠ kS ∧ p.1 ≠ D) → Fin ks e { s with heap := h, toks := tk }) :
    ∀ (r ks : List Value) (e : Nat) (h : Heap) (tk : Tok) (ins : List (Addr × Obj)), (∃ us, us ++ r = vs ∧ us.length = ks.length) → KeysAre ins ks vs x60 → (∀ p ∈ ins, p.1 ≠ kS ∧ p.1 ≠ D) → Fr h₀ L h m → News h₀ L h ((kS, seqObj "list" (List.toArray ks) e) :: (D, seqObj "list" #[] e1) :: (ins ++ news)) →
      KatKeys PR w A h₀ L m kS (.ref x60) Fin r ks e { s with heap := h, toks := tk }
  | [], ks, e, h, tk, ins, hr, hks, hi, F, N => by
    obtain ⟨us, rfl, hu⟩ := hr
    rw [List.append_nil] at hks hFin
    exact KatKeys.nil (hFin ks e h tk ins hu.symm hks F N hi)
  | v :: r, ks, e, h, tk, ins, hr, hks, hi, F, N => by
    obtain ⟨us, e0, hu⟩ := hr
    have hvi : vs[ks.length]? = some v := by rw [← e0, ← hu]; simp
    have hkl : ks.length < vs.length := (List.getElem?_eq_some_iff.mp hvi).1
    obtain ⟨la, xs, ea, hla, hlm, _⟩ := hV.2 ks.length (by rw [← hV.1]; exact hkl)
    rw [hvi] at hla
    obtain rfl : v = .ref la := Option.some.inj hla
    have hMN : ∀ p ∈ M, h.get? p.1 = some p.2 := fun p hp => (N p (.tail _ (.tail _ (List.mem_append_right _ (hM p hp))))).1
    have KX := KX₀.keeps F.keep
    obtain ⟨K, P, c1, c2, ct, k1, k2, e6, KM⟩ := id hK
    refine KatKeys.cons (kobj w A hAd K P c1 c2 ct x1 k1 k2 M KM x60 e6 la h _ _ tk _ hMN KX (hNL₀.keeps F.keep) _ _ ?_)
    intro a da h' tk' L1 D1 hm
    have old : ∀ b o, h.get? b = some o → h'.get? b = some o := fun b o e => D1.keep b o e (by simp)
    have ha := D1.own _ hm
    have han : h.get? a = none := (D1.low _ hm).resolve_left (by simp)
    have hne : ∀ b o, h.get? b = some o → b ≠ a := fun b o e h => by rw [h, han] at e; cases e
    have N' : News h₀ L h' ((a, ⟨.ref x60, some da, .plain, #[some (.ref la)]⟩) :: ((kS, seqObj "list" (List.toArray ks) e) :: (D, seqObj "list" #[] e1) :: (ins ++ news))) := by
      intro p hp
      rcases List.mem_cons.mp hp with rfl | hp
      · obtain ⟨oL, _, _, hL, _⟩ := F.ns
        exact ⟨ha, fun e => hne _ _ hL e.symm, none_of_keeps F.keep han⟩
      · exact N.grown old p hp
    have zk := N (kS, seqObj "list" (List.toArray ks) e) (.head _)
    have zD := N (D, seqObj "list" #[] e1) (.tail _ (.head _))
    refine KatBack.intro (F.keeps old) N' (.tail (fun e => hne _ _ zk.1 e.symm) (.head ?_)) ?_
    · intro p hp
      rcases List.mem_cons.mp hp with rfl | hp
      · exact Nat.ne_of_lt hkD
      rcases List.mem_append.mp hp with hp | hp
      · exact (hi p hp).1
      · exact Nat.ne_of_lt (Nat.lt_trans (hlt p hp) hkD)
    intro h2 c F2 N2
    refine keys_go hA hAd hAu hK hM hV hkD hlt KX₀ hNL₀ hFin r (ks ++ [.ref a]) c h2 tk' ((a, ⟨.ref x60, some da, .plain, #[some (.ref la)]⟩) :: ins) ⟨us ++ [.ref la], by rw [List.append_assoc]; exact e0, by simp [hu]⟩ ?_ ?_ F2 ?_
    · refine ⟨by rw [List.length_append, List.length_singleton]; omega, fun i hi2 => ?_⟩
      by_cases c3 : i < ks.length
      · obtain ⟨a', da', la', q1, q2, q3⟩ := hks.2 i c3
        exact ⟨a', da', la', by rw [List.getElem?_append_left c3]; exact q1, q2, .tail _ q3⟩
      · have : i = ks.length := by rw [List.length_append, List.length_singleton] at hi2; omega
        subst this
        exact ⟨a, da, la, by simp, hvi, .head _⟩
    · intro p hp
      rcases List.mem_cons.mp hp with rfl | hp
      · exact ⟨fun e => hne _ _ zk.1 e.symm, fun e => hne _ _ zD.1 e.symm⟩
      · exact hi p hp
    · intro p hp
      refine N2 p ?_
      simp only [List.cons_append, List.mem_cons] at hp ⊢
      rcases hp with h | h | h | h
      · exact .inr (.inl h)
      · exact .inr (.inr (.inl h))
      · exact .inl h
      · exact .inr (.inr (.inr h))
theorem sort_keys {p : Program} {loose : List Str} {mean : ExcName → Option Value} {mg mb : Str → Option Value} {dp un : Nat} {gd : Option (List Code)} {cn : Str} {cs : Scope} {a : Addr} {ccd : Value} {cl : List (Str × Addr)} {outer : List Env} {A₀ : Around} {base : Heap}
    (B : Below A₀ base outer h₀) (X : (hd.heap_1 w.params).In h₀) (T : Top p loose mean mg mb h₀) (hk : cs.kind = .function) (hAd : dp ≤ 350) (hAu : un ≤ 3000) (KX₀ : (hxo w.params).In h₀) {E Q : Value → Shared → Prop} {l x60 x1 : Addr} {o1 : Obj} {M : List (Addr × Obj)} {vs : List Value} {ls : List Nat} {pp : Array Nat}
    (F : Fr h₀ L s.heap m) (N : News h₀ L s.heap news) (hl : s.heap.IsList l vs.toArray) (hV : LstsAre news vs ls) (hK : KIn w M x60 x1) (hM : ∀ p ∈ M, p ∈ news) (hx1 : (x1, o1) ∈ news) (ho1 : o1.data = .cell (some (.ref 84)))
    (h2 : 2 ≤ ls.length) (h64 : ls.length < 64) (hls : ∀ i, i < ls.length → ls.getD i 0 < 100) (hp : kopt ls.length (ltC ls) (kas_sort ls.length) = some pp)
    (hQ : ∀ D h' tk c, Fr h₀ L h' m → (∀ q ∈ news, q.1 < D) → News h₀ L h' ((D, listOf (List.toArray (pp.toList.map fun i => vs.getD i .none)) c) :: news) → Q (.ref D) { s with heap := h', toks := tk }) :
    wpAny (model PR w) (ktrTop dp un gd cn cs L a ccd cl outer) (call (.builtin "sorted") [.ref l] [(Str.ofString "key", .ref x60)]) Q E s := by
  have hlen := hV.1
  refine kat_sortedK (b := false) F N hl (by omega) (by omega) (ksk_s1 _ _) (fun _ => ksk_l1 _ _) (fun _ => ksk_t1 _ _) ?_
  intro D kS e1 h' F' N' lt1 lt2
  refine keys_go (A := (ktrTop dp un gd cn cs L a ccd cl outer).in1.in1) rfl (show dp ≤ 600 by omega) (show un + 1 + 1 ≤ 4000 by omega) hK hM hV lt1 lt2 KX₀ T.nolimit ?_ vs [] 0 h' s.toks [] ⟨[], rfl, rfl⟩ ⟨Nat.zero_le _, fun i hi => absurd hi (Nat.not_lt_zero _)⟩ (fun p hp => nomatch hp) F' N'
  intro ks e h3 tk3 ins hkl hks F3 N3 hi
  have hkn : ks.length = ls.length := hkl.trans hlen
  refine kas_kind (T := .ref x60) (by omega) ?_ rfl (by simp) ?_
  · intro v hv
    obtain ⟨i, hi2⟩ := List.getElem?_of_mem hv
    obtain ⟨a, da, la, q1, q2, q3⟩ := hks.2 i (List.getElem?_eq_some_iff.mp hi2).1
    rw [hi2] at q1
    obtain rfl : v = .ref a := Option.some.inj q1
    exact (Looks.ld (N3 _ (.tail _ (.tail _ (List.mem_append_left _ q3)))).1).andThen .now
  rw [hlen]
  show KasT.kasWp (kas_ask PR w (ktrTop dp un gd cn cs L a ccd cl outer).in1.in1 oneType' ks) _ _ _
  refine kopt_wp (n := ls.length) (lt := ltC ls) (I := fun s' => ∃ h'' tk, s' = { s with heap := h'', toks := tk } ∧ Fr h₀ L h'' m ∧ News h₀ L h'' ((kS, seqObj "list" (List.toArray ks) e) :: (D, seqObj "list" #[] e1) :: (ins ++ news))) ?_ _ pp _ _ hp ⟨h3, tk3, rfl, F3, N3⟩ ?_
  · rintro i j C s' hi' hj' ⟨h'', tk, rfl, F4, N4⟩ k
    obtain ⟨ai, dai, lai, i1, i2, i3⟩ := hks.2 i (by omega)
    obtain ⟨aj, daj, laj, j1, j2, j3⟩ := hks.2 j (by omega)
    obtain ⟨li, xi, ei, i4, i5, i6⟩ := hV.2 i hi'
    obtain ⟨lj, xj, ej, j4, j5, j6⟩ := hV.2 j hj'
    rw [i2] at i4
    rw [j2] at j4
    cases i4
    cases j4
    have e1 : ks.getD i Value.none = .ref ai := by rw [List.getD_eq_getElem?_getD, i1]; rfl
    have e2 : ks.getD j Value.none = .ref aj := by rw [List.getD_eq_getElem?_getD, j1]; rfl
    unfold kas_ask
    rw [e1, e2]
    refine lt_key w p loose mean mg mb dp (un + 1 + 1) gd cn cs a ccd cl outer A₀ base h₀ L m _ rfl h'' _ _ tk _ B F4 X T hk (by omega) (by omega) (KX₀.keeps F4.keep) M (fun p hp => (N4 p (.tail _ (.tail _ (List.mem_append_right _ (hM p hp))))).1) x60 x1 hK o1 (N4 _ (.tail _ (.tail _ (List.mem_append_right _ hx1)))).1 ho1 ai aj dai daj lai laj xi xj ei ej ?_ ?_ (N4 _ (.tail _ (.tail _ (List.mem_append_left _ i3)))).1 (N4 _ (.tail _ (.tail _ (List.mem_append_left _ j3)))).1 (N4 _ (.tail _ (.tail _ (List.mem_append_right _ i5)))).1 (N4 _ (.tail _ (.tail _ (List.mem_append_right _ j5)))).1 _ _ ?_
    · rw [i6]; exact hls i hi'
    · rw [j6]; exact hls j hj'
    intro h5 tk5 old
    rw [i6, j6]
    exact k _ ⟨h5, tk5, rfl, F4.keeps old, N4.grown old⟩
  · rintro s' ⟨h'', tk, rfl, F4, N4⟩
    have hne : ∀ p ∈ ins ++ news, p.1 ≠ kS := by
      intro p hp
      rcases List.mem_append.mp hp with hp | hp
      · exact (hi p hp).1
      · exact Nat.ne_of_lt (Nat.lt_trans (lt2 p hp) lt1)
    have hneD : ∀ p ∈ ins ++ news, p.1 ≠ D := by
      intro p hp
      rcases List.mem_append.mp hp with hp | hp
      · exact (hi p hp).2
      · exact Nat.ne_of_lt (lt2 p hp)
    refine KatFin.intro F4 N4 (.head ?_) ?_
    · intro p hp
      rcases List.mem_cons.mp hp with rfl | hp
      · exact Nat.ne_of_lt lt1
      · exact hne p hp
    intro h6 c F6 N6
    refine KasFin.intro F6 N6 (.tail (Nat.ne_of_gt lt1) (.head hneD)) ?_
    intro h7 c7 F7 N7
    refine hQ D h7 tk c7 F7 lt2 ?_
    intro p hp
    refine N7 p ?_
    rcases List.mem_cons.mp hp with rfl | hp
    · exact .tail _ (.head _)
    · exact .tail _ (.tail _ (List.mem_append_right _ hp))
end
end
section
theorem wp_of_eq {α : Type} {M : Model} {A : Around} {t t' : Sem α} {Q : α → Shared → Prop} {E : Value → Shared → Prop} {s : Shared} (e : t = t') (h : wpAny M A t' Q E s) : wpAny M A t Q E s := e ▸ h
set_option maxRecDepth 100000 in
set_option maxHeartbeats 8000000 in
theorem ck_enter (w : World) (p : Program) (loose : List Str) (mean : ExcName → Option Value) (mg mb : Str → Option Value) :
    ∀ (dp un : Nat) (gd : Option (List Code)) (cn : Str) (cs : Scope) (a : Addr) (ccd : Value) (cl : List (Str × Addr)) (outer : List Env) (A₀ : Around) (base h₀ : Heap) (L : Addr) (m : Str → Option Value) (s : Shared) (Q E : Value → Shared → Prop)
    (B : Below A₀ base outer h₀) (F : Fr h₀ L s.heap m) (X : (hd.heap_1 w.params).In h₀) (T : Top p loose mean mg mb h₀) (hk : cs.kind = .function) (hdp : dp ≤ 350) (hun : un ≤ 3000) (KX : (hxo w.params).In s.heap)
    (A0 : List Addr) (hA0 : ∀ b ∈ A0, b < s.heap.objs.size) (P : List (Addr × Obj) → Addr → Addr → Prop)
    (hmk : ∀ (A' : Around) (x0 : Nat) (h₁ : Heap) (tk : Tok) (Qc Ec : Value → Shared → Prop), A'.handled = none → A'.depth ≤ 400 → A'.units ≤ 3500 → (∀ b o, s.heap.get? b = some o → h₁.get? b = some o) →
      (∀ x60 h' L t', Lg h₁ A0 h' L → P L x60 (x0 + 1) → Qc (.ref x60) ⟨h', s.gens, s.drawn, t', s.os⟩) → wpAny (model PR w) A' (CT w EFs.1 (envCK w x0)) Qc Ec ⟨h₁, s.gens, s.drawn, tk, s.os⟩)
    (hQ : ∀ x60 x1 h' L t' o1, (∀ p ∈ L, h'.get? p.1 = some p.2 ∧ (p.1 ∈ A0 ∨ s.heap.get? p.1 = none)) → P L x60 x1 → h'.get? x1 = some o1 → o1.data = .cell (some (.ref 84)) → s.heap.get? x1 = none →
      (∀ b o, s.heap.get? b = some o → b ∉ A0 → h'.get? b = some o) → Q (.ref x60) ⟨h', s.gens, s.drawn, t', s.os⟩),
    wpAny (model PySem.Challenge.rw_oy0158_01.row.toRowW.prog w) (ktrTop dp un gd cn cs L a ccd cl outer) (call (.ref 35) [.ref 84]) Q E s := by
  k_fill
  intro dp un gd cn cs a ccd cl outer A₀ base h₀ L m s Q E B F X T hk hdp hun KX A0 hA0 P hmk hQ
  have hdp' : dp + 9 < recursionLimit := by simp only [recursionLimit]; omega
  have hun' : un + 20 * 9 < cLine := by simp only [cLine]; omega
  w_top off
  walk_at "pc_enterC"
  rename_i L1 h1 tk1 F1 B1 X1 T1 o1 ho1 N1
  have ho1' : o1.data = .cell (some (.ref 84)) := ho1
  clear ho1
  have KX1 : (hxo w.params).In h1 := KX.keeps F1.keep
  refine wpAny_execs_cons ?_
  rw [arm_exec_ClassDef]
  refine wpAny_bind (wpAny_pure ?_)
  refine wpAny_bind (wpAny_standAt ?_)
  refine wpAny_bind ?_
  obtain ⟨b1, hb1⟩ := from8 (k := 35) (KX1 _ _ (z35 w)) (by decide)
  refine run_end (O := OF w) (n := 20) (ops := [.o 0, .x]) (no_A fun p hp => (of_at KX1 p hp).1) rfl Lg.nil hb1 [] 0 () (by kernel_rfl) fun h2 D2 hs2 => ?_
  have k12 : ∀ b o, h1.get? b = some o → h2.get? b = some o := fun b o e => D2.keep b o e (by simp)
  refine wpAny_bind (wp_of_eq (t' := CT w EFs.1 (envCK w L1)) ?_ (hmk _ L1 h2 _ _ _ rfl (show dp + 1 ≤ 400 by omega) (show un + 3 ≤ 3500 by omega) (fun b o e => k12 b o (F1.keep b o e)) ?_))
  · simp only [fun a b c d e f g h i j k => (BCs.e a b c d e f g h i j k).eq.trans (congrArg (fun F => BCs.T F a b c d e f g h i j k) EFs.2)]
    kernel_rfl
  intro x60 h3 L3 tk3 D3 hP
  refine wpAny_bind (wpAny_pure ?_)
  refine wpAny_bind (wpAny_standAt ?_)
  have hlt : s.heap.objs.size ≤ L1 := F1.above
  have hLn : L1 ∉ A0 := fun hm => absurd (hA0 _ hm) (Nat.not_lt.mpr hlt)
  obtain ⟨oL, esL, epL, eL, rL⟩ := F1.ns
  have ns3 : h3.Ns L1 _ := ⟨oL, esL, epL, D3.keep _ _ (k12 _ _ eL) hLn, rL⟩
  refine wpAny_bind (wpAny_bindName (wpAny_storeName_local (by rfl) ns3 fun h4 ns4 sb4 => ?_))
  refine wpAny_pure ?_
  refine wpAny_execs_cons ?_
  rw [arm_exec_Return]
  refine wpAny_bind (wpAny_standAt ?_)
  rw [arm_evalOpt_some]
  refine wpAny_bind ?_
  rw [eval_Name _ (Str.ofString "K") _ (by decide)]
  refine wpAny_bind (wpAny_standAt ?_)
  refine wpAny_loadName_local rfl (by rfl) ns4 (if_pos rfl) ?_
  refine wpAny_pure ?_
  have off : ∀ b, h3.get? b ≠ none → b ≠ L1 → h4.get? b = h3.get? b := fun b _ hb => sb4.2 b hb
  refine hQ x60 (L1 + 1) h4 L3 _ o1 ?_ hP ?_ ho1' ?_ ?_
  · intro q hq
    have hne : q.1 ≠ L1 := by
      rintro e
      rcases D3.low q hq with h | h
      · exact hLn (e ▸ h)
      · rw [e, k12 _ _ eL] at h; cases h
    refine ⟨(sb4.2 _ hne).trans (D3.own q hq), ?_⟩
    rcases D3.low q hq with h | h
    · exact .inl h
    · refine .inr ?_
      cases e : s.heap.get? q.1 with
      | none => rfl
      | some o => rw [k12 _ _ (F1.keep _ _ e)] at h; cases h
  · have hc := N1 (L1 + 1, o1) (.head _)
    have hcn : L1 + 1 ∉ A0 := fun hm => absurd (hA0 _ hm) (Nat.not_lt.mpr (Nat.le_succ_of_le hlt))
    exact (sb4.2 _ hc.2.1).trans (D3.keep _ _ (k12 _ _ hc.1) hcn)
  · exact (N1 (L1 + 1, o1) (.head _)).2.2
  · intro b o e hb
    have hne : b ≠ L1 := Nat.ne_of_lt (Nat.lt_of_lt_of_le (Heap.lt_size e) hlt)
    exact (sb4.2 _ hne).trans (D3.keep _ _ (k12 _ _ (F1.keep _ _ e)) hb)
end
section
section
variable {w : World} {s : Shared} {h₀ : Heap} {L : Addr} {m : Str → Option Value}
theorem ck_call {p : Program} {loose : List Str} {mean : ExcName → Option Value} {mg mb : Str → Option Value} {dp un : Nat} {gd : Option (List Code)} {cn : Str} {cs : Scope} {a : Addr} {ccd : Value} {cl : List (Str × Addr)} {outer : List Env} {A₀ : Around} {base : Heap} {Q E : Value → Shared → Prop} {tab : Obj} {ns rs : List (Addr × Obj)}
    (B : Below A₀ base outer h₀) (F : Fr h₀ L s.heap m) (X : (hd.heap_1 w.params).In h₀) (T : Top p loose mean mg mb h₀) (hk : cs.kind = .function) (hdp : dp ≤ 350) (hun : un ≤ 3000) (KX₀ : (hxo w.params).In h₀)
    (N : News h₀ L s.heap ((30, tab) :: (ns ++ rs))) (hn30 : ∀ p ∈ ns ++ rs, p.1 ≠ 30) (hT : tab = tabObj #[] ∨ TIn ((30, tab) :: ns) tab)
    (hQ : ∀ x60 x1 o1 tab' ns2 h' tk', Fr h₀ L h' m → News h₀ L h' ((30, tab') :: (x1, o1) :: (ns2 ++ (ns ++ rs))) → (∀ p ∈ (x1, o1) :: ns2, p.1 ≠ 30 ∧ s.heap.get? p.1 = none) → TIn ((30, tab') :: (ns2 ++ ns)) tab' → KIn w ((30, tab') :: (ns2 ++ ns)) x60 x1 → o1.data = .cell (some (.ref 84)) →
      Q (.ref x60) { s with heap := h', toks := tk' }) :
    wpAny (model PySem.Challenge.rw_oy0158_01.row.toRowW.prog w) (ktrTop dp un gd cn cs L a ccd cl outer) (call (.ref 35) [.ref 84]) Q E s := by
  obtain ⟨oL, esL, epL, hL, rL⟩ := id F.ns
  have z30 := N (30, tab) (.head _)
  have nL : ∀ b, s.heap.get? b = none → b ≠ L := fun b e h => by rw [h, hL] at e; cases e
  have n0 : ∀ b, s.heap.get? b = none → h₀.get? b = none := fun b e => none_of_keeps F.keep e
  have n30 : ∀ b, s.heap.get? b = none → b ≠ 30 := fun b e h => by rw [h, z30.1] at e; cases e
  rcases hT with rfl | hT
  · refine ck_enter w p loose mean mg mb dp un gd cn cs a ccd cl outer A₀ base h₀ L m s Q E B F X T hk hdp hun (KX₀.keeps F.keep) [30] ?_ (fun L' x60 x1 => ∃ tab', (30, tab') ∈ L' ∧ KIn w L' x60 x1 ∧ TIn L' tab') ?_ ?_
    · intro b hb
      rw [List.mem_singleton.mp hb]
      exact Heap.lt_size z30.1
    · intro A' x0 h₁ tk Qc Ec hA hAd hAu old hq
      exact ck_make1 w A' hA hAd hAu x0 h₁ _ _ tk _ Qc Ec ((KX₀.keeps F.keep).keeps old) (old _ _ z30.1) (fun x60 tab h' L t' D hm hK hT => hq x60 h' L t' D ⟨tab, hm, hK, hT⟩)
    · rintro x60 x1 h' L' t' o1 hown ⟨tab', hm, hK, hT⟩ ho1 hd1 hx1 old
      have hsub : ∀ q ∈ L', q ∈ (30, tab') :: (L'.filter (fun q => q.1 != 30) ++ ns) := by
        intro q hq
        by_cases c : q.1 = 30
        · have e1 := (hown q hq).1
          have e2 := (hown _ hm).1
          rw [c, e2] at e1
          have : q = (30, tab') := Prod.ext c (Option.some.inj e1).symm
          rw [this]; exact .head _
        · exact .tail _ (List.mem_append_left _ (List.mem_filter.mpr ⟨hq, by simpa using c⟩))
      have hnew : ∀ q ∈ L', q.1 ≠ 30 → s.heap.get? q.1 = none := by
        intro q hq c
        rcases (hown q hq).2 with h | h
        · exact absurd (List.mem_singleton.mp h) c
        · exact h
      refine hQ x60 x1 o1 tab' (L'.filter fun q => q.1 != 30) h' t' (LCg.fr_but F (fun b o hb e => old b o e hb) z30.2.1.symm z30.2.2) ?_ ?_ (hT.mono hsub) (hK.mono hsub) hd1
      · intro q hq
        rcases List.mem_cons.mp hq with rfl | hq
        · exact ⟨(hown _ hm).1, z30.2⟩
        rcases List.mem_cons.mp hq with rfl | hq
        · exact ⟨ho1, nL _ hx1, n0 _ hx1⟩
        rcases List.mem_append.mp hq with hq | hq
        · obtain ⟨h1, h2⟩ := List.mem_filter.mp hq
          have h3 := hnew q h1 (by simpa using h2)
          exact ⟨(hown q h1).1, nL _ h3, n0 _ h3⟩
        · have := N q (.tail _ hq)
          exact ⟨old _ _ this.1 (by simpa using hn30 q hq), this.2⟩
      · intro q hq
        rcases List.mem_cons.mp hq with rfl | hq
        · exact ⟨n30 _ hx1, hx1⟩
        · obtain ⟨h1, h2⟩ := List.mem_filter.mp hq
          have h3 := hnew q h1 (by simpa using h2)
          exact ⟨n30 _ h3, h3⟩
  · refine ck_enter w p loose mean mg mb dp un gd cn cs a ccd cl outer A₀ base h₀ L m s Q E B F X T hk hdp hun (KX₀.keeps F.keep) [] (fun b hb => nomatch hb) (fun L' x60 x1 => KIn w (L' ++ ((30, tab) :: ns)) x60 x1) ?_ ?_
    · intro A' x0 h₁ tk Qc Ec hA hAd hAu old hq
      exact ck_make2 w A' hA hAd hAu x0 h₁ _ _ tk _ Qc Ec ((KX₀.keeps F.keep).keeps old) ((30, tab) :: ns) tab hT (fun p hp => old _ _ (N p (by rcases List.mem_cons.mp hp with rfl | hp; exact .head _; exact .tail _ (List.mem_append_left _ hp))).1) (old _ _ z30.1) (fun x60 h' L t' D hK => hq x60 h' L t' D hK)
    · rintro x60 x1 h' L' t' o1 hown hK ho1 hd1 hx1 old
      have old' : ∀ b o, s.heap.get? b = some o → h'.get? b = some o := fun b o e => old b o e (by simp)
      have hnew : ∀ q ∈ L', s.heap.get? q.1 = none := by
        intro q hq
        rcases (hown q hq).2 with h | h
        · cases h
        · exact h
      have hsub : ∀ q ∈ L' ++ ((30, tab) :: ns), q ∈ (30, tab) :: (L' ++ ns) := by
        intro q hq
        rcases List.mem_append.mp hq with hq | hq
        · exact .tail _ (List.mem_append_left _ hq)
        rcases List.mem_cons.mp hq with rfl | hq
        · exact .head _
        · exact .tail _ (List.mem_append_right _ hq)
      refine hQ x60 x1 o1 tab L' h' t' (F.keeps old') ?_ ?_ (hT.mono fun q hq => hsub q (List.mem_append_right _ hq)) (hK.mono hsub) hd1
      · intro q hq
        rcases List.mem_cons.mp hq with rfl | hq
        · exact ⟨old' _ _ z30.1, z30.2⟩
        rcases List.mem_cons.mp hq with rfl | hq
        · exact ⟨ho1, nL _ hx1, n0 _ hx1⟩
        rcases List.mem_append.mp hq with hq | hq
        · exact ⟨(hown q hq).1, nL _ (hnew q hq), n0 _ (hnew q hq)⟩
        · exact N.grown old' q (.tail _ hq)
      · intro q hq
        rcases List.mem_cons.mp hq with rfl | hq
        · exact ⟨n30 _ hx1, hx1⟩
        · exact ⟨n30 _ (hnew q hq), hnew q hq⟩
end
end
section
theorem frag_sub {K1 K2 : Frag} {h : Heap} (e : (K1.map fun p => K2.lookup p.1) = K1.map fun p => some p.2) (X : K2.In h) : K1.In h := by
  intro a o ho
  have := List.map_inj_left.mp e (a, o) (mem_of_lookupK ho)
  exact X a o this
theorem hd_of_hx (P : Params) {h : Heap} (X : (hx.heap_1 P).In h) : (hd.heap_1 P).In h := frag_sub (by kernel_rfl) X
theorem tab30 (P : Params) {h : Heap} (X : (hx.heap_1 P).In h) : ∀ q ∈ [30], h.get? q = some (tabObj #[]) := by
  intro q hq
  rcases List.mem_singleton.mp hq with rfl
  exact X 30 _ (by kernel_rfl)
theorem says_km (w : World) (as : List Addr) (e : ∀ P, as = (hd.heap_1 P).map (·.1)) {h : Heap} (X : (hx.heap_1 w.params).In h) : (kmHook hd.heap_1 as e [30]).says w h := ⟨hd_of_hx _ X, tab30 _ X⟩
theorem lt100 {n : Nat} (h : ¬ ((63 : Nat) : Int) < (n : Int)) : n < 100 := by omega
theorem names_facts {ys : List Value} {ns : List Int} (h : StrsAre ys (namesOf ns)) : ∃ NS, StrsAre ys NS ∧ id (∀ x ∈ NS, Nm x) ∧ 6 ≤ NS.length ∧ NS.length ≤ 9 ∧ id (S [] ∈ NS ∧ S [97, 98, 65] ∈ NS) :=
  ⟨_, h, nm_names ns, (names_len ns).1, (names_len ns).2, names_has ns⟩
theorem ItemsRest.sym {prog : Program} {w : World} {A : Around} {E : Value → Shared → Prop} {h₀ : Heap} {env : Env} {target : Expr} {body : List Stmt} {Q : Flow → Shared → Prop} {s : Shared} {ws : List (Addr × String)} {keep : List (Addr × Obj)}
    (J : List Itm → (Str → Option Value) → List (Addr × Obj) → Prop)
    (step : ∀ a r m news, J (a :: r) m news → ∀ v h tk, a.Is v h → Fr h₀ env.locals h m → AllObj ws (fun its => News h₀ env.locals h (its ++ news) →
      wpAny (model prog w) A (assign target env v) (fun _ s₂ => wpAny (model prog w) A (execs body env) (UnrPostW h₀ env.locals { s with heap := h, toks := tk } its (fun m' n' => SubL keep n' ∧ J r m' n') Q) E s₂) E { s with heap := h, toks := tk }))
    (done : ∀ m news, J [] m news → ∀ h tk, Fr h₀ env.locals h m → News h₀ env.locals h news → Q .next { s with heap := h, toks := tk }) :
    ∀ xs m news, J xs m news → ItemsRest prog w A E h₀ env target body Q s ws keep xs m news
  | [], m, news, h => done m news h
  | a :: r, m, news, h => by
    intro v h' tk hv F
    have ih := ItemsRest.sym J step done r
    have X := step a r m news h v h' tk hv F
    revert X
    generalize hws : ws = W
    suffices H : ∀ (W : List (Addr × String)) (K K' : List (Addr × Obj) → Prop), (∀ its, K its → K' its) → AllObj W K → AllObj W K' by
      refine H W _ _ fun its X N => ?_
      refine wpAny_mono (X N) (fun _ s₂ h₂ => wpAny_mono h₂ (fun f s₃ p => ?_) fun _ _ e => e) fun _ _ e => e
      have key : ∀ s₃, UnrEndW h₀ env.locals { s with heap := h', toks := tk } its (fun m' n' => SubL keep n' ∧ J r m' n') s₃ → UnrEndW h₀ env.locals { s with heap := h', toks := tk } its (fun m' n' => SubL keep n' ∧ ItemsRest prog w A E h₀ env target body Q s W keep r m' n') s₃ := by
        rintro s₃ ⟨h1, tk1, m1, n1, e, F1, N1, o, k, j⟩
        exact ⟨h1, tk1, m1, n1, e, F1, N1, o, k, hws ▸ ih _ _ j⟩
      cases f with
      | ret v => exact p
      | brk => exact p
      | next => exact key _ p
      | cont => exact key _ p
    intro W
    induction W with
    | nil => intro K K' f h; exact f _ h
    | cons w r ih => intro K K' f h o ho; exact ih _ _ (fun its => f _) (h o ho)
theorem groups_nm : ∀ {xs : List Str} {gs : List (List Str)}, (∀ x ∈ xs, Nm x) → (∀ g ∈ gs, ∀ x ∈ g, Nm x) → ∀ g ∈ xs.foldl (groupIns costF) gs, ∀ x ∈ g, Nm x
  | [], _, _, hg => hg
  | x :: xs, _, h, hg => groups_nm (xs := xs) (fun y hy => h y (.tail _ hy)) (ins_nm (h x (.head _)) hg)
theorem gdat_ok {gs : List (List Str)} (h : ∀ g ∈ gs, ∀ x ∈ g, Nm x) : kqdOk 8 (.list (gdat gs)) = true := by
  simp only [gdat, kqdOk, List.all_eq_true, List.mem_map]
  rintro _ ⟨g, hg, rfl⟩
  simp only [kqdOk, List.all_eq_true, List.mem_map]
  rintro _ ⟨x, hx, rfl⟩
  exact nm_ok (h g hg x hx)
theorem groupsOf_nm {xs : List Str} (h : ∀ x ∈ xs, Nm x) : ∀ g ∈ groupsOf xs, ∀ x ∈ g, Nm x := groups_nm h (by intro g hg; cases hg)
theorem made_off {h₀ h h' : Heap} {L c : Addr} {o : Obj} {objs news : List (Addr × Obj)} (N : News h₀ L h news) (hm : (c, o) ∈ news) (M : Made h h' objs) : ∀ p ∈ objs, p.1 ≠ c := by
  intro p hp e
  have h1 := (M p hp).2
  rw [e, N.get hm] at h1
  cases h1
theorem cell_off {h₀ h : Heap} {L c : Addr} {o : Obj} {v : Option Value} {news : List (Addr × Obj)} (N : News h₀ L h news) (hm : (c, o) ∈ news) (hd : o.data = .cell v) {q : Addr × Obj} (hq : q ∈ news) (hn : ∀ x, q.2.data ≠ .cell x) : q.1 ≠ c := by
  intro e
  have h1 := N.get (a := q.1) (o := q.2) hq
  rw [e, N.get hm] at h1
  exact hn v (by rw [← Option.some.inj h1]; exact hd)
theorem if_min (a : Int) : (if 3 < a then 3 else a) = min a 3 := by
  by_cases h : 3 < a
  · rw [if_pos h]; omega
  · rw [if_neg h]; omega
theorem tab_off {h : Heap} {M : List (Addr × Obj)} {tab o : Obj} {a : Addr} (h30 : h.get? 30 = some tab) (hT : tab = tabObj #[] ∨ TIn M tab) (ha : h.get? a = some o) (ho : o.cls = .type "list" ∨ ∃ v, o.data = .cell v) : a ≠ 30 := by
  rintro rfl
  rw [h30] at ha
  cases ha
  rcases hT with rfl | ⟨TT, rfl, _⟩
  · rcases ho with h | ⟨v, h⟩ <;> cases h
  · rcases ho with h | ⟨v, h⟩ <;> cases h
theorem ghost_hxo {w : World} {h : Heap} (X : (hx.heap_1 w.params).In h) : (hxo w.params).In (ghostOf h [(34, 30)]) := by
  intro a o e
  have he : ∀ {l : Frag}, (l.filter fun p => p.1 != 30).lookup a = some o → a ≠ 30 ∧ l.lookup a = some o := by
    intro l
    induction l with
    | nil => intro e; cases e
    | cons q r ih =>
      intro e
      obtain ⟨qa, qo⟩ := q
      by_cases c : qa = 30
      · rw [List.filter_cons_of_neg (by simp [c])] at e
        have := ih e
        refine ⟨this.1, ?_⟩
        rw [List.lookup_cons, show (a == qa) = false from beq_eq_false_iff_ne.mpr (c ▸ this.1)]
        exact this.2
      · rw [List.filter_cons_of_pos (by simpa using c), List.lookup_cons] at e
        rw [List.lookup_cons]
        by_cases c2 : a = qa
        · rw [show (a == qa) = true from beq_iff_eq.mpr c2] at e ⊢
          exact ⟨c2 ▸ c, e⟩
        · rw [show (a == qa) = false from beq_eq_false_iff_ne.mpr c2] at e ⊢
          exact ih e
  have := he e
  exact ghost_ne (X _ _ this.2) (by simpa using this.1)
section
variable {prog : Program} {w : World} {A : Around} {s : Shared} {h₀ : Heap} {L : Addr} {m : Str → Option Value} {env : Env} {elt : Expr} {x x₂ : Str} {scope : Scope} {cl : List (Str × Addr)} {S : List (Addr × Obj) → Prop} {P : Nat → Value → Prop} {Fin : List Value → List (Addr × Obj) → Prop} {news : List (Addr × Obj)}
theorem cr_invP {n : Nat} (J : Nat → List Value → List (Addr × Obj) → Prop) (h0 : J 0 [] news)
    (turn : ∀ i ys nw v, i < n → J i ys nw → P i v → ∃ (t : Addr) (ot : Obj) (v₁ v₂ : Value) (nt : Nat), v = .ref t ∧ (t, ot) ∈ nw ∧ ot.cls = .type "tuple" ∧ ot.data = .seq #[v₁, v₂] nt ∧
      ∀ I oI C oC D m₂ h tk (E' : Value → Shared → Prop), LCg.NsObj oC m₂ → m₂ x = some v₁ → m₂ x₂ = some v₂ → Fr h₀ L h m → News h₀ L h ((I, oI) :: (C, oC) :: (D, LCg.lst ys) :: nw) → LCg.Off3 I C D nw → ((@Ne Nat I C) ∧ (@Ne Nat I D) ∧ (@Ne Nat C D)) →
      wpAny (model prog w) A (eval elt (compEnvC scope cl C env)) (LCg.CompEnd h₀ L m { s with heap := h, toks := tk } I oI C oC D (LCg.lst ys) S (fun y nw' => J (i + 1) (ys ++ [y]) nw')) E' { s with heap := h, toks := tk })
    (fin : ∀ ys nw, J n ys nw → Fin ys nw) : LCp.CompRestP prog w A h₀ L m env elt x x₂ scope cl s S P Fin n 0 [] news := by
  have key : ∀ (j i : Nat) (ys : List Value) (nw : List (Addr × Obj)), i + j = n → J i ys nw → LCp.CompRestP prog w A h₀ L m env elt x x₂ scope cl s S P Fin j i ys nw := by
    intro j
    induction j with
    | zero =>
      intro i ys nw hi hj
      have e : i = n := by omega
      subst e
      exact LCp.CompRestP.zero (fin ys nw hj)
    | succ j ih =>
      intro i ys nw hi hj
      refine LCp.CompRestP.succ ?_
      intro v hv
      obtain ⟨t, ot, v₁, v₂, nt, e1, e2, e3, e4, k⟩ := turn i ys nw v (by omega) hj hv
      refine ⟨t, ot, v₁, v₂, nt, e1, e2, e3, e4, fun I oI C oC D m₂ h tk E' hC h1 h2 F N off ne => ?_⟩
      exact wpAny_mono (k I oI C oC D m₂ h tk E' hC h1 h2 F N off ne) (fun y s₂ hq => compEnd_mono hq fun nw' z => ih (i + 1) _ nw' (by omega) z) fun _ _ e => e
  exact key n 0 [] news (by omega) h0
end
theorem mem_le_sum {x : Nat} : ∀ {ls : List Nat}, x ∈ ls → x ≤ ls.sum
  | a :: r, h => by
    rw [List.sum_cons]
    rcases List.mem_cons.mp h with rfl | h
    · omega
    · have := mem_le_sum h; omega
theorem dat_at : ∀ {news : List (Addr × Obj)} {vs : List Value} {ds : List Dat}, DatAll news vs ds → ∀ {i : Nat}, i < vs.length → DatIn news (vs.getD i .none) (ds.getD i .none)
  | _, _, _, .nil, i, h => absurd h (Nat.not_lt_zero _)
  | _, _, _, .cons h r, 0, _ => by simpa using h
  | _, _, _, .cons h r, i + 1, hi => by simpa using dat_at r (i := i) (by simpa using hi)
theorem dat_perm {news : List (Addr × Obj)} {vs : List Value} {ds : List Dat} (D : DatAll news vs ds) : ∀ {is : List Nat}, (∀ i ∈ is, i < vs.length) → DatAll news (is.map fun i => vs.getD i .none) (is.map fun i => ds.getD i .none)
  | [], _ => .nil
  | i :: is, h => .cons (dat_at D (h i (.head _))) (dat_perm D fun j hj => h j (.tail _ hj))
theorem gd_okP {G : List (List Str)} (h : ∀ g ∈ G, ∀ x ∈ g, Nm x) (is : List Nat) : ∀ d ∈ is.map fun i => (gdat G).getD i Dat.none, kqdOk 8 d = true := by
  intro d hd
  obtain ⟨i, _, rfl⟩ := List.mem_map.mp hd
  rw [List.getD_eq_getElem?_getD, gdat, List.getElem?_map]
  cases e : G[i]? with
  | none => rfl
  | some q =>
    have hq := List.mem_of_getElem? e
    show kqdOk 8 (.list (q.map Dat.str)) = true
    simp only [kqdOk, List.all_eq_true, List.mem_map]
    rintro _ ⟨x, hx, rfl⟩
    exact nm_ok (h q hq x hx)
noncomputable def firstsOf (xs : List Str) : List Str := (groupsOf xs).map fun g => g.headD (S [])
theorem dat_list {news : List (Addr × Obj)} {a : Addr} {ds : List Dat} (D : DatIn news (.ref a) (.list ds)) : ∃ vs n, (a, listOf (List.toArray vs) n) ∈ news ∧ DatAll news vs ds := by
  cases D with
  | list hm hd => exact ⟨_, _, hm, hd⟩
theorem first_str : ∀ {us : List Value} {q : List Str}, StrsAre us q → q ≠ [] → ∃ x t, us[0]? = some (.str x t) ∧ q.headD (S []) = x
  | _, _, .nil, h => absurd rfl h
  | _, _, .cons x t r, _ => ⟨x, t, rfl, rfl⟩
theorem off1_mem {D : Addr} : ∀ {l : List (Addr × Obj)}, LCg.Off1 D l → ∀ p, p ∈ l → p.1 ≠ D := by
  intro l
  induction l with
  | nil => intro _ p hp; cases hp
  | cons q r ih =>
    intro h p hp
    rcases List.mem_cons.mp hp with e | hp
    · rw [e]; exact h.1
    · exact ih h.2 p hp
theorem allLt_mem {D : Addr} : ∀ {l : List (Addr × Obj)}, AllLt D l → ∀ p, p ∈ l → p.1 < D := by
  intro l
  induction l with
  | nil => intro _ p hp; cases hp
  | cons q r ih =>
    intro h p hp
    rcases List.mem_cons.mp hp with e | hp
    · rw [e]; exact h.1
    · exact ih h.2 p hp
theorem firsts_ne {xs : List Str} (hNm : ∀ x ∈ xs, Nm x) (h : S [] ∈ xs ∧ S [97, 98, 65] ∈ xs) : firstsOf xs ≠ [] := by
  intro e
  have := two_groups hNm h.1 h.2
  have h2 : (firstsOf xs).length = 0 := by rw [e]; rfl
  rw [firstsOf, List.length_map] at h2
  omega
theorem firsts_nm {xs : List Str} (h : ∀ x ∈ xs, Nm x) : ∀ x ∈ firstsOf xs, Nm x := by
  intro x hx
  obtain ⟨g, hg, rfl⟩ := List.mem_map.mp hx
  cases g with
  | nil => exact absurd rfl (groups_pos xs [] hg)
  | cons y r => exact groupsOf_nm h _ hg y (.head _)
theorem strs_ok {l : List Str} (h : ∀ x ∈ l, Nm x) : kqdOk 7 (.list (l.map Dat.str)) = true := by
  show (l.map Dat.str).all (kqdOk 6) = true
  rw [List.all_eq_true]
  intro d hd
  obtain ⟨x, hx, rfl⟩ := List.mem_map.mp hd
  exact nm_ok (h x hx)
theorem pair_ok {a b : Dat} (h1 : kqdOk 7 a = true) (h2 : kqdOk 7 b = true) : kqdOk 8 (.tuple [a, b]) = true := by
  show (kqdOk 7 a && (kqdOk 7 b && true)) = true
  rw [h1, h2]; rfl
theorem told_ok {xs ys : List Str} (h1 : ∀ x ∈ xs, Nm x) (h2 : ∀ x ∈ ys, Nm x) : ∀ d ∈ [Dat.tuple [.list ((lackS xs ys).map Dat.str), .list ((lackS ys xs).map Dat.str)], .tuple [.list ((toldM xs ys).reverse.map Dat.str), .list ((toldL xs ys).map Dat.str)]], kqdOk 8 d = true := by
  intro d hd
  simp only [List.mem_cons, List.not_mem_nil, or_false] at hd
  rcases hd with rfl | rfl
  · exact pair_ok (strs_ok fun x hx => h1 x (lackS_mem hx)) (strs_ok fun x hx => h2 x (lackS_mem hx))
  · exact pair_ok (strs_ok fun x hx => h1 x (idxF_mem (List.mem_reverse.mp hx))) (strs_ok fun x hx => h2 x (idxF_mem hx))
theorem nm_app {xs ys : List Str} (h1 : ∀ x ∈ xs, Nm x) (h2 : ∀ x ∈ ys, Nm x) : ∀ x ∈ xs ++ ys, Nm x := by
  intro x hx
  rcases List.mem_append.mp hx with hx | hx
  · exact h1 x hx
  · exact h2 x hx
theorem off3_of {I C D : Addr} : ∀ {l : List (Addr × Obj)}, (∀ p ∈ l, p.1 ≠ I ∧ p.1 ≠ C ∧ p.1 ≠ D) → LCg.Off3 I C D l
  | [], _ => trivial
  | p :: r, h => ⟨h p (.head _), off3_of fun q hq => h q (.tail _ hq)⟩
set_option maxRecDepth 100000 in
set_option maxHeartbeats 8000000 in
theorem hd_as (P P' : Params) : (hd.heap_1 P').map (·.1) = (hd.heap_1 P).map (·.1) := by kernel_rfl
theorem hd_list (w : World) : ∃ l : List Addr, ∀ P, l = (hd.heap_1 P).map (·.1) := ⟨_, fun P => hd_as P w.params⟩
theorem law_none (w : List Int) : ∀ (ct : ExcName × WTm), ct ∈ PySem.Challenge.rw_oy0158_01.row.raises → WTm.holds PySem.Challenge.rw_oy0158_01.row.records ct.2 { args := [ofPy (.list (w.map .int))] } = false := by wrow_none_raised
theorem law_post (w : List Int) : PySem.Challenge.rw_oy0158_01.row.claim.post [ofPy (.list (w.map .int))] (.bool true) [ofPy (.list (w.map .int))] = true := by wrow_post
structure Wx where
  w : World
  s₀ : Shared
  s₁ : Shared
  mg : Str → Option Value
  mb : Str → Option Value
structure LawT where
  P : World → Shared → Shared → (Str → Option Value) → (Str → Option Value) → Prop
  pf : (∀ w s₀ s₁ mg mb, P w s₀ s₁ mg mb) → PySem.Challenge.rw_oy0158_01.Holds
noncomputable def lawT : LawT := ⟨_, hz⟩
@[irreducible] noncomputable def KW : Wx := @Classical.epsilon _ ⟨⟨w0, {}, {}, fun _ => none, fun _ => none⟩⟩ fun c : Wx => ¬ lawT.P c.w c.s₀ c.s₁ c.mg c.mb
theorem KW_of (h : lawT.P KW.w KW.s₀ KW.s₁ KW.mg KW.mb) (c : Wx) : lawT.P c.w c.s₀ c.s₁ c.mg c.mb := by
  cases Classical.em (lawT.P c.w c.s₀ c.s₁ c.mg c.mb) with
  | inl y => exact y
  | inr n => unfold KW at h; exact absurd h (@Classical.epsilon_spec_aux _ ⟨⟨w0, {}, {}, fun _ => none, fun _ => none⟩⟩ (fun c : Wx => ¬ lawT.P c.w c.s₀ c.s₁ c.mg c.mb) ⟨c, n⟩)
set_option maxRecDepth 100000 in
set_option maxHeartbeats 8000000 in
theorem law_at : lawT.P KW.w KW.s₀ KW.s₁ KW.mg KW.mb := by
  dsimp only [lawT]
  k_fill
  intro G Y0 fa o pm cd doc dV kV ho hd hcd hD hmg hg args vals as hpre hlay hrd hwl hlo
  have KX0 := kIn_of (show (kHook hx.heap_1 ads ads_eq).says KW.w _ from Y0)
  have KG := ghost_hxo KX0
  obtain ⟨hAs, eAs⟩ := hd_list KW.w
  have Y := says_km KW.w hAs eAs KX0
  have KX := km_in_of Y
  revert KX
  k_fill
  intro KX
  km_tabs Y
  have X := (Ground.X G).1
  have V := (Ground.X G).2
  refine Ground.open G ?_
  intro T B D TE TW
  try (refine guard_noD D (by decide +kernel) ?_; clear D)
  km_lay T hmg ho hd cd
  clear hmg
  wrow_args hpre hlay hrd hwl hlo
  all_goals (
    first | refine callC_kw (enter_call ?_) | refine enter_call ?_
    w_top on
    kn_posts
    w_call any ho hd hcd hD T F
    clear hd
    kn_ghosts F T
    k_drop
    skip)
  (try dsimp only)
  (with_reducible rename PySem.W.Frag.In _ _ => KI)
  revert KI
  k_fill
  intro KI
  refine wpAny_execs_cons ?_
  rename_i hc0 hc1 h1 tk1 oc hoc XC TT BB F1 N1 l30
  (with_reducible rename IntsAre _ _ => hI)
  o_head !(3, 0)
  have hpre1 := And.intro (lifted.at fun o e => F1.keep _ o e) (And.intro hI (lt100 hc0))
  have hcd0 : callerA.depth + 90 < 1000 := by decide
  have hcu0 : callerA.units + 4000 < 9900 := by decide
  o_head (names_spec KW.w _ _ _ _ _ _ _ _)
  rename_i vN h2 tk2 KN PN F2 N2
  obtain ⟨na, nvs, rfl, MN, hSN⟩ := PN
  have N3 := made_news F1 N2 MN
  clear N2 N1 F1 hpre1
  obtain ⟨NS, hSN', hNm, hNl1, hNl2, hAS⟩ := names_facts hSN
  clear hI hc0 hSN
  have hkN : id (StrsAre nvs NS) := hSN'
  clear hSN'
  (try dsimp only)
  o_head !(3, 0)
  rename_i h3 F3 N4
  obtain ⟨mm, F3'⟩ : ∃ mm : Str → Option Value, Fr (ghostOf KW.s₁.heap [(34, 30)]) KW.s₁.heap.objs.size h3 (fun y => if y = Str.ofString "names" then some (Value.ref na) else mm y) := ⟨_, F3⟩
  clear KN MN F3
  have F3 := F3'
  clear F3'
  refine For_turns F3 ?_
  o_head !(3, 0)
  have hnl : nvs.length = NS.length := (show StrsAre nvs NS from hkN).len_eq
  refine slice_from F3 N4 (N4.isList (.head _)) (by omega) (by omega) ?_
  intro a4 h4 F4 l4 N5
  (try dsimp only)
  o_head !(3, 0)
  refine slice_upto F4 N5 (N5.isList (.tail _ (.head _))) (by omega) (by omega) ?_
  intro a5 h5 F5 l5 N6
  clear F4 N4 N5
  (try dsimp only)
  o_head !(3, 0)
  rename_i a6 h6 F6 l6 N7
  clear F5 N6
  rw [show (1 : Int).toNat = 1 from rfl] at N7
  refine ktu_zip rfl F6 N7 (.tail _ (.tail _ (.tail _ (.head _)))) rfl rfl (.head _) rfl rfl ?_
  intro I9 hI9
  refine ItemsRest.sym (fun its m news => ∃ us ts : List Value, ∃ xs ys : List Str, its = zipItems us ts ∧ StrsAre us xs ∧ StrsAre ts ys ∧ id (∀ x ∈ xs, Nm x) ∧ id (∀ x ∈ ys, Nm x) ∧ news = _ ∧ ∃ o t : Option Value, m = fun y => if y = Str.ofString "two" then t else if y = Str.ofString "one" then o else if y = Str.ofString "names" then some (Value.ref na) else mm y) ?_ ?_ _ _ _ ⟨_, _, NS, NS.drop 1 ++ NS.take 1, rfl, hkN, (StrsAre.drop' hkN 1).append' (StrsAre.take' hkN 1), hNm, ?_, rfl, mm (Str.ofString "one"), mm (Str.ofString "two"), ?_⟩
  rotate_left 2
  · intro x hx
    rcases List.mem_append.mp hx with hx | hx
    · exact hNm x (List.mem_of_mem_drop hx)
    · exact hNm x (List.mem_of_mem_take hx)
  · funext y
    by_cases e1 : y = Str.ofString "two"
    · subst e1; rfl
    · rw [if_neg e1]
      by_cases e2 : y = Str.ofString "one"
      · subst e2; rfl
      · rw [if_neg e2]
  · rintro a r m news ⟨us, ts, xs, ys, e, hus, hts, hxn, hyn, rfl, o, t, rfl⟩ v h tk hv F
    cases us with
    | nil => cases e
    | cons u us =>
    cases ts with
    | nil => cases e
    | cons z ts =>
    obtain ⟨rfl, rfl⟩ := List.cons.inj e
    clear e
    cases hus with
    | cons x tx hus =>
    cases hts with
    | cons y ty hts =>
    obtain ⟨T, t', rfl, ht⟩ := hv
    have hku : id (StrsAre us _) := hus
    have hkt : id (StrsAre ts _) := hts
    clear hus hts
    refine AllObj.cons fun o1 c1 => AllObj.cons fun o2 c2 => AllObj.cons fun o3 c3 => AllObj.cons fun o4 c4 => AllObj.cons fun o5 c5 => AllObj.nil ?_
    intro N8
    clear N7 F6
    (try dsimp only)
    o_head !(3, 0)
    rename_i h7 F7 N9
    have hx : Nm x := hxn x (.head _)
    have hy : Nm y := hyn y (.head _)
    have hxy : Nm x ∧ Nm y := ⟨hx, hy⟩
    have hyx : Nm y ∧ Nm x := ⟨hy, hx⟩
    o_head (levc KW.w _ _ _ _ _ x y _ _ _)
    rename_i h8 tk8 K8 F8 N10 t8
    clear F7 N9
    (try dsimp only)
    o_head !(3, 0)
    rename_i h9 tk9 F9 N11
    (try clear F8)
    (try clear N10)
    (try clear K8)
    o_head (levc KW.w _ _ _ _ _ y x _ _ _)
    rename_i h10 tk10 K10 F10 N12 t10
    (try clear F9)
    (try clear N11)
    (try clear K10)
    (try dsimp only)
    o_head !(3, 0)
    rename_i h11 tk11 lA h12 F12 N12 l12
    o_head (costc KW.w _ _ _ _ _ x y _ _)
    rename_i h13 tk13 K13 F13 N13 t13
    (try clear F12)
    (try clear N12)
    (try clear K13)
    (try dsimp only)
    o_head !(3, 0)
    rename_i lB h14 F14 N14 l14 lC h15 F15 N15 i15 n15 s15 e15 e16 e17 l15
    clear F14 N14 i15 s15 e15 e16 e17
    rw [if_min, if_min, lev_min hx hy, lev_min hy hx, ← cost_sym hx hy] at N15
    refine kqd_ne (ds := [.int _, .int _]) (es := [.int _, .int _]) (xs := [_, _]) (ys := [_, _]) N15 (.tail _ (.tail _ (.head _))) rfl rfl (.cons (.int _ _) (.cons (.int _ _) .nil)) (fun _ h => h) (.head _) rfl rfl (.cons (.int _ _) (.cons (.int _ _) .nil)) (fun _ h => h) ?_ ?_ ?_ ?_
    · intro d hd; simp only [List.mem_cons, List.not_mem_nil, or_false] at hd; rcases hd with rfl | rfl <;> rfl
    · intro d hd; simp only [List.mem_cons, List.not_mem_nil, or_false] at hd; rcases hd with rfl | rfl <;> rfl
    · simp only [Around.deeper, cLine] at *; omega
    simp only [eq_self, decide_true, Bool.not_true]
    o_head !(3, 0)
    refine ⟨h15, _, _, _, rfl, F15, fun p hp => N15 p (.tail _ (.tail _ (.tail _ hp))), ?_, And.intro (.tail _ (.tail _ (.tail _ (.head _)))) (And.intro (.head _) trivial), us, ts, _, _, rfl, hku, hkt, (fun x hx => hxn x (.tail _ hx)), (fun x hx => hyn x (.tail _ hx)), rfl, some (.str x tx), some (.str y ty), ?_⟩
    · intro p hp q hq e
      have h1 := hI9 p hp
      simp only [List.mem_cons, List.not_mem_nil, or_false] at hq
      rcases hq with rfl | rfl | rfl | rfl | rfl
      · exact ktu_ne 4 h1 e
      · exact ktu_ne 2 h1 e
      · exact ktu_ne 3 h1 e
      · exact Nat.ne_of_lt h1 e
      · exact ktu_ne 1 h1 e
    · funext z
      by_cases e1 : z = Str.ofString "two"
      · subst e1; rfl
      · rw [if_neg e1, if_neg e1]
        by_cases e2 : z = Str.ofString "one"
        · subst e2; rfl
        · rw [if_neg e2, if_neg e2, if_neg e1, if_neg e2]
  · rintro m news ⟨us, ts, xs, ys, e, hus, hts, hxn, hyn, rfl, oo, tt, rfl⟩ h7 tk7 F7 N8
    clear F6 N7 e hus hts hxn hyn hI9
    (try dsimp only)
    o_head !(3, 0)
    rename_i z1 h8 F8 N9 l9
    clear F3
    have hn60 : NS.length < 60 := by omega
    have hp1 : h8.IsList na nvs.toArray ∧ StrsAre nvs NS ∧ NS.length < 60 ∧ (∀ x ∈ NS, Nm x) ∧ h8.get? z1 = some (listOf #[] 0) := ⟨N9.isList (.tail _ (.tail _ (.tail _ (.tail _ (.head _))))), hkN, hn60, hNm, N9.get (.head _)⟩
    o_head (groupc KW.w _ _ _ _ _ na z1 nvs NS 0)
    rename_i v10 h10 tk10 K10 P10 F10 N10
    obtain ⟨g1, ob1, rfl, M10, D10⟩ := P10
    have N11 := made_news F8 N10 M10
    clear N10 F8 N9 hp1 M10 K10
    (try dsimp only)
    o_head !(3, 0)
    have hR : id (StrsAre nvs.reverse NS.reverse) := strs_rev hkN
    have hRm : id (∀ x ∈ NS.reverse, Nm x) := fun x hx => hNm x (List.mem_reverse.mp hx)
    have hRl : NS.reverse.length < 60 := by rw [List.length_reverse]; exact hn60
    have hl11 : h10.IsList na nvs.toArray := N11.isList (List.mem_append_right _ (.tail _ (.tail _ (.tail _ (.tail _ (.head _))))))
    refine krv_lit F10 N11 hl11 (.int _ _) rfl ?_ (by with_unfolding_all rfl) (by intro _; with_unfolding_all rfl) (by rw [List.size_toArray, sizeLine_eq]; omega)
    intro r1 h12 F12 N12 l12
    clear F10 N11 hl11
    (try dsimp only)
    o_head !(3, 0)
    rename_i z2 h13 F13 N13 l13
    have hp2 : h13.IsList r1 nvs.reverse.toArray ∧ StrsAre nvs.reverse NS.reverse ∧ NS.reverse.length < 60 ∧ (∀ x ∈ NS.reverse, Nm x) ∧ h13.get? z2 = some (listOf #[] 0) := ⟨N13.isList (.tail _ (.head _)), hR, hRl, hRm, N13.get (.head _)⟩
    o_head (groupc KW.w _ _ _ _ _ r1 z2 nvs.reverse NS.reverse 0)
    rename_i v14 h14 tk14 K14 P14 F14 N14
    obtain ⟨g2, ob2, rfl, M14, D14⟩ := P14
    have N15 := made_news F13 N14 M14
    clear N14 F13 N13 hp2 M14 K14
    (try dsimp only)
    o_head !(3, 0)
    rename_i wl1 h16 lw1 h17 F17 N17
    have hl17 : h17.IsList na nvs.toArray := N17.isList (.tail _ (List.mem_append_right _ (.tail _ (.tail _ (List.mem_append_right _ (.tail _ (.tail _ (.tail _ (.tail _ (.head _))))))))))
    have hp3 : h17.IsList na nvs.toArray ∧ StrsAre nvs NS ∧ NS.length < 60 ∧ (∀ x ∈ NS, Nm x) := ⟨hl17, hkN, hn60, hNm⟩
    o_head (plainc KW.w _ _ _ _ _ na nvs NS)
    rename_i v18 h18 tk18 K18 P18 F18 N18
    obtain ⟨g3, ob3, rfl, M18, D18⟩ := P18
    have N19 := made_news F17 N18 M18
    have hc18 := made_off N17 (c := KW.s₁.heap.objs.size + 1) (o := oc) (.tail _ (List.mem_append_right _ (.tail _ (.tail _ (List.mem_append_right _ (.tail _ (.tail _ (.tail _ (.tail _ (.tail _ (.head _))))))))))) M18
    have h30_18 := made_off N17 (c := 30) (o := tabObj #[]) (.tail _ (List.mem_append_right _ (.tail _ (.tail _ (List.mem_append_right _ (.tail _ (.tail _ (.tail _ (.tail _ (.tail _ (.tail _ (.head _)))))))))))) M18
    have hl19 : h18.IsList na nvs.toArray := hl17.at fun o e => K18 _ o e
    clear N18 F17 N17 hp3 M18 K18 hl17
    (try dsimp only)
    o_head !(3, 0)
    refine krv_lit F18 N19 hl19 (.int _ _) rfl ?_ (by with_unfolding_all rfl) (by intro _; with_unfolding_all rfl) (by rw [List.size_toArray, sizeLine_eq]; omega)
    intro r2 h20 F20 N20 l20
    clear F18 N19 hl19
    (try dsimp only)
    o_head !(3, 0)
    have hp4 : h20.IsList r2 nvs.reverse.toArray ∧ StrsAre nvs.reverse NS.reverse ∧ NS.reverse.length < 60 ∧ (∀ x ∈ NS.reverse, Nm x) := ⟨N20.isList (.head _), hR, hRl, hRm⟩
    o_head (plainc KW.w _ _ _ _ _ r2 nvs.reverse NS.reverse)
    rename_i v21 h21 tk21 K21 P21 F21 N21
    obtain ⟨g4, ob4, rfl, M21, D21⟩ := P21
    have N22 := made_news F20 N21 M21
    have hc21 := made_off N20 (c := KW.s₁.heap.objs.size + 1) (o := oc) (.tail _ (List.mem_append_right _ (.tail _ (List.mem_append_right _ (.tail _ (.tail _ (List.mem_append_right _ (.tail _ (.tail _ (.tail _ (.tail _ (.tail _ (.head _))))))))))))) M21
    have h30_21 := made_off N20 (c := 30) (o := tabObj #[]) (.tail _ (List.mem_append_right _ (.tail _ (List.mem_append_right _ (.tail _ (.tail _ (List.mem_append_right _ (.tail _ (.tail _ (.tail _ (.tail _ (.tail _ (.tail _ (.head _)))))))))))))) M21
    clear N21 F20 N20 hp4 M21 K21
    (try dsimp only)
    o_head !(3, 0)
    rename_i pl h23 lp1 h24 F24 N24
    have hG1 : id (∀ g ∈ groupsOf NS, ∀ x ∈ g, Nm x) := groupsOf_nm hNm
    have hG2 : id (∀ g ∈ groupsOf NS.reverse, ∀ x ∈ g, Nm x) := groupsOf_nm hRm
    have hok : ∀ d ∈ [Dat.list (gdat (groupsOf NS)), Dat.list (gdat (groupsOf NS.reverse))], kqdOk 8 d = true := by
      intro d hd
      simp only [List.mem_cons, List.not_mem_nil, or_false] at hd
      rcases hd with rfl | rfl
      · exact gdat_ok hG1
      · exact gdat_ok hG2
    refine kqd_ne (ds := [Dat.list (gdat (groupsOf NS)), Dat.list (gdat (groupsOf NS.reverse))]) (es := [Dat.list (gdat (groupsOf NS)), Dat.list (gdat (groupsOf NS.reverse))]) (xs := [_, _]) (ys := [_, _]) N24 (.tail _ (List.mem_append_right _ (.tail _ (List.mem_append_right _ (.head _))))) rfl rfl (.cons (D10.mono ?_) (.cons (D14.mono ?_) .nil)) (fun _ h => h) (.head _) rfl rfl (.cons (D18.mono ?_) (.cons (D21.mono ?_) .nil)) (fun _ h => h) hok hok ?_ ?_
    · intro p hp
      refine .tail _ (List.mem_append_right _ (.tail _ (List.mem_append_right _ (.tail _ (List.mem_append_right _ (.tail _ (.tail _ ?_)))))))
      rcases List.mem_append.mp hp with hp | hp
      · exact List.mem_append_left _ hp
      · exact List.mem_append_right _ (List.mem_singleton.mp hp ▸ .head _)
    · intro p hp
      refine .tail _ (List.mem_append_right _ (.tail _ (List.mem_append_right _ (.tail _ ?_))))
      rcases List.mem_append.mp hp with hp | hp
      · exact List.mem_append_left _ hp
      · exact List.mem_append_right _ (List.mem_singleton.mp hp ▸ .head _)
    · intro p hp; exact .tail _ (List.mem_append_right _ (.tail _ (List.mem_append_left _ hp)))
    · intro p hp; exact .tail _ (List.mem_append_left _ hp)
    · simp only [Around.deeper, cLine] at *; omega
    simp only [eq_self, decide_true, Bool.not_true]
    clear hok
    o_head !(3, 0)
    have N25 : News (ghostOf KW.s₁.heap [(34, 30)]) KW.s₁.heap.objs.size h24 ((pl, listOf #[.ref g3, .ref g4] 0) :: (na, LCg.lst nvs) :: (KW.s₁.heap.objs.size + 1, oc) :: (30, tabObj #[]) :: (ob3 ++ ob4)) := by
      intro p hp
      refine N24 p ?_
      rcases List.mem_cons.mp hp with rfl | hp
      · exact .head _
      refine .tail _ ?_
      rcases List.mem_cons.mp hp with rfl | hp
      · exact List.mem_append_right _ (.tail _ (List.mem_append_right _ (.tail _ (List.mem_append_right _ (.tail _ (.tail _ (List.mem_append_right _ (.tail _ (.tail _ (.tail _ (.tail _ (.head _))))))))))))
      rcases List.mem_cons.mp hp with rfl | hp
      · exact List.mem_append_right _ (.tail _ (List.mem_append_right _ (.tail _ (List.mem_append_right _ (.tail _ (.tail _ (List.mem_append_right _ (.tail _ (.tail _ (.tail _ (.tail _ (.tail _ (.head _)))))))))))))
      rcases List.mem_cons.mp hp with rfl | hp
      · exact List.mem_append_right _ (.tail _ (List.mem_append_right _ (.tail _ (List.mem_append_right _ (.tail _ (.tail _ (List.mem_append_right _ (.tail _ (.tail _ (.tail _ (.tail _ (.tail _ (.tail _ (.head _))))))))))))))
      rcases List.mem_append.mp hp with hp | hp
      · exact List.mem_append_right _ (.tail _ (List.mem_append_left _ hp))
      · exact List.mem_append_left _ hp
    clear N24 D10 D14 l4 l5 l6 l9 l12 l20 lp1 lw1 l13
    refine For_turns F24 ?_
    o_head !(3, 0)
    obtain ⟨mo, F25, hmo⟩ : ∃ mo : Str → Option Value, Fr (ghostOf KW.s₁.heap [(34, 30)]) KW.s₁.heap.objs.size h24 mo ∧ (mo (Str.ofString "plain") = some (.ref pl) ∧ mo (Str.ofString "names") = some (.ref na)) := ⟨_, F24, rfl, rfl⟩
    clear F24
    refine iter_listTurns rfl F25 N25 (.head _) rfl rfl ?_
    intro I26 hI26
    refine ItemsRest.sym (fun its m news => ∃ gs : List (Addr × List Str), its = gs.map (fun g => Itm.val (.ref g.1)) ∧ (∀ g ∈ gs, DatIn (ob3 ++ ob4) (.ref g.1) (.list (gdat (groupsOf g.2))) ∧ 2 ≤ (groupsOf g.2).length ∧ 6 ≤ g.2.length ∧ g.2.length ≤ 9 ∧ id (∀ x ∈ g.2, Nm x)) ∧ (∃ oc' v' tab ns, oc'.data = .cell v' ∧ (tab = tabObj #[] ∨ TIn ((30, tab) :: ns) tab) ∧ (∀ p ∈ ns, p.1 ≠ 30 ∧ p.1 ≠ KW.s₁.heap.objs.size + 1 ∧ p.1 ≠ I26) ∧ (∀ p ∈ ob3 ++ ob4, p ∈ ns) ∧ news = (pl, listOf #[.ref g3, .ref g4] 0) :: (na, LCg.lst nvs) :: (KW.s₁.heap.objs.size + 1, oc') :: (30, tab) :: ns) ∧ ∃ o : Option Value, m = fun y => if y = Str.ofString "order" then o else mo y) ?_ ?_ _ _ _ ⟨[(g3, NS), (g4, NS.reverse)], rfl, ?_, ⟨oc, _, tabObj #[], ob3 ++ ob4, hoc, .inl rfl, ?_, fun _ h => h, rfl⟩, mo (Str.ofString "order"), ?_⟩
    rotate_left 2
    · intro g hg
      simp only [List.mem_cons, List.not_mem_nil, or_false] at hg
      rcases hg with rfl | rfl
      · exact ⟨D18.mono fun p hp => List.mem_append_left _ hp, two_groups hNm hAS.1 hAS.2, hNl1, hNl2, hNm⟩
      · exact ⟨D21.mono fun p hp => List.mem_append_right _ hp, two_groups hRm (List.mem_reverse.mpr hAS.1) (List.mem_reverse.mpr hAS.2), by rw [List.length_reverse]; exact hNl1, by rw [List.length_reverse]; exact hNl2, hRm⟩
    · intro p hp
      rcases List.mem_append.mp hp with hp | hp
      · exact ⟨h30_18 p hp, hc18 p hp, Nat.ne_of_lt (hI26 p (.tail _ (.tail _ (.tail _ (.tail _ (List.mem_append_left _ hp))))))⟩
      · exact ⟨h30_21 p hp, hc21 p hp, Nat.ne_of_lt (hI26 p (.tail _ (.tail _ (.tail _ (.tail _ (List.mem_append_right _ hp))))))⟩
    · funext y
      by_cases e : y = Str.ofString "order"
      · subst e; rfl
      · rw [if_neg e]
    · rintro a r m news ⟨gs, e, hgs, ⟨oc', cv', tab, ns, hoc', hTab, hns, hob, rfl⟩, oo2, rfl⟩ v h tk hv F
      cases gs with
      | nil => cases e
      | cons g gs =>
      obtain ⟨rfl, rfl⟩ := List.cons.inj e
      clear e
      obtain ⟨Dg, hg2, hgl1, hgl2, hgm⟩ := hgs g (.head _)
      obtain rfl : v = .ref g.1 := hv
      refine AllObj.cons fun o1 c1 => AllObj.nil ?_
      intro N26
      clear N25 F25
      (try dsimp only)
      have N27 : News (ghostOf KW.s₁.heap [(34, 30)]) KW.s₁.heap.objs.size h ((pl, listOf #[.ref g3, .ref g4] 0) :: (KW.s₁.heap.objs.size + 1, oc') :: (I26, o1) :: (na, LCg.lst nvs) :: (30, tab) :: ns) := by
        intro p hp
        refine N26 p ?_
        simp only [List.cons_append, List.nil_append, List.mem_cons] at hp ⊢
        rcases hp with h | h | h | h | h | h <;> simp [h]
      have hcm : (KW.s₁.heap.objs.size + 1, oc') ∈ (pl, listOf #[.ref g3, .ref g4] 0) :: (KW.s₁.heap.objs.size + 1, oc') :: (I26, o1) :: (na, LCg.lst nvs) :: (30, tab) :: ns := .tail _ (.head _)
      clear N26
      have hoff1 : pl ≠ KW.s₁.heap.objs.size + 1 := cell_off N27 hcm hoc' (q := (pl, listOf #[.ref g3, .ref g4] 0)) (.head _) (by intro x hx; cases hx)
      have hoff2 : ∀ p ∈ (I26, o1) :: (na, LCg.lst nvs) :: (30, tab) :: ns, p.1 ≠ KW.s₁.heap.objs.size + 1 := by
        intro p hp
        rcases List.mem_cons.mp hp with rfl | hp
        · exact Nat.ne_of_gt (hI26 (KW.s₁.heap.objs.size + 1, oc) (.tail _ (.tail _ (.head _))))
        rcases List.mem_cons.mp hp with rfl | hp
        · exact cell_off N27 hcm hoc' (q := (na, LCg.lst nvs)) (.tail _ (.tail _ (.tail _ (.head _)))) (by intro x hx; cases hx)
        rcases List.mem_cons.mp hp with rfl | hp
        · refine cell_off N27 hcm hoc' (q := (30, tab)) (.tail _ (.tail _ (.tail _ (.tail _ (.head _))))) ?_
          intro x hx
          rcases hTab with rfl | hTab
          · cases hx
          · obtain ⟨TT, e, _⟩ := hTab
            rw [e] at hx; cases hx
        · exact (hns p hp).2.1
      refine wpAny_assign_Name ?_
      refine cell_store2 (v₀ := cv') (m := fun y => if y = Str.ofString "order" then oo2 else mo y) (p₁ := (pl, listOf #[.ref g3, .ref g4] 0)) (c := KW.s₁.heap.objs.size + 1) (o := oc') (rest := (I26, o1) :: (na, LCg.lst nvs) :: (30, tab) :: ns) (h₀ := ghostOf KW.s₁.heap [(34, 30)]) ?zF ?zN ?zd ?z1 ?z2 ?_ ?za ?zb ?zc
      case zF => exact F
      case zN => exact N27
      case zd => exact hoc'
      case z1 => exact hoff1
      case z2 => exact hoff2
      case za => exact rfl
      case zb => exact rfl
      case zc => exact rfl
      intro h28 oc2 F28 N28 hoc2
      clear F N27 hoc' hcm hoff1 hoff2
      (try dsimp only)
      obtain ⟨gvs, gn, hgo, DA⟩ : ∃ gvs gn, (g.1, listOf (List.toArray gvs) gn) ∈ ob3 ++ ob4 ∧ DatAll (ob3 ++ ob4) gvs (gdat (groupsOf g.2)) := by
        cases Dg with
        | list hm hd => exact ⟨_, _, hm, hd⟩
      obtain ⟨ls, hls⟩ : ∃ ls, ls = (groupsOf g.2).map List.length := ⟨_, rfl⟩
      have hgll : gvs.length = ls.length := by rw [hls, List.length_map, DatAll.len DA, gdat, List.length_map]
      obtain ⟨hl1, hl2, hl3⟩ := groups_lens g.2
      rw [← hls] at hl1 hl2
      have hln : (groupsOf g.2).length = ls.length := by rw [hls, List.length_map]
      rw [hln] at hg2 hl3
      generalize hga : g.1 = ga at hgo hoc2
      o_head !(3, 0)
      refine LCg.ListComp_U (F₀ := F28) (by with_unfolding_all rfl) (by decide) (by rfl) (by decide) (by rfl) ?_
      o_head !(3, 0)
      refine PyProof.Rows.len_list (N28.isList (List.mem_cons_of_mem _ (List.mem_cons_of_mem _ (List.mem_cons_of_mem _ (List.mem_cons_of_mem _ (List.mem_cons_of_mem _ (hob _ hgo))))))) (by rw [List.size_toArray]; omega) ?_
      o_head !(3, 0)
      rename_i h29 tk29 t29 u29 v29 hr29 F29 N29 k29
      have hszg : gvs.toArray.size = ls.length := by rw [List.size_toArray]; exact hgll
      rw [hszg] at hr29
      have h10 : ls.length ≤ 9 := by omega
      refine LCg.CompSrc.range (n := ls.length) rfl (by k_asm) (by k_asm) hr29 (small_one (by omega) (by omega) (by omega) (by omega)) (by rw [rangeSize_nat]; omega) (by rw [sizeLine_eq]; omega) ?_
      intro gg
      (try dsimp only)
      have hCn : ∀ i, i < ls.length → ∃ b us n, gvs[i]? = some (.ref b) ∧ (b, listOf (List.toArray us) n) ∈ ob3 ++ ob4 ∧ us.length = ls.getD i 0 := by
        intro i hi
        obtain ⟨q, hq⟩ : ∃ q, (groupsOf g.2)[i]? = some q := ⟨_, List.getElem?_eq_getElem (by omega)⟩
        obtain ⟨b, us, n, q1, q2, q3⟩ := gd_at DA hq
        refine ⟨b, us, n, q1, q2, ?_⟩
        rw [q3.len_eq, hls, List.getD_eq_getElem?_getD, List.getElem?_map, hq]; rfl
      obtain ⟨pp, hp1, hp2, hps, hpi⟩ := sort_same hl1 (by omega) (by omega)
      have hle9 : ∀ i, i < ls.length → ls.getD i 0 ≤ 9 := by
        intro i hi
        have := mem_le_sum (x := ls.getD i 0) (ls := ls) (by rw [List.getD_eq_getElem?_getD, List.getElem?_eq_getElem hi]; exact List.getElem_mem hi)
        omega
      refine cr_inv (fun i ws nw => ∃ tups : List (Addr × Obj), nw = (pl, listOf #[.ref g3, .ref g4] 0) :: (KW.s₁.heap.objs.size + 1, oc2) :: (I26, o1) :: (na, LCg.lst nvs) :: (30, tab) :: (ns ++ tups) ∧ ws.length = i ∧ (∀ p ∈ tups, p.1 ≠ 30) ∧ ∀ j, j < i → ∃ a t u e, ws[j]? = some (.ref a) ∧ (a, seqObj "tuple" #[.int (-((ls.getD j 0 : Nat) : Int)) t, .int (j : Nat) u] e) ∈ tups) ⟨[], by rw [List.append_nil], rfl, (fun p hp => nomatch hp), fun j hj => absurd hj (Nat.not_lt_zero _)⟩ ?_ ?_
      · intro i ws nw v I2 oI2 C2 oC2 D2 m₂ h2 tk2 E2 hi hJ hv hC2 hm F2 N2 off ne
        obtain ⟨t2, rfl⟩ := hv
        obtain ⟨tups, rfl, hwl, ht30, htup⟩ := hJ
        obtain ⟨b, us, n, hb1, hb2, hb3⟩ := hCn i hi
        have offK := off
        clear off ne N29 F29 k29 hr29
        rw [Int.zero_add] at hm
        have hbm := List.mem_append_left tups (hob _ hb2)
        have hgm := List.mem_append_left tups (hob _ hgo)
        have hlg : h2.IsList ga gvs.toArray := N2.isList (.tail _ (.tail _ (.tail _ (.tail _ (.tail _ (.tail _ (.tail _ (.tail _ hgm))))))))
        have hlb : h2.IsList b us.toArray := N2.isList (.tail _ (.tail _ (.tail _ (.tail _ (.tail _ (.tail _ (.tail _ (.tail _ hbm))))))))
        o_head !(4, 0)
        refine item_any (vs := gvs) (l := ga) (j := i) (x := .ref b) hlg hb1 rfl (by omega) ?_
        o_head !(4, 0)
        refine PyProof.Rows.len_list hlb (by rw [List.size_toArray]; have := hle9 i hi; omega) ?_
        o_head !(4, 0)
        rename_i D3 h3 F3 N3 l3
        obtain ⟨tt, N4⟩ : ∃ tt, News (ghostOf KW.s₁.heap [(34, 30)]) KW.s₁.heap.objs.size h3 ((D3, seqObj "tuple" #[.int (-((us.toArray.size : Nat) : Int)) tt, .int (i : Nat) t2] 0) :: (I2, oI2) :: (C2, oC2) :: (D2, LCg.lst ws) :: (pl, listOf #[.ref g3, .ref g4] 0) :: (KW.s₁.heap.objs.size + 1, oc2) :: (I26, o1) :: (na, LCg.lst nvs) :: (30, tab) :: (ns ++ tups)) := ⟨_, N3⟩
        have hszu : us.toArray.size = ls.getD i 0 := by rw [List.size_toArray]; exact hb3
        rw [hszu] at N4
        refine LCg.CompEnd.intro F3 N4 ((pl, listOf #[.ref g3, .ref g4] 0) :: (KW.s₁.heap.objs.size + 1, oc2) :: (I26, o1) :: (na, LCg.lst nvs) :: (30, tab) :: (ns ++ (tups ++ [(D3, seqObj "tuple" #[.int (-((ls.getD i 0 : Nat) : Int)) tt, .int (i : Nat) t2] 0)]))) ?_ ?_ trivial ⟨tups ++ [(D3, seqObj "tuple" #[.int (-((ls.getD i 0 : Nat) : Int)) tt, .int (i : Nat) t2] 0)], rfl, ?_, ?_, ?_⟩
        · intro p hp
          simp only [List.mem_cons, List.mem_append, List.not_mem_nil, or_false] at hp ⊢
          rcases hp with h | h | h | h | h | h | h | h | h | h | h <;> simp [h]
        · refine off3_of fun p hp => ?_
          have hq : p = (D3, seqObj "tuple" #[.int (-((ls.getD i 0 : Nat) : Int)) tt, .int (i : Nat) t2] 0) ∨ p ∈ (pl, listOf #[.ref g3, .ref g4] 0) :: (KW.s₁.heap.objs.size + 1, oc2) :: (I26, o1) :: (na, LCg.lst nvs) :: (30, tab) :: (ns ++ tups) := by
            simp only [List.mem_cons, List.mem_append, List.not_mem_nil, or_false] at hp ⊢
            rcases hp with h | h | h | h | h | h | h | h <;> simp [h]
          rcases hq with rfl | hq
          · exact ⟨Nat.ne_of_gt l3.1, Nat.ne_of_gt l3.2.1, Nat.ne_of_gt l3.2.2.1⟩
          · exact offK.mem p hq
        · rw [List.length_append, hwl]; rfl
        · intro p hp
          rcases List.mem_append.mp hp with hp | hp
          · exact ht30 p hp
          · rw [List.mem_singleton.mp hp]
            exact Nat.ne_of_gt l3.2.2.2.2.2.2.2.1
        · intro j hj
          by_cases cj : j < i
          · obtain ⟨a, t, u, e, q1, q2⟩ := htup j cj
            exact ⟨a, t, u, e, by rw [List.getElem?_append_left (by omega)]; exact q1, List.mem_append_left _ q2⟩
          · obtain rfl : j = i := by omega
            exact ⟨D3, tt, t2, 0, by rw [← hwl]; simp, List.mem_append_right _ (.head _)⟩
      · rintro ws nw ⟨tups, rfl, hwl, ht30, htup⟩
        intro D2 h2 tk2 F2 N2 off2
        (try dsimp only)
        clear N29 F29 k29 hr29
        o_head !(4, 0)
        have hTA : TupsAre ((D2, LCg.lst ws) :: (pl, listOf #[.ref g3, .ref g4] 0) :: (KW.s₁.heap.objs.size + 1, oc2) :: (I26, o1) :: (na, LCg.lst nvs) :: (30, tab) :: (ns ++ tups)) ws ls := by
          refine ⟨hwl, fun j hj => ?_⟩
          obtain ⟨a, t, u, e, q1, q2⟩ := htup j hj
          exact ⟨a, t, u, e, q1, .tail _ (.tail _ (.tail _ (.tail _ (.tail _ (.tail _ (List.mem_append_right _ q2))))))⟩
        refine sort_tups F2 N2 (N2.isList (.head _)) hTA hg2 (by omega) hp1 ?_
        intro D5 h5 tk5 c5 F5 lt5 N5
        o_head !(4, 0)
        rename_i h6 F6 N6
        have z30 := N6 (30, tab) (by k_mem)
        have zC := (N6 (KW.s₁.heap.objs.size + 1, oc2) (by k_mem)).1
        have zI := (N6 (I26, o1) (by k_mem)).1
        have hn30 : ∀ p ∈ ns ++ ((D5, W.listOf (List.toArray (pp.toList.map fun i => ws.getD i .none)) c5) :: (pl, W.listOf #[.ref g3, .ref g4] 0) :: (KW.s₁.heap.objs.size + 1, oc2) :: (I26, o1) :: (na, LCg.lst nvs) :: tups), p.1 ≠ 30 := by
          intro p hp
          rcases List.mem_append.mp hp with hp | hp
          · exact (hns p hp).1
          rcases List.mem_cons.mp hp with rfl | hp
          · exact Nat.ne_of_gt (lt5 (30, tab) (by k_mem))
          rcases List.mem_cons.mp hp with rfl | hp
          · exact tab_off z30.1 hTab (N6 (pl, W.listOf #[.ref g3, .ref g4] 0) (by k_mem)).1 (.inl rfl)
          rcases List.mem_cons.mp hp with rfl | hp
          · exact tab_off z30.1 hTab (N6 (KW.s₁.heap.objs.size + 1, oc2) (by k_mem)).1 (.inr ⟨_, hoc2⟩)
          rcases List.mem_cons.mp hp with rfl | hp
          · exact Nat.ne_of_gt (hI26 (30, tabObj #[]) (by k_mem))
          rcases List.mem_cons.mp hp with rfl | hp
          · exact tab_off z30.1 hTab (N6 (na, LCg.lst nvs) (by k_mem)).1 (.inl rfl)
          · exact ht30 p hp
        have N7 : News (ghostOf KW.s₁.heap [(34, 30)]) KW.s₁.heap.objs.size h6 ((30, tab) :: (ns ++ ((D5, W.listOf (List.toArray (pp.toList.map fun i => ws.getD i .none)) c5) :: (pl, W.listOf #[.ref g3, .ref g4] 0) :: (KW.s₁.heap.objs.size + 1, oc2) :: (I26, o1) :: (na, LCg.lst nvs) :: tups))) := by
          intro p hp
          refine N6 p ?_
          simp only [List.mem_cons, List.mem_append] at hp ⊢
          rcases hp with h | h | h | h | h | h | h | h <;> simp [h]
        k_dflt (refine' ck_call ?B ?F ?X ?T ?hk ?hd ?hu ?KX ?N hn30 hTab ?_; (case B => k_asm); (case F => k_asm); (case X => k_asm); (case T => k_asm); (case N => exact N7); (case hk => first | exact rfl | assumption); (case hd => decide); (case hu => decide); (case KX => exact KG); k_whole)
        clear N6 N7 hn30 N5 F5 N2 F2 off2 z30
        intro x60 x1 o8 tab8 ns8 h8 tk8 F8 N8 hn8 hT8 hK8 ho8
        (try dsimp only)
        o_head !(4, 0)
        have hsub8 : ∀ p ∈ (30, tab8) :: (ns8 ++ ns), p ∈ (30, tab8) :: (x1, o8) :: (ns8 ++ (ns ++ ((D5, W.listOf (List.toArray (pp.toList.map fun i => ws.getD i .none)) c5) :: (pl, W.listOf #[.ref g3, .ref g4] 0) :: (KW.s₁.heap.objs.size + 1, oc2) :: (I26, o1) :: (na, LCg.lst nvs) :: tups))) := by
          intro p hp
          rcases List.mem_cons.mp hp with rfl | hp
          · exact .head _
          rcases List.mem_append.mp hp with hp | hp
          · exact .tail _ (.tail _ (List.mem_append_left _ hp))
          · exact .tail _ (.tail _ (List.mem_append_right _ (List.mem_append_left _ hp)))
        have hnsub : ∀ p ∈ ns, p ∈ (30, tab8) :: (x1, o8) :: (ns8 ++ (ns ++ ((D5, W.listOf (List.toArray (pp.toList.map fun i => ws.getD i .none)) c5) :: (pl, W.listOf #[.ref g3, .ref g4] 0) :: (KW.s₁.heap.objs.size + 1, oc2) :: (I26, o1) :: (na, LCg.lst nvs) :: tups))) := fun p hp => .tail _ (.tail _ (List.mem_append_right _ (List.mem_append_left _ hp)))
        refine wp_of_eq (t' := call (.builtin "sorted") [.ref ga] [(Str.ofString "key", .ref x60)]) (by with_unfolding_all rfl) ?_
        k_dflt (refine' sort_keys ?B ?X ?T ?hk ?hd ?hu ?KX F8 N8 (N8.isList (hnsub _ (hob _ hgo))) ⟨hgll, ?_⟩ hK8 hsub8 (by k_mem) ho8 hg2 (by omega) ?_ hp2 ?_; (case B => k_asm); (case X => k_asm); (case T => k_asm); (case hk => first | exact rfl | assumption); (case hd => decide); (case hu => decide); (case KX => exact KG); k_whole)
        · intro i hi
          obtain ⟨b, us, n, q1, q2, q3⟩ := hCn i hi
          exact ⟨b, _, n, q1, hnsub _ (hob _ q2), by rw [List.size_toArray]; exact q3⟩
        · intro i hi
          have := hle9 i hi
          omega
        intro D9 h9 tk9 c9 F9 lt9 N9
        clear F8 N8
        (try dsimp only)
        have N10 : News (ghostOf KW.s₁.heap [(34, 30)]) KW.s₁.heap.objs.size h9 ((D9, W.listOf (List.toArray (pp.toList.map fun i => gvs.getD i .none)) c9) :: (D5, W.listOf (List.toArray (pp.toList.map fun i => ws.getD i .none)) c5) :: (pl, W.listOf #[.ref g3, .ref g4] 0) :: (KW.s₁.heap.objs.size + 1, oc2) :: (I26, o1) :: (na, LCg.lst nvs) :: (30, tab8) :: (ns8 ++ (ns ++ tups))) := by
          intro p hp
          refine N9 p ?_
          simp only [List.mem_cons, List.mem_append] at hp ⊢
          rcases hp with h | h | h | h | h | h | h | h | h | h <;> simp [h]
        clear N9
        refine LCp.ListComp_P F9 (by with_unfolding_all rfl) (by decide) (by rfl) (by decide) (by rfl) (by rfl) (by decide) ?_
        o_head !(4, 0)
        refine LCp.SrcLP.ledger (k := c5) rfl F9 N10 (.tail _ (.head _)) (by rw [List.size_toArray, List.length_map, Array.length_toList, hps, sizeLine_eq]; omega) ?_
        intro g9
        (try dsimp only)
        have hsz9 : (List.toArray (pp.toList.map fun i => ws.getD i Value.none)).size = ls.length := by rw [List.size_toArray, List.length_map, Array.length_toList]; exact hps
        rw [hsz9]
        refine cr_invP (fun i ys nw => nw = (D9, W.listOf (List.toArray (pp.toList.map fun i => gvs.getD i .none)) c9) :: (D5, W.listOf (List.toArray (pp.toList.map fun i => ws.getD i .none)) c5) :: (pl, W.listOf #[.ref g3, .ref g4] 0) :: (KW.s₁.heap.objs.size + 1, oc2) :: (I26, o1) :: (na, LCg.lst nvs) :: (30, tab8) :: (ns8 ++ (ns ++ tups)) ∧ ys = (pp.toList.take i).map fun k => gvs.getD k .none) ⟨rfl, rfl⟩ ?_ ?_
        · rintro i ys nw v hi ⟨rfl, rfl⟩ hv
          obtain ⟨j, hpj, hvj⟩ : ∃ j, pp.toList[i]? = some j ∧ ws.getD j Value.none = v := by
            rw [List.getElem?_toArray, List.getElem?_map] at hv
            cases hq : pp.toList[i]? with
            | none => rw [hq] at hv; cases hv
            | some j => rw [hq] at hv; exact ⟨j, rfl, Option.some.inj hv⟩
          have hjl : j < ls.length := hpi j (List.mem_of_getElem? hpj)
          obtain ⟨a, t, u, e, q1, q2⟩ := htup j hjl
          obtain ⟨b, us, n, hb1, hb2, hb3⟩ := hCn j hjl
          obtain rfl : v = .ref a := by rw [← hvj, List.getD_eq_getElem?_getD, q1]; rfl
          refine ⟨a, _, _, _, e, rfl, .tail _ (.tail _ (.tail _ (.tail _ (.tail _ (.tail _ (.tail _ (List.mem_append_right _ (List.mem_append_right _ q2)))))))), rfl, rfl, ?_⟩
          intro I3 oI3 C3 oC3 D3 m3 h3 tk3 E3 hC3 hm1 hm2 F3 N3 off3 ne3
          clear N10 F9
          have hlg : h3.IsList ga gvs.toArray := N3.isList (.tail _ (.tail _ (.tail _ (.tail _ (.tail _ (.tail _ (.tail _ (.tail _ (.tail _ (.tail _ (List.mem_append_right _ (List.mem_append_left _ (hob _ hgo)))))))))))))
          o_head !(4, 0)
          refine item_any (vs := gvs) (l := ga) (j := j) (x := .ref b) hlg hb1 rfl (by omega) ?_
          o_head !(4, 0)
          refine LCg.CompEnd.intro F3 N3 _ (fun _ h => h) off3 (.inr ⟨_, .tail _ (.head _), rfl, _, rfl⟩) ⟨rfl, ?_⟩
          rw [List.take_succ, hpj, List.map_append, Option.toList_some, List.map_singleton, List.getD_eq_getElem?_getD, hb1]
          rfl
        · rintro ys nw ⟨rfl, rfl⟩
          intro D10 h10 tk10 F10 N11 off10
          clear N10 F9
          (try dsimp only)
          o_head !(4, 0)
          have htk : pp.toList.take ls.length = pp.toList := List.take_of_length_le (by rw [Array.length_toList, hps]; exact Nat.le_refl _)
          rw [htk] at N11
          have hgl : gvs.length = (gdat (groupsOf g.2)).length := DatAll.len DA
          have DP := dat_perm DA (is := pp.toList) (fun i hi => by rw [hgll]; exact hpi i hi)
          have hokP := gd_okP (G := groupsOf g.2) (groupsOf_nm hgm) pp.toList
          have hobs : ∀ p ∈ ob3 ++ ob4, p ∈ (D10, LCg.lst (pp.toList.map fun k => gvs.getD k Value.none)) :: (D9, W.listOf (List.toArray (pp.toList.map fun i => gvs.getD i .none)) c9) :: (D5, W.listOf (List.toArray (pp.toList.map fun i => ws.getD i .none)) c5) :: (pl, W.listOf #[.ref g3, .ref g4] 0) :: (KW.s₁.heap.objs.size + 1, oc2) :: (I26, o1) :: (na, LCg.lst nvs) :: (30, tab8) :: (ns8 ++ (ns ++ tups)) := fun p hp => .tail _ (.tail _ (.tail _ (.tail _ (.tail _ (.tail _ (.tail _ (.tail _ (List.mem_append_right _ (List.mem_append_left _ (hob p hp))))))))))
          refine kqd_ne N11 (.tail _ (.head _)) rfl rfl DP hobs (.head _) rfl rfl DP hobs hokP hokP ?_ ?_
          · simp only [Around.deeper, cLine] at *; omega
          simp only [eq_self, decide_true, Bool.not_true]
          o_head !(4, 0)
          refine ⟨h10, _, _, (pl, listOf #[.ref g3, .ref g4] 0) :: (na, LCg.lst nvs) :: (KW.s₁.heap.objs.size + 1, oc2) :: (30, tab8) :: (ns8 ++ ns), rfl, F10, fun p hp => N11 p ?_, ?_, And.intro (.head _) trivial, gs, rfl, fun g hg => hgs g (.tail _ hg), ⟨oc2, _, tab8, ns8 ++ ns, hoc2, .inr hT8, ?_, fun p hp => List.mem_append_right _ (hob p hp), rfl⟩, some (.ref D5), ?_⟩
          · rcases List.mem_cons.mp hp with rfl | hp
            · exact .tail _ (.tail _ (.tail _ (.tail _ (.tail _ (.head _)))))
            rcases List.mem_cons.mp hp with rfl | hp
            · exact .tail _ (.tail _ (.tail _ (.head _)))
            rcases List.mem_cons.mp hp with rfl | hp
            · exact .tail _ (.tail _ (.tail _ (.tail _ (.tail _ (.tail _ (.head _))))))
            rcases List.mem_cons.mp hp with rfl | hp
            · exact .tail _ (.tail _ (.tail _ (.tail _ (.head _))))
            rcases List.mem_cons.mp hp with rfl | hp
            · exact .tail _ (.tail _ (.tail _ (.tail _ (.tail _ (.tail _ (.tail _ (.head _)))))))
            rcases List.mem_append.mp hp with hp | hp
            · exact .tail _ (.tail _ (.tail _ (.tail _ (.tail _ (.tail _ (.tail _ (.tail _ (List.mem_append_left _ hp))))))))
            · exact .tail _ (.tail _ (.tail _ (.tail _ (.tail _ (.tail _ (.tail _ (.tail _ (List.mem_append_right _ (List.mem_append_left _ hp)))))))))
          · intro p hp q hq e
            obtain rfl : q = (I26, o1) := List.mem_singleton.mp hq
            have e' : p.1 = I26 := e
            rcases List.mem_cons.mp hp with rfl | hp
            · exact Nat.ne_of_lt (hI26 (pl, W.listOf #[.ref g3, .ref g4] 0) (by k_mem)) e'
            rcases List.mem_cons.mp hp with rfl | hp
            · exact Nat.ne_of_lt (hI26 (na, LCg.lst nvs) (by k_mem)) e'
            rcases List.mem_cons.mp hp with rfl | hp
            · exact Nat.ne_of_lt (hI26 (KW.s₁.heap.objs.size + 1, oc) (by k_mem)) e'
            rcases List.mem_cons.mp hp with rfl | hp
            · exact Nat.ne_of_lt (hI26 (30, tabObj #[]) (by k_mem)) e'
            rcases List.mem_append.mp hp with hp | hp
            · have := (hn8 p (.tail _ hp)).2
              rw [e', zI] at this
              cases this
            · exact (hns p hp).2.2 e'
          · intro p hp
            rcases List.mem_append.mp hp with hp | hp
            · have h1 := hn8 p (.tail _ hp)
              refine ⟨h1.1, fun e => ?_, fun e => ?_⟩
              · rw [e, zC] at h1; cases h1.2
              · rw [e, zI] at h1; cases h1.2
            · exact hns p hp
          · funext y
            by_cases e : y = Str.ofString "order"
            · rw [if_pos e, if_pos e]
            · rw [if_neg e, if_neg e, if_neg e]
    · rintro m news ⟨gs0, e0, _, ⟨oc', cv', tab, ns, hoc', hTab, hns, hob, rfl⟩, oo2, rfl⟩ h27 tk27 F27 N27
      clear F25 N25 e0 hI26 h30_18 h30_21 hc18 hc21
      obtain ⟨tps, htp⟩ : ∃ ps, tab = tabObj ps := by
        rcases hTab with e | ⟨TT, e, _⟩
        · exact ⟨_, e⟩
        · exact ⟨_, e⟩
      have hob0 := hob
      have N28 : News (ghostOf KW.s₁.heap [(34, 30)]) KW.s₁.heap.objs.size h27 ((pl, listOf #[.ref g3, .ref g4] 0) :: (na, LCg.lst nvs) :: ((30, tabObj tps) :: ns)) := by
        intro p hp
        rw [← htp] at hp
        refine N27 p ?_
        rcases List.mem_cons.mp hp with rfl | hp
        · exact .head _
        rcases List.mem_cons.mp hp with rfl | hp
        · exact .tail _ (.head _)
        · exact .tail _ (.tail _ (.tail _ hp))
      have h30m : (30, tabObj tps) ∈ (30, tabObj tps) :: ns := .head _
      have hob : ∀ p ∈ ob3 ++ ob4, p ∈ (30, tabObj tps) :: ns := fun p hp => .tail _ (hob0 p hp)
      clear N27 hoc' hns hob0 hTab
      clear htp
      generalize (30, tabObj tps) :: ns = ns at N28 h30m hob
      obtain ⟨mp, F28⟩ : ∃ mp : Str → Option Value, Fr (ghostOf KW.s₁.heap [(34, 30)]) KW.s₁.heap.objs.size h27 (fun y => if y = Str.ofString "plain" then some (Value.ref pl) else if y = Str.ofString "names" then some (Value.ref na) else mp y) := by
        refine ⟨fun y => if y = Str.ofString "order" then oo2 else mo y, ?_⟩
        have e : (fun y => if y = Str.ofString "plain" then some (Value.ref pl) else if y = Str.ofString "names" then some (Value.ref na) else if y = Str.ofString "order" then oo2 else mo y) = (fun y => if y = Str.ofString "order" then oo2 else mo y) := by
          funext y
          by_cases e1 : y = Str.ofString "plain"
          · subst e1
            rw [if_pos rfl, if_neg (by decide)]
            exact hmo.1.symm
          · rw [if_neg e1]
            by_cases e2 : y = Str.ofString "names"
            · subst e2
              rw [if_pos rfl, if_neg (by decide)]
              exact hmo.2.symm
            · rw [if_neg e2]
        rw [e]
        exact F27
      clear F27
      (try dsimp only)
      o_head !(4, 0)
      refine PyProof.Rows.Assign_Tuple ?_
      obtain ⟨srcN, hsrc⟩ : ∃ f : Nat → List Str, f = fun i => if i = 0 then NS else NS.reverse := ⟨_, rfl⟩
      have hlen9 : ∀ i, (groupsOf (srcN i)).length ≤ 9 := by
        intro i
        have h1 := (groups_lens (srcN i)).2.2
        have h2 : (srcN i).length = NS.length := by
          rw [hsrc]
          (try dsimp only)
          split
          · rfl
          · rw [List.length_reverse]
        omega
      have hDD : ∀ i v, (#[Value.ref g3, .ref g4] : Array Value)[i]? = some v → ∃ a vs n, v = .ref a ∧ (a, listOf (List.toArray vs) n) ∈ ob3 ++ ob4 ∧ DatAll (ob3 ++ ob4) vs (gdat (groupsOf (srcN i))) := by
        intro i v hv
        match i, hv with
        | 0, hv =>
          obtain rfl : Value.ref g3 = v := by simpa using hv
          obtain ⟨vs, n, q1, q2⟩ := dat_list (D18.mono fun p hp => List.mem_append_left ob4 hp)
          exact ⟨_, _, _, rfl, q1, by rw [hsrc]; exact q2⟩
        | 1, hv =>
          obtain rfl : Value.ref g4 = v := by simpa using hv
          obtain ⟨vs, n, q1, q2⟩ := dat_list (D21.mono fun p hp => List.mem_append_right ob3 hp)
          exact ⟨_, _, _, rfl, q1, by rw [hsrc]; exact q2⟩
        | i + 2, hv => simp at hv
      refine LCg.ListComp_U (F₀ := F28) (by with_unfolding_all rfl) (by decide) (by rfl) (by decide) (by rfl) ?_
      o_head !(4, 0)
      refine LCg.CompSrc.ledger (its := #[.ref g3, .ref g4]) (k := 0) rfl F28 N28 (.head _) (by rw [sizeLine_eq]; exact Nat.le_of_ble_eq_true rfl) ?_
      intro hg0
      (try dsimp only)
      refine cr_inv (fun i ys nw => ∃ fl : List (Addr × List Value), ys = fl.map (fun f => Value.ref f.1) ∧ nw = fl.map (fun f => (f.1, LCg.lst f.2)) ++ ((pl, listOf #[.ref g3, .ref g4] 0) :: (na, LCg.lst nvs) :: ns) ∧ fl.length = i ∧ ∀ j f, fl[j]? = some f → StrsAre f.2 (firstsOf (srcN j))) ⟨[], rfl, rfl, rfl, fun j f h => by simp at h⟩ ?_ ?_
      · rintro i ys nw v I2 oI2 C2 oC2 D2 m₂ h2 tk2 E2 hi ⟨fl, rfl, rfl, hfl, hfs⟩ hv hC2 hm F2 N2 off ne
        have offK := off
        clear off ne
        obtain ⟨a, vs, n, rfl, hav, DAv⟩ := hDD i v hv
        clear N28 F28
        have hal : ∀ p ∈ ob3 ++ ob4, p ∈ (I2, oI2) :: (C2, oC2) :: (D2, LCg.lst (fl.map (fun f => Value.ref f.1))) :: (fl.map (fun f => (f.1, LCg.lst f.2)) ++ ((pl, listOf #[.ref g3, .ref g4] 0) :: (na, LCg.lst nvs) :: ns)) := fun p hp => .tail _ (.tail _ (.tail _ (List.mem_append_right _ (.tail _ (.tail _ (hob p hp))))))
        refine LCg.ListComp_U (F₀ := F2) (by with_unfolding_all rfl) (by decide) (by rfl) (by decide) (by rfl) ?_
        o_head !(4, 0)
        refine LCg.CompSrc.ledger (k := n) rfl F2 N2 (hal _ hav) (by rw [List.size_toArray, DatAll.len DAv, gdat, List.length_map, sizeLine_eq]; have := hlen9 i; omega) ?_
        intro hg1
        (try dsimp only)
        refine cr_inv (fun i2 ws nw => nw = (I2, oI2) :: (C2, oC2) :: (D2, LCg.lst (fl.map (fun f => Value.ref f.1))) :: (fl.map (fun f => (f.1, LCg.lst f.2)) ++ ((pl, listOf #[.ref g3, .ref g4] 0) :: (na, LCg.lst nvs) :: ns)) ∧ StrsAre ws ((firstsOf (srcN i)).take i2)) ⟨rfl, .nil⟩ ?_ ?_
        · rintro i2 ws nw v I3 oI3 C3 oC3 D3 m₃ h3 tk3 E3 hi2 ⟨rfl, hws⟩ hv2 hC3 hm3 F3 N3 off3 ne3
          have offK3 := off3
          clear off3 ne3 N2 F2
          have hi2' : i2 < (groupsOf (srcN i)).length := by
            have := DatAll.len DAv
            rw [gdat, List.length_map] at this
            rw [List.size_toArray] at hi2
            omega
          obtain ⟨q, hq⟩ : ∃ q, (groupsOf (srcN i))[i2]? = some q := ⟨_, List.getElem?_eq_getElem hi2'⟩
          obtain ⟨b, us, nb, hb1, hb2, hb3⟩ := gd_at DAv hq
          obtain rfl : v = .ref b := by
            rw [List.getElem?_toArray, hb1] at hv2
            exact (Option.some.inj hv2).symm
          obtain ⟨x, t, hx0, hx1⟩ := first_str hb3 (groups_pos _ q (List.mem_of_getElem? hq))
          have hlb : h3.IsList b us.toArray := N3.isList (.tail _ (.tail _ (.tail _ (hal _ hb2))))
          o_head !(4, 0)
          refine item_any (vs := us) (l := b) (j := 0) (x := .str x t) hlb hx0 rfl (by omega) ?_
          o_head !(4, 0)
          refine LCg.CompEnd.intro F3 N3 _ (fun _ h => h) offK3 (.inr ⟨_, hal _ hav, rfl, _, rfl⟩) ⟨rfl, ?_⟩
          have hqf : (firstsOf (srcN i))[i2]? = some x := by rw [firstsOf, List.getElem?_map, hq]; exact congrArg some hx1
          rw [List.take_succ, hqf]
          exact hws.append' (.cons _ _ .nil)
        · rintro ws nw ⟨rfl, hws⟩
          intro D3 h3 tk3 F3 N3 off3
          (try dsimp only)
          o_head !(4, 0)
          have hfull : (firstsOf (srcN i)).take (List.toArray vs).size = firstsOf (srcN i) := by
            refine List.take_of_length_le ?_
            rw [List.size_toArray, DatAll.len DAv, gdat, firstsOf, List.length_map, List.length_map]
            exact Nat.le_refl _
          rw [hfull] at hws
          refine LCg.CompEnd.intro F3 N3 ((fl ++ [(D3, ws)]).map (fun f => (f.1, LCg.lst f.2)) ++ ((pl, listOf #[.ref g3, .ref g4] 0) :: (na, LCg.lst nvs) :: ns)) ?_ ?_ (.inr ⟨_, List.mem_append_right _ (.head _), rfl, _, rfl⟩) ⟨fl ++ [(D3, ws)], by rw [List.map_append]; rfl, rfl, by rw [List.length_append, hfl]; rfl, ?_⟩
          · intro p hp
            rw [List.map_append] at hp
            simp only [List.mem_cons, List.mem_append, List.map_cons, List.map_nil, List.not_mem_nil, or_false] at hp ⊢
            rcases hp with h | h | h | (h | h) | h | h | h <;> simp [h]
          · refine off3_of fun p hp => ?_
            have hq : p = (D3, LCg.lst ws) ∨ p ∈ fl.map (fun f => (f.1, LCg.lst f.2)) ++ ((pl, listOf #[.ref g3, .ref g4] 0) :: (na, LCg.lst nvs) :: ns) := by
              rw [List.map_append] at hp
              rcases List.mem_append.mp hp with hp | hp
              · rcases List.mem_append.mp hp with hp | hp
                · exact .inr (List.mem_append_left _ hp)
                · exact .inl (List.mem_singleton.mp hp)
              · exact .inr (List.mem_append_right _ hp)
            rcases hq with rfl | hq
            · exact ⟨Ne.symm (off1_mem off3 (I2, oI2) (.head _)), Ne.symm (off1_mem off3 (C2, oC2) (.tail _ (.head _))), Ne.symm (off1_mem off3 (D2, _) (.tail _ (.tail _ (.head _))))⟩
            · exact offK.mem p hq
          · intro j f hj
            by_cases cj : j < fl.length
            · rw [List.getElem?_append_left cj] at hj
              exact hfs j f hj
            · have hj2 : j = fl.length := by
                have := (List.getElem?_eq_some_iff.mp hj).1
                rw [List.length_append, List.length_singleton] at this
                omega
              subst hj2
              rw [List.getElem?_append_right (Nat.le_refl _), Nat.sub_self] at hj
              cases hj
              rw [hfl]
              exact hws
      · rintro ys nw ⟨fl, rfl, rfl, hfl, hfs⟩
        intro D2 h2 tk2 F2 N2 off2
        (try dsimp only)
        obtain ⟨⟨d1, fv1⟩, ⟨d2, fv2⟩, rfl⟩ : ∃ f0 f1, fl = [f0, f1] := by
          match fl, hfl with
          | [f0, f1], _ => exact ⟨f0, f1, rfl⟩
        have hS1 : id (StrsAre fv1 (firstsOf NS)) := by have := hfs 0 _ rfl; rw [hsrc] at this; exact this
        have hS2 : id (StrsAre fv2 (firstsOf NS.reverse)) := by have := hfs 1 _ rfl; rw [hsrc] at this; exact this
        have N3 : News (ghostOf KW.s₁.heap [(34, 30)]) KW.s₁.heap.objs.size h2 ((D2, LCg.lst [.ref d1, .ref d2]) :: (d1, LCg.lst fv1) :: (d2, LCg.lst fv2) :: (pl, listOf #[.ref g3, .ref g4] 0) :: (na, LCg.lst nvs) :: ns) := N2
        clear N2 off2 hfs hfl F28 N28 hDD
        have hf1 : (firstsOf NS).length ≤ 9 := by rw [firstsOf, List.length_map]; have := hlen9 0; rw [hsrc] at this; exact this
        have hf2 : (firstsOf NS.reverse).length ≤ 9 := by rw [firstsOf, List.length_map]; have := hlen9 1; rw [hsrc] at this; exact this
        have hv1 : fv1.length ≤ 9 := by rw [show fv1.length = _ from StrsAre.len_eq hS1]; exact hf1
        have hv2 : fv2.length ≤ 9 := by rw [show fv2.length = _ from StrsAre.len_eq hS2]; exact hf2
        clear hsrc hlen9
        show wpAny _ _ _ _ _ _
        o_head !(4, 0)
        rename_i h4 F4 N4
        refine sorted_N_str F4 N4 (N4.isList (.tail _ (.head _))) hS1 (by omega) (fun h5 vs5 ss5 e5 F5 N5 hs5 hperm5 hsort5 => ?_)
        (try dsimp only)
        obtain rfl : ss5 = sortS (firstsOf NS) := sortS_is hperm5 hsort5
        o_head !(4, 0)
        refine sorted_N_str F5 N5 (N5.isList (.tail _ (.tail _ (.tail _ (.head _))))) hS2 (by omega) (fun h6 vs6 ss6 e6 F6 N6 hs6 hperm6 hsort6 => ?_)
        obtain rfl : ss6 = sortS (firstsOf NS.reverse) := sortS_is hperm6 hsort6
        clear F4 N4 F5 N5
        have hs5' : id (StrsAre vs5 (sortS (firstsOf NS))) := hs5
        have hs6' : id (StrsAre vs6 (sortS (firstsOf NS.reverse))) := hs6
        have hl5 : (sortS (firstsOf NS)).length < 60 := by rw [hperm5.length_eq]; omega
        have hl6 : (sortS (firstsOf NS.reverse)).length < 60 := by rw [hperm6.length_eq]; omega
        clear hs5 hs6
        (try dsimp only)
        o_head !(4, 0)
        obtain ⟨A6, hA6⟩ : ∃ A6, A6 = h5.objs.size + 1 := ⟨_, rfl⟩
        obtain ⟨A5, hA5⟩ : ∃ A5, A5 = h4.objs.size + 1 := ⟨_, rfl⟩
        have N7 : News (ghostOf KW.s₁.heap [(34, 30)]) KW.s₁.heap.objs.size h6 ((A6, listOf vs6.toArray e6) :: (A5, listOf vs5.toArray e5) :: (d1, LCg.lst fv1) :: (d2, LCg.lst fv2) :: (na, LCg.lst nvs) :: ns) := by
          intro p hp
          rw [hA6, hA5] at hp
          refine N6 p ?_
          simp only [List.mem_cons] at hp ⊢
          rcases hp with h | h | h | h | h | h <;> first | (rw [h]; simp; done) | simp [h]
        clear N6
        rw [← hA6, ← hA5]
        refine' sld_spec KW.w _ _ _ _ _ A5 A6 vs5 vs6 e5 e6 (sortS (firstsOf NS)) (sortS (firstsOf NS.reverse)) _ _ _ _ _ _ _ _ _ _ _ ?F ?X ?T N7 ?hf ?hk ?hpre ?hd ?hu ?_
        case F => k_asm
        case X => k_asm
        case T => k_asm
        case hf => exact rfl
        case hk => exact rfl
        case hpre => exact ⟨.tail _ (.head _), .head _, hs5', hs6', hl5, hl6⟩
        case hd => simp only [recursionLimit, Around.deeper] at *; omega
        case hu => simp only [cLine, Around.deeper] at *; omega
        rintro v8 h8 tk8 _ F8 N8 ⟨ob5, rfl, D8⟩
        clear F6 N7 hs5' hs6' hl5 hl6
        have N9 : News (ghostOf KW.s₁.heap [(34, 30)]) KW.s₁.heap.objs.size h8 ((d1, LCg.lst fv1) :: (d2, LCg.lst fv2) :: (na, LCg.lst nvs) :: (ob5 ++ ns)) := by
          intro p hp
          refine N8 p ?_
          simp only [List.mem_cons, List.mem_append] at hp ⊢
          rcases hp with h | h | h | h | h <;> simp [h]
        clear N8
        (try dsimp only)
        o_head !(4, 0)
        rename_i Da ca ha la Db cb hb Fb Nb lb
        have Nc : News (ghostOf KW.s₁.heap [(34, 30)]) KW.s₁.heap.objs.size hb ((Da, listOf fv1.toArray ca) :: (Db, listOf fv2.toArray cb) :: (d1, LCg.lst fv1) :: (d2, LCg.lst fv2) :: (na, LCg.lst nvs) :: (ob5 ++ ns)) := by
          intro p hp
          refine Nb p ?_
          rcases List.mem_cons.mp hp with rfl | hp
          · exact .tail _ (.head _)
          rcases List.mem_cons.mp hp with rfl | hp
          · exact .head _
          · exact .tail _ (.tail _ hp)
        refine' uld_spec KW.w _ _ _ _ _ Da Db fv1 fv2 ca cb (firstsOf NS) (firstsOf NS.reverse) ((d1, LCg.lst fv1) :: (d2, LCg.lst fv2) :: (na, LCg.lst nvs) :: (ob5 ++ ns)) _ _ _ _ _ _ _ _ _ _ _ ?F ?X ?T Nc ?hf ?hk ?hpre ?hd ?hu ?_
        case F => k_asm
        case X => k_asm
        case T => k_asm
        case hf => exact rfl
        case hk => exact rfl
        case hpre =>
          refine ⟨rfl, Nat.ne_of_lt lb.1, ?_, hS1, hS2, by omega, by omega⟩
          intro q hq
          have h1 : AllLt Da ((d1, LCg.lst fv1) :: (d2, LCg.lst fv2) :: (na, LCg.lst nvs) :: (ob5 ++ ns)) := la
          have h2 : AllLt Db ((d1, LCg.lst fv1) :: (d2, LCg.lst fv2) :: (na, LCg.lst nvs) :: (ob5 ++ ns)) := lb.2
          exact ⟨Nat.ne_of_lt (allLt_mem h1 q hq), Nat.ne_of_lt (allLt_mem h2 q hq)⟩
        case hd => simp only [recursionLimit, Around.deeper] at *; omega
        case hu => simp only [cLine, Around.deeper] at *; omega
        rintro v10 h10 tk10 _ F10 N10 ⟨ob6, rfl, D10⟩
        clear Fb Nb Nc lb la
        have N11 : News (ghostOf KW.s₁.heap [(34, 30)]) KW.s₁.heap.objs.size h10 ((d1, LCg.lst fv1) :: (d2, LCg.lst fv2) :: (na, LCg.lst nvs) :: (ob6 ++ (ob5 ++ ns))) := by
          intro p hp
          refine N10 p ?_
          simp only [List.mem_cons, List.mem_append] at hp ⊢
          rcases hp with h | h | h | h | h | h <;> simp [h]
        clear N10
        (try dsimp only)
        o_head !(4, 0)
        rename_i sl hx12 lx12 h12 F12 N12
        clear lx12
        have hnl9 : nvs.length ≤ 9 := by rw [show nvs.length = _ from StrsAre.len_eq hkN]; exact hNl2
        refine slice_upto F12 N12 (N12.isList (.tail _ (.tail _ (.tail _ (.head _))))) (by omega) (by omega) ?_
        intro a13 h13 F13 l13 N13
        rw [show (1 : Int).toNat = 1 from rfl] at N13
        (try dsimp only)
        o_head !(5, 0)
        refine add_any (vs := nvs) (us := nvs.take 1) F13 N13 (N13.isList (.tail _ (.tail _ (.tail _ (.tail _ (.head _)))))) (N13.isList (.head _)) (by rw [List.length_take]; omega) ?_
        intro a14 h14 F14 l14 N14
        (try dsimp only)
        o_head !(5, 0)
        refine add_any (vs := fv1) (us := fv2) F14 N14 (N14.isList (.tail _ (.tail _ (.tail _ (.head _))))) (N14.isList (.tail _ (.tail _ (.tail _ (.tail _ (.head _)))))) (by omega) ?_
        intro a15 h15 F15 l15 N15
        (try dsimp only)
        o_head !(5, 0)
        rename_i h16 F16 N16
        have hE : id (StrsAre (nvs ++ nvs.take 1) (NS ++ NS.take 1)) := (show StrsAre nvs NS from hkN).append' ((show StrsAre nvs NS from hkN).take' 1)
        have hBo : id (StrsAre (fv1 ++ fv2) (firstsOf NS ++ firstsOf NS.reverse)) := (show StrsAre fv1 _ from hS1).append' hS2
        have hE1 : (nvs ++ nvs.take 1).length ≤ 10 := by rw [List.length_append, List.length_take]; omega
        have hE2 : (NS ++ NS.take 1).length ≤ 10 := by rw [List.length_append, List.length_take]; omega
        have hB1 : (fv1 ++ fv2).length ≤ 18 := by rw [List.length_append]; omega
        have hB2 : (firstsOf NS ++ firstsOf NS.reverse).length ≤ 18 := by rw [List.length_append]; omega
        have N17 : News (ghostOf KW.s₁.heap [(34, 30)]) KW.s₁.heap.objs.size h16 ((a15, listOf (fv1 ++ fv2).toArray 0) :: (a14, listOf (nvs ++ nvs.take 1).toArray 0) :: (sl, listOf #[v8, v10] 0) :: (d1, LCg.lst fv1) :: (d2, LCg.lst fv2) :: (ob6 ++ (ob5 ++ ns))) := by
          intro p hp
          refine N16 p ?_
          simp only [List.mem_cons, List.mem_append] at hp ⊢
          rcases hp with h | h | h | h | h | h | h | h <;> simp [h]
        generalize hve : nvs ++ nvs.take 1 = ve at hE hE1 N17
        generalize hvb : fv1 ++ fv2 = vb at hBo hB1 N17
        (try clear N16)
        (try clear N15)
        (try clear N14)
        (try clear N13)
        (try clear N12)
        (try clear l13)
        (try clear l14)
        (try clear l15)
        (try clear F12)
        (try clear F13)
        (try clear F14)
        (try clear F15)
        (try clear F10)
        (try clear N11)
        refine sorted_N_str F16 N17 (N17.isList (.tail _ (.head _))) hE (by omega) (fun h17 vs17 ss17 e17 F17 N18 hs17 hperm17 hsort17 => ?_)
        (try dsimp only)
        obtain rfl : ss17 = sortS (NS ++ NS.take 1) := sortS_is hperm17 hsort17
        o_head !(5, 0)
        refine sorted_N_str F17 N18 (N18.isList (.tail _ (.head _))) hBo (by omega) (fun h18 vs18 ss18 e18 F18 N19 hs18 hperm18 hsort18 => ?_)
        obtain rfl : ss18 = sortS (firstsOf NS ++ firstsOf NS.reverse) := sortS_is hperm18 hsort18
        have hs17' : id (StrsAre vs17 (sortS (NS ++ NS.take 1))) := hs17
        have hs18' : id (StrsAre vs18 (sortS (firstsOf NS ++ firstsOf NS.reverse))) := hs18
        have hl17 : (sortS (NS ++ NS.take 1)).length < 60 := by rw [hperm17.length_eq]; omega
        have hl18 : (sortS (firstsOf NS ++ firstsOf NS.reverse)).length < 60 := by rw [hperm18.length_eq]; omega
        clear hs17 hs18 hperm17 hperm18 hsort17 hsort18
        (try dsimp only)
        o_head !(5, 0)
        obtain ⟨A17, hA17⟩ : ∃ A17, A17 = h16.objs.size + 1 := ⟨_, rfl⟩
        obtain ⟨A18, hA18⟩ : ∃ A18, A18 = h17.objs.size + 1 := ⟨_, rfl⟩
        have N20 : News (ghostOf KW.s₁.heap [(34, 30)]) KW.s₁.heap.objs.size h18 ((A18, listOf vs18.toArray e18) :: (A17, listOf vs17.toArray e17) :: (a15, listOf vb.toArray 0) :: (a14, listOf ve.toArray 0) :: (sl, listOf #[v8, v10] 0) :: (d1, LCg.lst fv1) :: (d2, LCg.lst fv2) :: (ob6 ++ (ob5 ++ ns))) := by
          rw [hA17, hA18]
          exact N19
        (try clear N19)
        (try clear N18)
        (try clear N17)
        (try clear F16)
        (try clear F17)
        rw [← hA17, ← hA18]
        refine' sld_spec KW.w _ _ _ _ _ A17 A18 vs17 vs18 e17 e18 (sortS (NS ++ NS.take 1)) (sortS (firstsOf NS ++ firstsOf NS.reverse)) _ _ _ _ _ _ _ _ _ _ _ ?F ?X ?T N20 ?hf ?hk ?hpre ?hd ?hu ?_
        case F => k_asm
        case X => k_asm
        case T => k_asm
        case hf => exact rfl
        case hk => exact rfl
        case hpre => exact ⟨.tail _ (.head _), .head _, hs17', hs18', hl17, hl18⟩
        case hd => simp only [recursionLimit, Around.deeper] at *; omega
        case hu => simp only [cLine, Around.deeper] at *; omega
        rintro v21 h21 tk21 _ F21 N21 ⟨ob7, rfl, D21'⟩
        (try clear N20)
        (try clear hs17')
        (try clear hs18')
        (try clear hl17)
        (try clear hl18)
        (try clear F18)
        have N22 : News (ghostOf KW.s₁.heap [(34, 30)]) KW.s₁.heap.objs.size h21 ((a15, listOf vb.toArray 0) :: (a14, listOf ve.toArray 0) :: (sl, listOf #[v8, v10] 0) :: (d1, LCg.lst fv1) :: (d2, LCg.lst fv2) :: (ob7 ++ (ob6 ++ (ob5 ++ ns)))) := by
          intro p hp
          refine N21 p ?_
          simp only [List.mem_cons, List.mem_append] at hp ⊢
          rcases hp with h | h | h | h | h | h | h | h | h <;> simp [h]
        (try clear N21)
        (try dsimp only)
        o_head !(5, 0)
        rename_i Da ca ha la Db cb hb Fb Nb lb
        have Nc : News (ghostOf KW.s₁.heap [(34, 30)]) KW.s₁.heap.objs.size hb ((Da, listOf ve.toArray ca) :: (Db, listOf vb.toArray cb) :: (a15, listOf vb.toArray 0) :: (a14, listOf ve.toArray 0) :: (sl, listOf #[v8, v10] 0) :: (d1, LCg.lst fv1) :: (d2, LCg.lst fv2) :: (ob7 ++ (ob6 ++ (ob5 ++ ns)))) := by
          intro p hp
          refine Nb p ?_
          rcases List.mem_cons.mp hp with rfl | hp
          · exact .tail _ (.head _)
          rcases List.mem_cons.mp hp with rfl | hp
          · exact .head _
          · exact .tail _ (.tail _ hp)
        refine' uld_spec KW.w _ _ _ _ _ Da Db ve vb ca cb (NS ++ NS.take 1) (firstsOf NS ++ firstsOf NS.reverse) ((a15, listOf vb.toArray 0) :: (a14, listOf ve.toArray 0) :: (sl, listOf #[v8, v10] 0) :: (d1, LCg.lst fv1) :: (d2, LCg.lst fv2) :: (ob7 ++ (ob6 ++ (ob5 ++ ns)))) _ _ _ _ _ _ _ _ _ _ _ ?F ?X ?T Nc ?hf ?hk ?hpre ?hd ?hu ?_
        case F => k_asm
        case X => k_asm
        case T => k_asm
        case hf => exact rfl
        case hk => exact rfl
        case hpre =>
          refine ⟨rfl, Nat.ne_of_lt lb.1, ?_, hE, hBo, by omega, by omega⟩
          intro q hq
          have h1 : AllLt Da ((a15, listOf vb.toArray 0) :: (a14, listOf ve.toArray 0) :: (sl, listOf #[v8, v10] 0) :: (d1, LCg.lst fv1) :: (d2, LCg.lst fv2) :: (ob7 ++ (ob6 ++ (ob5 ++ ns)))) := la
          have h2 : AllLt Db ((a15, listOf vb.toArray 0) :: (a14, listOf ve.toArray 0) :: (sl, listOf #[v8, v10] 0) :: (d1, LCg.lst fv1) :: (d2, LCg.lst fv2) :: (ob7 ++ (ob6 ++ (ob5 ++ ns)))) := lb.2
          exact ⟨Nat.ne_of_lt (allLt_mem h1 q hq), Nat.ne_of_lt (allLt_mem h2 q hq)⟩
        case hd => simp only [recursionLimit, Around.deeper] at *; omega
        case hu => simp only [cLine, Around.deeper] at *; omega
        rintro v24 h24 tk24 _ F24 N24 ⟨ob8, rfl, D24⟩
        clear Fb Nb Nc lb la
        have N25 : News (ghostOf KW.s₁.heap [(34, 30)]) KW.s₁.heap.objs.size h24 ((a15, listOf vb.toArray 0) :: (a14, listOf ve.toArray 0) :: (sl, listOf #[v8, v10] 0) :: (d1, LCg.lst fv1) :: (d2, LCg.lst fv2) :: (ob8 ++ (ob7 ++ (ob6 ++ (ob5 ++ ns))))) := by
          intro p hp
          refine N24 p ?_
          simp only [List.mem_cons, List.mem_append] at hp ⊢
          rcases hp with h | h | h | h | h | h | h | h | h | h <;> simp [h]
        clear N24
        (try dsimp only)
        o_head !(5, 0)
        rename_i ml hxm lxm h26 F26 N26
        clear lxm
        have hne1 : firstsOf NS ≠ [] := firsts_ne hNm hAS
        have hne2 : firstsOf NS.reverse ≠ [] := firsts_ne hRm ⟨List.mem_reverse.mpr hAS.1, List.mem_reverse.mpr hAS.2⟩
        have hpt1 : h26.get? d1 = some (listOf fv1.toArray fv1.length) ∧ h26.get? d2 = some (listOf fv2.toArray fv2.length) ∧ StrsAre fv1 (firstsOf NS) ∧ StrsAre fv2 (firstsOf NS.reverse) ∧ (firstsOf NS).length < 60 ∧ (firstsOf NS.reverse).length < 60 ∧ firstsOf NS ≠ [] ∧ firstsOf NS.reverse ≠ [] := ⟨(N26 _ (.tail _ (.tail _ (.tail _ (.tail _ (.head _)))))).1, (N26 _ (.tail _ (.tail _ (.tail _ (.tail _ (.tail _ (.head _))))))).1, hS1, hS2, by omega, by omega, hne1, hne2⟩
        o_head (told_spec KW.w _ _ _ _ _ d1 d2 fv1.length fv2.length fv1 fv2 (firstsOf NS) (firstsOf NS.reverse))
        rename_i v27 h27' tk27' K27 P27 F27 N27
        obtain ⟨ta, ob9, rfl, M27, D27⟩ := P27
        have N28 := made_news F26 N27 M27
        clear N27 M27 K27 hpt1 N26 F26
        (try dsimp only)
        o_head !(5, 0)
        have hsaid := said_dat (firstsOf NS) (firstsOf NS.reverse) hne1 hne2
        have hok1 := told_ok (xs := firstsOf NS) (ys := firstsOf NS.reverse) (firsts_nm hNm) (firsts_nm hRm)
        obtain ⟨tvs, tn, ht1, ht2⟩ := dat_list D27
        refine kqd_eq N28 (n₁ := ob8 ++ (ob7 ++ (ob6 ++ (ob5 ++ ns)))) (n₂ := ob9) (List.mem_append_right _ (.tail _ (.tail _ (.tail _ (.head _))))) rfl rfl (.cons (D8.mono ?_) (.cons (D10.mono ?_) .nil)) ?_ (List.mem_append_left _ ht1) rfl rfl ht2 ?_ (hsaid ▸ hok1) hok1 ?_ ?_
        · intro p hp; exact List.mem_append_right _ (List.mem_append_right _ (List.mem_append_right _ (List.mem_append_left _ hp)))
        · intro p hp; exact List.mem_append_right _ (List.mem_append_right _ (List.mem_append_left _ hp))
        · intro p hp; exact List.mem_append_right _ (.tail _ (.tail _ (.tail _ (.tail _ (.tail _ (.tail _ hp))))))
        · intro p hp; exact List.mem_append_left _ hp
        · simp only [Around.deeper, cLine] at *; omega
        rw [hsaid]
        simp only [eq_self, decide_true]
        o_head !(5, 0)
        have hne3 : NS ++ NS.take 1 ≠ [] := by
          intro e
          have := congrArg List.length e
          rw [List.length_append] at this
          simp only [List.length_nil] at this
          omega
        have hne4 : firstsOf NS ++ firstsOf NS.reverse ≠ [] := fun e => hne1 (List.append_eq_nil_iff.mp e).1
        have hpt2 : h27'.get? a14 = some (listOf ve.toArray 0) ∧ h27'.get? a15 = some (listOf vb.toArray 0) ∧ StrsAre ve (NS ++ NS.take 1) ∧ StrsAre vb (firstsOf NS ++ firstsOf NS.reverse) ∧ (NS ++ NS.take 1).length < 60 ∧ (firstsOf NS ++ firstsOf NS.reverse).length < 60 ∧ NS ++ NS.take 1 ≠ [] ∧ firstsOf NS ++ firstsOf NS.reverse ≠ [] := ⟨(N28 _ (List.mem_append_right _ (.tail _ (.tail _ (.head _))))).1, (N28 _ (List.mem_append_right _ (.tail _ (.head _)))).1, hE, hBo, by omega, by omega, hne3, hne4⟩
        o_head (told_spec KW.w _ _ _ _ _ a14 a15 0 0 ve vb (NS ++ NS.take 1) (firstsOf NS ++ firstsOf NS.reverse))
        rename_i v30 h30' tk30' K30 P30 F30 N30
        obtain ⟨tb, ob10, rfl, M30, D30⟩ := P30
        have N31 := made_news F27 N30 M30
        clear N30 M30 K30 hpt2 N28 F27
        (try dsimp only)
        o_head !(5, 0)
        have hmore := said_dat (NS ++ NS.take 1) (firstsOf NS ++ firstsOf NS.reverse) hne3 hne4
        have hok2 := told_ok (xs := NS ++ NS.take 1) (ys := firstsOf NS ++ firstsOf NS.reverse) (nm_app hNm fun x hx => hNm x (List.mem_of_mem_take hx)) (nm_app (firsts_nm hNm) (firsts_nm hRm))
        obtain ⟨tvs2, tn2, ht3, ht4⟩ := dat_list D30
        refine kqd_eq N31 (n₁ := ob8 ++ (ob7 ++ (ob6 ++ (ob5 ++ ns)))) (n₂ := ob10) (List.mem_append_right _ (List.mem_append_right _ (.head _))) rfl rfl (.cons (D21'.mono ?_) (.cons (D24.mono ?_) .nil)) ?_ (List.mem_append_left _ ht3) rfl rfl ht4 ?_ (hmore ▸ hok2) hok2 ?_ ?_
        · intro p hp; exact List.mem_append_right _ (List.mem_append_left _ hp)
        · intro p hp; exact List.mem_append_left _ hp
        · intro p hp; exact List.mem_append_right _ (List.mem_append_right _ (.tail _ (.tail _ (.tail _ (.tail _ (.tail _ (.tail _ hp)))))))
        · intro p hp; exact List.mem_append_left _ hp
        · simp only [Around.deeper, cLine] at *; omega
        rw [hmore]
        simp only [eq_self, decide_true]
        have h30f : (30, tabObj tps) ∈ ob10 ++ (ob9 ++ ((ml, listOf #[v21, v24] 0) :: (a15, listOf vb.toArray 0) :: (a14, listOf ve.toArray 0) :: (sl, listOf #[v8, v10] 0) :: (d1, LCg.lst fv1) :: (d2, LCg.lst fv2) :: (ob8 ++ (ob7 ++ (ob6 ++ (ob5 ++ ns)))))) := List.mem_append_right _ (List.mem_append_right _ (.tail _ (.tail _ (.tail _ (.tail _ (.tail _ (.tail _ (List.mem_append_right _ (List.mem_append_right _ (List.mem_append_right _ (List.mem_append_right _ h30m)))))))))))
        refine And.intro ?_ (And.intro (GrownAt.of N31 h30f) True.intro)
        refine goodW_bool F30 (by assumption) (raisesW_false ?_) ?_
        · exact law_none _
        · exact law_post _
theorem main : PySem.Challenge.rw_oy0158_01.Holds := lawT.pf fun w s₀ s₁ mg mb => KW_of law_at ⟨w, s₀, s₁, mg, mb⟩
end
end Mine
set_option maxRecDepth 100000 in
set_option maxHeartbeats 8000000 in
theorem PySem.Challenge.cw_oy0158_01_holds : PySem.Challenge.rw_oy0158_01.Holds := by
  exact Mine.main
