import PyProof.Rows.All
import Wide.All
import OpenK.AllK
import Wide.FinOn
import PySem.Challenge.RW_rs0025_01
set_option Elab.async false
set_option maxRecDepth 100000
set_option maxHeartbeats 0
section
open PySem PySem.W PyProof.Rows
namespace Mine
open_top hd for PySem.Challenge.rw_rs0025_01
end Mine
end
section
open PySem PySem.W PyProof.Rows
namespace Mine
noncomputable abbrev prg : Program := PySem.Challenge.rw_rs0025_01.row.prog
noncomputable abbrev lo : List Str := (looseW hd.view_39 [Str.ofString "fmean"] ++ List.map (fun x => x.name) (recsOf hd.view_39) ++
        List.map (fun x => x.fst) (litsOf hd.view_39) ++
      List.map (fun x => x.name) (clssOf hd.view_39 (looseW hd.view_39 [Str.ofString "fmean"])))
theorem enter {w : World} {A : Around} {s : Shared} {R : Result → Shared → Prop} {mg mb : Str → Option Value}
    {name qual : Str} {params : Arguments} {body : List Stmt} {scope : Scope} {dV kV doc pm cdv ct oc : Value} {an od : Option Addr} {osl : Array (Option Value)} {f : Addr} {args : Args} {binds : List (Str × Value)}
    (X : (hd.heap_39 w.params).In s.heap) (T : TopRead topProg lo mg mb s.heap) (hroom : A.depth < 900)
    (ho : (hd.heap_39 w.params).lookup f = some ⟨oc, od, .func (fnOf name qual params body scope dV kV doc pm an cdv ct), osl⟩) (hcd : codeIn (hd.heap_39 w.params) cdv qual = true)
    (hbind : BindsTo s (fnOf name qual params body scope dV kV doc pm an cdv ct) args binds) (hloc : ∀ y ∈ binds, scope.names.lookup y.1 = some .local)
    (hcell : ∀ x ∈ scope.names, x.2 ≠ .cell) (hco : scope.isCoroutine = false) (hgen : scope.isGenerator = false) (hk : scope.kind = .function)
    (h : ∀ L h₁ tk, Fr s.heap L h₁ (fun y => binds.reverse.lookup y) → News s.heap L h₁ [] →
      wpAny (model prg w) (A.deeper (envOf qual scope L f cdv)) (execs body (envOf qual scope L f cdv))
        (fun fl s' => R (.ok (.ret (match fl with | .ret v => v | _ => .none))) s') (fun _ _ => False) { s with heap := h₁, toks := tk }) :
    codeAny (model prg w) A (.call (.ref f) args) R s := by
  refine codeAny_call_def (fd := fnOf name qual params body scope dV kV doc pm an cdv ct) (body := body) (binds := binds) (Nat.lt_trans hroom (by decide)) (X _ _ ho) rfl T.nolimit (codeRec_of X hcd) rfl hbind hcell hloc (fun h₁ hns hk₁ => ?_) hco hgen hk
  exact wpAny_mono (h _ h₁ _ ⟨hns, hk₁, Nat.le_refl _⟩ News.nil) (fun _ _ x => x) (fun _ _ x => x.elim)
theorem enterC {w : World} {A : Around} {s : Shared} {R : Result → Shared → Prop} {mg mb : Str → Option Value}
    {name qual : Str} {params : Arguments} {body : List Stmt} {scope : Scope} {dV kV doc pm cdv ct oc : Value} {an od : Option Addr} {osl : Array (Option Value)} {f : Addr} {args : Args} {binds : List (Str × Value)}
    (X : (hd.heap_39 w.params).In s.heap) (T : TopRead topProg lo mg mb s.heap) (hroom : A.depth < 900)
    (ho : (hd.heap_39 w.params).lookup f = some ⟨oc, od, .func (fnOf name qual params body scope dV kV doc pm an cdv ct), osl⟩) (hcd : codeIn (hd.heap_39 w.params) cdv qual = true)
    (hbind : BindsTo s (fnOf name qual params body scope dV kV doc pm an cdv ct) args binds)
    (hkind : (binds.all fun y => scope.names.lookup y.1 == some .local || scope.names.lookup y.1 == some .cell) = true)
    (hnd : ((cellsFrom 0 scope.names []).map (·.1)).Nodup) (hco : scope.isCoroutine = false) (hgen : scope.isGenerator = false) (hk : scope.kind = .function)
    (h : ∀ L h₁ tk cells, Fr s.heap L h₁ (bindL (envOfC qual scope L f cdv).kindOf binds fun _ => none) → News s.heap L h₁ cells →
      CellsAre (bindC (envOfC qual scope L f cdv).kindOf binds fun _ => none) (cellsFrom (L + 1) scope.names []) cells →
      wpAny (model prg w) (A.deeper (envOfC qual scope L f cdv)) (execs body (envOfC qual scope L f cdv))
        (fun fl s' => R (.ok (.ret (match fl with | .ret v => v | _ => .none))) s')
        (fun e s' => wpAny (model prg w) (A.deeper (envOfC qual scope L f cdv)) (leaving (envOfC qual scope L f cdv) e) (fun _ s'' => R (.error e) s'') (fun e' s'' => R (.error e') s'') s') { s with heap := h₁, toks := tk }) :
    codeAny (model prg w) A (.call (.ref f) args) R s := by
  refine codeAny_call_function (Nat.lt_trans hroom (by decide)) (X _ _ ho) rfl hco hgen rfl (codeRec_of X hcd) (hbind _ _ _ _ ?_)
  refine wpAny_newFunctionEnv_cells hk (kindsX hkind _) fun env' he s' x => ?_
  subst he
  refine ⟨T.nolimit.keeps x.toInCall.keep, codeAny_func ?_⟩
  obtain ⟨h₁, tk, rfl, _⟩ := x.done
  have hk₁ := x.toInCall.keep
  obtain ⟨cells, NC, Y⟩ := Cl.news (h₀ := s.heap) (Nat.le_refl _) fun n c hm => ⟨x.cell n c (lookup_of_mem_nodup (cellsFrom_names scope.names 0 (s.heap.objs.size + 1) [] [] rfl ▸ hnd) hm), x.above n c hm⟩
  exact h s.heap.objs.size h₁ tk cells ⟨x.toInCall.ns, hk₁, Nat.le_refl _⟩ NC Y
theorem enterB {w : World} {A₀ A : Around} {s : Shared} {R : Result → Shared → Prop} {mg mb : Str → Option Value} {mean : ExcName → Option Value} {base h₀ : Heap} {L : Addr} {m : Str → Option Value} {env : Env} {outer : List Env}
    {name qual : Str} {params : Arguments} {body : List Stmt} {scope : Scope} {dV kV doc pm cdv ct oc : Value} {an od : Option Addr} {osl : Array (Option Value)} {f : Addr} {args : Args} {binds : List (Str × Value)}
    (B : Below A₀ base outer h₀) (F : Fr h₀ L s.heap m) (hf : env.frame = some L) (hke : env.scope.kind = .function) (hA : A = A₀.deeper env)
    (X : (hd.heap_39 w.params).In s.heap) (T : Top topProg lo mean mg mb s.heap) (hroom : A.depth < 900)
    (ho : (hd.heap_39 w.params).lookup f = some ⟨oc, od, .func (fnOf name qual params body scope dV kV doc pm an cdv ct), osl⟩) (hcd : codeIn (hd.heap_39 w.params) cdv qual = true)
    (hbind : BindsTo s (fnOf name qual params body scope dV kV doc pm an cdv ct) args binds) (hloc : ∀ y ∈ binds, scope.names.lookup y.1 = some .local)
    (hcell : ∀ x ∈ scope.names, x.2 ≠ .cell) (hco : scope.isCoroutine = false) (hgen : scope.isGenerator = false) (hk : scope.kind = .function)
    (h : ∀ L' h₁ tk, Fr s.heap L' h₁ (fun y => binds.reverse.lookup y) → News s.heap L' h₁ [] → Below A base (env :: outer) s.heap →
      wpAny (model prg w) (A.deeper (envOf qual scope L' f cdv)) (execs body (envOf qual scope L' f cdv))
        (fun fl s' => R (.ok (.ret (match fl with | .ret v => v | _ => .none))) s')
        (fun e s' => wpAny (model prg w) (A.deeper (envOf qual scope L' f cdv)) (leaving (envOf qual scope L' f cdv) e) (fun _ s'' => R (.error e) s'') (fun e' s'' => R (.error e') s'') s') { s with heap := h₁, toks := tk }) :
    codeAny (model prg w) A (.call (.ref f) args) R s := by
  refine codeAny_call_def (fd := fnOf name qual params body scope dV kV doc pm an cdv ct) (body := body) (binds := binds) (Nat.lt_trans hroom (by decide)) (X _ _ ho) rfl T.nolimit (codeRec_of X hcd) rfl hbind hcell hloc (fun h₁ hns hk₁ => ?_) hco hgen hk
  exact h _ h₁ _ ⟨hns, hk₁, Nat.le_refl _⟩ News.nil (hA ▸ pushX B F hf hke)
section
variable {prog : Program} {w : World} {A : Around} {E : Value → Shared → Prop} {Q : Flow → Shared → Prop} {s : Shared} {env : Env} {h₀ : Heap} {L : Addr}
theorem whileE {σ : Type} {test : PySem.Expr} {body orelse : List Stmt} {pos : Pos} {m₀ : Str → Option Value} (Led : σ → List (Addr × Obj)) (ps : σ → List (Str × Value)) (Facts : σ → Prop) (stored : List Str) (P : σ → Prop) (μ : σ → Nat) (c₀ : σ)
    (F : Fr h₀ L s.heap m₀) (N : News h₀ L s.heap (Led c₀)) (hf : Facts c₀) (hk : ∀ p ∈ ps c₀, m₀ p.1 = some p.2) (hp : P c₀)
    (turn : ∀ (c : σ) (u : Str → Option Value) h tk, Facts c → P c → Fr h₀ L h (kstB (fun z => if stored.contains z then u z else m₀ z) (ps c)) → News h₀ L h (Led c) →
      wpAny (model prog w) A (isTrue test env (eval test env)) (fun b s₂ =>
        if b = true then wpAny (model prog w) A (execs body env) (KswPost h₀ L s Led ps Facts stored m₀ P μ Q c) E s₂ else wpAny (model prog w) A (execs orelse env) Q E s₂) E { s with heap := h, toks := tk })
    (hE : PassesOwn (model prog w) A env E) :
    wpAny (model prog w) A (exec (.While test body orelse pos) env) Q E s := by
  refine wpAny_While (codeAny_whileLoop (fun n s' => ∃ h₁ tk₁ m₁ c, s' = { s with heap := h₁, toks := tk₁ } ∧ Fr h₀ L h₁ m₁ ∧ News h₀ L h₁ (Led c) ∧ μ c = n ∧ Facts c ∧ (∀ p ∈ ps c, m₁ p.1 = some p.2) ∧ (∀ z, (∀ p ∈ ps c, z ≠ p.1) → stored.contains z = false → m₁ z = m₀ z) ∧ P c) ?_ (μ c₀)
    ⟨s.heap, s.toks, m₀, c₀, rfl, F, N, rfl, hf, hk, fun _ _ _ => rfl, hp⟩)
  rintro n s' ⟨h₁, tk₁, m₁, c, rfl, F₁, N₁, rfl, hf', h1, h2, hp'⟩
  refine wpAny_mono (turn c m₁ h₁ tk₁ hf' hp' (ksw_fr h1 h2 F₁) N₁) (fun b s₂ h₂ => ?_) hE
  cases b with
  | false =>
    simp only [Bool.false_eq_true, if_false] at h₂ ⊢
    exact wpAny_mono h₂ (fun _ _ x => x) hE
  | true =>
    simp only [if_true] at h₂ ⊢
    refine wpAny_mono h₂ (fun f s₃ q => ?_) hE
    cases f with
    | next =>
      obtain ⟨c', h', tk', m', news', rfl, F', N', hn, hf9, hk9, hr9, hp9, hm9⟩ := q
      exact ⟨μ c', hm9, h', tk', m', c', rfl, F', fun p hp => N' p (hn p hp), rfl, hf9, hk9, hr9, hp9⟩
    | cont =>
      obtain ⟨c', h', tk', m', news', rfl, F', N', hn, hf9, hk9, hr9, hp9, hm9⟩ := q
      exact ⟨μ c', hm9, h', tk', m', c', rfl, F', fun p hp => N' p (hn p hp), rfl, hf9, hk9, hr9, hp9⟩
    | brk => exact q
    | ret v => exact q
end
theorem getD_of_get {ms : List Int} {i : Nat} {v : Int} (h : ms[i]? = some v) : ms.getD i 0 = v := by
  rw [List.getD_eq_getElem?_getD, h]; rfl
theorem item_ints {prog : Program} {w : World} {A : Around} {E : Value → Shared → Prop} {s : Shared} {value slice : PySem.Expr} {l : Addr} {us : List Value} {ms : List Int} {k : Int} {u : Tok} {Q : Value → Shared → Prop}
    (hl : s.heap.IsList l us.toArray) (hi : IntsAre us ms) (h0 : 0 ≤ k) (h1 : k < (ms.length : Int)) (hhi : k < 2 ^ 63) (h : ∀ t, Q (.int (ms.getD k.toNat 0) t) s)
    (hs : subscripted slice false (.ref l) (.int k u) = operate [.ref l, .int k u] (getItem (.ref l) (.int k u)) := by with_unfolding_all rfl) :
    wpAny (model prog w) A (subscriptTail value slice (.ref l) (.int k u)) Q E s := by
  have hlt : k.toNat < ms.length := by omega
  obtain ⟨t, hx⟩ := hi.get k.toNat ms[k.toNat] (List.getElem?_eq_getElem hlt)
  refine tail_any hl.typeIs slot_list_getitem.lookup (wpAny_getItem_list hl h0 hhi (by simpa using hx) ?_) hs
  rw [← getD_of_get (List.getElem?_eq_getElem hlt)]
  exact h t
theorem frStays {h₀ h h' : Heap} {L : Addr} {m : Str → Option Value} (F : Fr h₀ L h m) (k : h.StaysIn h') : Fr h₀ L h' m :=
  ⟨F.ns.keeps k, fun b o e => k b o (F.keep b o e), F.above⟩
theorem newsStays {h₀ h h' : Heap} {L : Addr} {news : List (Addr × Obj)} (N : News h₀ L h news) (k : h.StaysIn h') : News h₀ L h' news :=
  fun p hp => ⟨k _ _ (N p hp).1, (N p hp).2⟩
theorem newsAdd {h₀ h h' : Heap} {L D : Addr} {o : Obj} {m : Str → Option Value} {news : List (Addr × Obj)} (F : Fr h₀ L h m) (N : News h₀ L h news) (k : h.StaysIn h') (hD : h'.get? D = some o) (hn : h.get? D = none) : News h₀ L h' ((D, o) :: news) := by
  intro p hp
  rcases List.mem_cons.mp hp with rfl | hp
  · refine ⟨hD, fun e => ?_, ?_⟩
    · subst e
      obtain ⟨oL, _, _, hL, _⟩ := F.ns
      rw [hL] at hn; cases hn
    · cases q : h₀.get? D with
      | none => rfl
      | some o' => rw [F.keep _ _ q] at hn; cases hn
  · exact newsStays N k p hp
def Named (_ : OpenLaw) (_ : Params → Frag) : Prop := True
theorem named : Named PySem.Challenge.rw_rs0025_01 hd.heap_39 := trivial
end Mine
end
section
namespace Mine
def Bd (p : Nat → Int) (n k : Nat) : Prop := k ≤ n ∧ ∀ j, j < k → p j = p (n - k + j)
def LB (p : Nat → Int) (n k : Nat) : Prop := k < n ∧ Bd p n k ∧ ∀ j, j < n → Bd p n j → j ≤ k
theorem bd_zero (p : Nat → Int) (n : Nat) : Bd p n 0 := ⟨Nat.zero_le _, fun _ h => absurd h (Nat.not_lt_zero _)⟩
theorem bd_self (p : Nat → Int) (n : Nat) : Bd p n n := ⟨Nat.le_refl _, fun j _ => by rw [Nat.sub_self, Nat.zero_add]⟩
theorem bd_trans {p : Nat → Int} {n k j : Nat} (h1 : Bd p n k) (h2 : Bd p k j) : Bd p n j := by
  refine ⟨Nat.le_trans h2.1 h1.1, fun i hi => ?_⟩
  have hk := h1.1; have hj := h2.1
  rw [h2.2 i hi, h1.2 (k - j + i) (by omega)]
  congr 1; omega
theorem bd_of_bd {p : Nat → Int} {n k j : Nat} (h1 : Bd p n k) (h2 : Bd p n j) (hjk : j ≤ k) : Bd p k j := by
  refine ⟨hjk, fun i hi => ?_⟩
  have hk := h1.1; have hj := h2.1
  rw [h2.2 i hi, h1.2 (k - j + i) (by omega)]
  congr 1; omega
theorem bd_succ {p : Nat → Int} {n k : Nat} : Bd p (n + 1) (k + 1) ↔ Bd p n k ∧ p k = p n := by
  constructor
  · intro h
    have hk := h.1
    refine ⟨⟨by omega, fun j hj => ?_⟩, ?_⟩
    · rw [h.2 j (by omega)]; congr 1; omega
    · rw [h.2 k (by omega)]; congr 1; omega
  · rintro ⟨h, e⟩
    have hk := h.1
    refine ⟨by omega, fun j hj => ?_⟩
    by_cases hjk : j < k
    · rw [h.2 j hjk]; congr 1; omega
    · have : j = k := by omega
      subst this; rw [e]; congr 1; omega
theorem lb_unique {p : Nat → Int} {n j k : Nat} (h1 : LB p n j) (h2 : LB p n k) : j = k :=
  Nat.le_antisymm (h2.2.2 j h1.1 h1.2.1) (h1.2.2 k h2.1 h2.2.1)
theorem lb_one (p : Nat → Int) : LB p 1 0 := ⟨by omega, bd_zero p 1, fun j hj _ => by omega⟩
def Seek (p : Nat → Int) (i idx : Nat) : Prop := idx < i ∧ Bd p i idx ∧ ∀ j, j < i → Bd p i j → idx < j → p j ≠ p i
theorem seek_start {p : Nat → Int} {i k : Nat} (h : LB p i k) : Seek p i k :=
  ⟨h.1, h.2.1, fun j hj hb hlt => absurd (h.2.2 j hj hb) (by omega)⟩
theorem seek_down {p : Nat → Int} {i idx k : Nat} (h : Seek p i idx) (hne : p i ≠ p idx) (hk : LB p idx k) : Seek p i k := by
  refine ⟨Nat.lt_trans hk.1 h.1, bd_trans h.2.1 hk.2.1, fun j hj hb hlt => ?_⟩
  rcases Nat.lt_trichotomy j idx with hj' | rfl | hj'
  · exact absurd (hk.2.2 j hj' (bd_of_bd h.2.1 hb (by omega))) (by omega)
  · exact fun e => hne e.symm
  · exact h.2.2 j hj hb hj'
theorem seek_hit {p : Nat → Int} {i idx : Nat} (h : Seek p i idx) (he : p i = p idx) : LB p (i + 1) (idx + 1) := by
  refine ⟨by have := h.1; omega, bd_succ.mpr ⟨h.2.1, he.symm⟩, fun j hj hb => ?_⟩
  cases j with
  | zero => omega
  | succ j =>
    obtain ⟨hb', e⟩ := bd_succ.mp hb
    by_cases hlt : idx < j
    · exact absurd e (h.2.2 j (by omega) hb' hlt)
    · omega
theorem seek_miss {p : Nat → Int} {i : Nat} (h : Seek p i 0) (hne : p i ≠ p 0) : LB p (i + 1) 0 := by
  refine ⟨by omega, bd_zero _ _, fun j hj hb => ?_⟩
  cases j with
  | zero => omega
  | succ j =>
    obtain ⟨hb', e⟩ := bd_succ.mp hb
    by_cases hz : j = 0
    · subst hz; exact absurd e.symm hne
    · exact absurd e (h.2.2 j (by omega) hb' (by omega))
def Tab (ns ts : List Int) (n : Nat) : Prop := ∀ j, j < n → ∃ k : Nat, ts[j]? = some (k : Int) ∧ LB (fun i => ns.getD i 0) (j + 1) k
theorem tab_succ {ns ts ts' : List Int} {n k : Nat} (h : Tab ns ts n) (he : ∀ j, j < n → ts'[j]? = ts[j]?) (hk : ts'[n]? = some (k : Int)) (hl : LB (fun i => ns.getD i 0) (n + 1) k) : Tab ns ts' (n + 1) := by
  intro j hj
  by_cases hjn : j < n
  · rw [he j hjn]; exact h j hjn
  · have : j = n := by omega
    subst this; exact ⟨k, hk, hl⟩
end Mine
end
section
open PySem PySem.W PyProof.Rows
namespace Mine
theorem modea : True := by w_top off; exact trivial
theorem gen_code {w : World} {A : Around} {s : Shared} {R : Result → Shared → Prop} {mg mb : Str → Option Value} {a : Addr} {vs : List Value} {ns : List Int}
   (X : (hd.heap_39 w.params).In s.heap) (T : TopRead topProg lo mg mb s.heap) (hh : A.handled = none) (hdp : A.depth < 900) (hun : A.units < 9000)
   (hl : s.heap.IsList a vs.toArray) (hi : IntsAre vs ns) (hlen : ns.length ≤ 8)
   (hR : ∀ D h' tk us ts, s.heap.StaysIn h' → h'.get? D = some (W.listOf us.toArray 0) → s.heap.get? D = none → IntsAre us ts → ts.length = ns.length → Tab ns ts ns.length → R (.ok (.ret (.ref D))) { s with heap := h', toks := tk }) :
   codeAny (model prg w) A (.call (.ref 70) ⟨[.ref a], []⟩) R s := by
  have kf : Named PySem.Challenge.rw_rs0025_01 hd.heap_39 := by (k_fill; exact named)
  clear kf
  refine enter (binds := [("prefix", .ref a)]) X T hdp rfl rfl (BindsTo.of_eq rfl) (locs rfl) (by decide) rfl rfl rfl ?_
  intro L h₁ tk F N
  show wpAny _ _ _ _ _ _
  k_fold
  iterate 35 (first | walk1 | (dsimp only; walk1))
  rename_i tk0 l1 _ _ D _ iz _ _ _ _ _ _ _ _ _ h₂ tk2 _ _ _ hr F N hk
  have hz : (List.replicate ((ns.length : Int)).toNat [(0:Int)]).flatten.length = ns.length := by simp
  have hzz : 0 < ns.length → (List.replicate ((ns.length : Int)).toNat [(0:Int)]).flatten[0]? = some 0 := by
    intro h0; simp [List.flatten_replicate_singleton, h0]
  generalize (List.replicate ((ns.length : Int)).toNat [Value.int 0 tk0]).flatten = us0 at *
  generalize (List.replicate ((ns.length : Int)).toNat [(0:Int)]).flatten = ts0 at *
  refine kst_range (σ := List Value × List Int) (n := ns.length - 1) (fun c => [(D, W.listOf c.1.toArray 0)]) (fun _ => []) (fun c => IntsAre c.1 c.2) [Str.ofString "idx"]
     (fun pre c => c.2.length = ns.length ∧ (ns ≠ [] → Tab ns c.2 (pre.length + 1))) (us0, ts0) hh hr ?_ ?_ F (fun p hp => N p ?_) iz (fun p hp => by cases hp) ⟨hz, fun hne => ?_⟩ ?_ ?_
  · exact small_one (by decide) (by decide) (by omega) (by omega)
  · unfold Builtin.Range.rangeSize
    rw [if_pos (by decide)]
    split <;> omega
  · simp at hp; subst hp; exact List.Mem.head _
  · intro j hj
    simp at hj
    subst hj
    refine ⟨0, ?_, lb_one _⟩
    exact hzz (List.length_pos_iff.mpr hne)
  · rintro ⟨us, ts⟩ pre k t u h tk own hk hpl hoff hf hp F N
    dsimp only at F N hf hp
    have hne : ns ≠ [] := by intro e; rw [e] at hpl; simp at hpl
    obtain ⟨hts, hTab⟩ := hp
    replace hTab := hTab hne
    iterate 11 (first | walk1 | (dsimp only; walk1))
    rename_i ti h3 F N
    obtain ⟨i0, hi0, hlb⟩ := hTab pre.length (by omega)
    have hg : ts.getD (k - 1).toNat 0 = (i0 : Int) := by
      rw [List.getD_eq_getElem?_getD, show (k-1).toNat = pre.length by omega, hi0]; rfl
    rw [hg] at F
    show wpAny _ _ _ _ _ _
    k_fold
    have fin : ∀ (kk : Nat) (v : Int) (tv : Tok) (h' : Heap) (tk' : Nat) (m' : Str → Option Value), v = (kk : Int) → LB (fun i => ns.getD i 0) (pre.length + 1 + 1) kk → Fr s.heap L h' m' →
        News s.heap L h' ((D, W.listOf (us.set k.toNat (.int v tv)).toArray 0) :: own) → IntsAre (us.set k.toNat (.int v tv)) (ts.set k.toNat v) →
        (∀ z, z ≠ Str.ofString "i" → z ≠ Str.ofString "idx" → m' z = if z = Str.ofString "table" then some (Value.ref D) else List.lookup z [(Str.ofString "prefix", Value.ref a)].reverse) →
        qk .next { s with heap := h', toks := tk' } := by
      intro kk v tv h' tk' m' hv hb F' N' I' hm
      have hkN : k.toNat = pre.length + 1 := by omega
      show wpAny _ _ _ _ _ _
      refine wpAny_execs_nil ?_
      refine kst_end (us.set k.toNat (.int v tv), ts.set k.toNat v) F' N' (fun p hp => ?_) (fun p hp => List.Mem.tail _ hp) rfl I' (fun p hp => by cases hp) (fun z hz _ hz2 => ?_) ⟨?_, fun _ => ?_⟩
      · simp at hp; subst hp; exact List.Mem.head _
      · refine hm z hz (fun e => ?_)
        subst e; cases hz2
      · simpa using hts
      · rw [List.length_append, List.length_singleton]
        refine tab_succ hTab (fun j hj => ?_) (k := kk) ?_ hb
        · show (ts.set k.toNat v)[j]? = ts[j]?
          rw [List.getElem?_set_ne (by omega)]
        · show (ts.set k.toNat v)[pre.length + 1]? = _
          rw [hkN, List.getElem?_set_self (by omega), hv]
    refine whileE (σ := Nat × Tok) (fun _ => [(D, W.listOf us.toArray 0)] ++ own) (fun c => [(Str.ofString "idx", .int c.1 c.2)]) (fun _ => True) [] (fun c => Seek (fun i => ns.getD i 0) (pre.length + 1) c.1) (fun c => c.1) (i0, ti)
      F N trivial (fun p hp => by simp at hp; subst hp; rfl) (seek_start hlb) ?_ PassesOwn.never
    rintro ⟨idx, ti⟩ u h tk - hs F N
    dsimp only [kstB] at hs F N
    have hlt := hs.1
    iterate 11 (first | walk1 | (dsimp only; walk1))
    have hkN : k.toNat = pre.length + 1 := by omega
    split
    · rename_i hcmp
      have hne' : ns.getD (pre.length + 1) 0 ≠ ns.getD idx 0 := by simpa [hkN] using hcmp
      clear hcmp
      by_cases h0 : idx = 0
      · subst h0
        iterate 17 (first | walk1 | (dsimp only; walk1))
        rename_i h4 F4 N4 I4 _ _
        refine fin 0 _ _ h4 _ _ (by simp) (seek_miss hs hne') F4 N4 I4 (fun z h1 h2 => ?_)
        simp [h1, h2]
      · obtain ⟨j0, hj0, hjb⟩ := hTab (idx - 1) (by omega)
        iterate 7 (first | walk1 | (dsimp only; walk1))
        rw [if_neg (by simp; omega)]
        iterate 13 (first | walk1 | (dsimp only; walk1))
        rename_i t4 h4 F4 N4
        have hg : ts.getD ((idx : Int) - 1).toNat 0 = (j0 : Int) := by
          rw [List.getD_eq_getElem?_getD, show ((idx : Int) - 1).toNat = idx - 1 by omega, hj0]; rfl
        rw [hg] at F4
        have e1 : idx - 1 + 1 = idx := by omega
        rw [e1] at hjb
        refine ksw_end (j0, t4) F4 N4 (fun p hp => hp) trivial (fun p hp => by simp at hp; subst hp; rfl) (fun z h1 _ => ?_) (seek_down hs hne' hjb) hjb.1
        have h2 : z ≠ Str.ofString "idx" := h1 _ (List.Mem.head _)
        simp [h2, kstB]
    · rename_i hcmp
      have he' : ns.getD (pre.length + 1) 0 = ns.getD idx 0 := by simpa [hkN] using hcmp
      clear hcmp
      iterate 10 (first | walk1 | (dsimp only; walk1))
      rename_i h4 F4 N4 I4 _ _
      refine fin (idx + 1) _ _ h4 _ _ (by simp) (seek_hit hs he') F4 N4 I4 (fun z h1 h2 => ?_)
      simp [h1, h2]
  · rintro ⟨us, ts⟩ u h tk hf ⟨hp1, hp2⟩ F N
    dsimp only at hf hp1 hp2 F N
    rw [rangeKs_length] at hp2
    dsimp only
    iterate 3 (first | walk1 | (dsimp only; walk1))
    refine hR D h tk us ts F.keep (N _ (List.Mem.head _)).1 (N _ (List.Mem.head _)).2.2 hf hp1 ?_
    by_cases hne : ns = []
    · subst hne; intro j hj; simp at hj
    · have := hp2 hne
      have h0 : 0 < ns.length := List.length_pos_iff.mpr hne
      rwa [show ns.length - 1 + 1 = ns.length by omega] at this
end Mine
end
section
open PySem PySem.W PyProof.Rows
namespace Mine
def prodL (ms ns : List Int) : Int := ns.foldl (fun a n => a * ms.getD n.toNat 0) 1
theorem prodL_nil (ms : List Int) : prodL ms [] = 1 := rfl
theorem prodL_snoc (ms ns : List Int) (n : Int) : prodL ms (ns ++ [n]) = prodL ms ns * ms.getD n.toNat 0 := by simp [prodL]
def Loads (ms : List Int) : Prop := ms.length ≤ 3 ∧ ∀ m ∈ ms, m = 1 ∨ m = 2
def Row (ms ns : List Int) : Prop := ∀ n ∈ ns, 0 ≤ n ∧ n < (ms.length : Int)
theorem loads_get {ms : List Int} (h : Loads ms) {n : Int} (h0 : 0 ≤ n) (h1 : n < (ms.length : Int)) : ms.getD n.toNat 0 = 1 ∨ ms.getD n.toNat 0 = 2 := by
  have hlt : n.toNat < ms.length := by omega
  rw [List.getD_eq_getElem?_getD, List.getElem?_eq_getElem hlt]
  exact h.2 _ (List.getElem_mem hlt)
theorem prodL_pow {ms : List Int} (h : Loads ms) : ∀ {ns : List Int}, Row ms ns → ∃ j : Nat, j ≤ ns.length ∧ prodL ms ns = 2 ^ j := by
  intro ns
  generalize hk : ns.length = k
  induction k generalizing ns with
  | zero => intro _; rw [List.length_eq_zero_iff.mp hk]; exact ⟨0, Nat.le_refl _, rfl⟩
  | succ k ih =>
    intro hr
    obtain ⟨ns', n, rfl⟩ : ∃ ns' n, ns = ns' ++ [n] := ⟨ns.dropLast, ns.getLast (by intro e; rw [e] at hk; cases hk), (List.dropLast_concat_getLast _).symm⟩
    obtain ⟨j, hj, e⟩ := ih (ns := ns') (by simpa using hk) (fun x hx => hr x (List.mem_append_left _ hx))
    obtain ⟨h0, h1⟩ := hr n (List.mem_append_right _ (List.Mem.head _))
    rw [prodL_snoc, e]
    rcases loads_get h h0 h1 with q | q
    · exact ⟨j, by omega, by rw [q]; omega⟩
    · exact ⟨j + 1, by omega, by rw [q, Int.pow_succ]⟩
theorem prodL_bound {ms ns : List Int} (h : Loads ms) (hr : Row ms ns) (hl : ns.length ≤ 8) : 1 ≤ prodL ms ns ∧ prodL ms ns ≤ 256 := by
  obtain ⟨j, hj, e⟩ := prodL_pow h hr
  rw [e]
  have hj8 : j ≤ 8 := by omega
  have : ∀ i, i ≤ 8 → 1 ≤ (2 : Int) ^ i ∧ (2 : Int) ^ i ≤ 256 := by decide
  exact this j hj8
theorem product_code {w : World} {A : Around} {s : Shared} {R : Result → Shared → Prop} {mg mb : Str → Option Value} {r l : Addr} {vs us : List Value} {ns ms : List Int}
   (X : (hd.heap_39 w.params).In s.heap) (T : TopRead topProg lo mg mb s.heap) (hh : A.handled = none) (hdp : A.depth < 900)
   (hl : s.heap.IsList r vs.toArray) (hi : IntsAre vs ns) (hl2 : s.heap.IsList l us.toArray) (hi2 : IntsAre us ms) (hlen : ns.length ≤ 8) (hm : Loads ms) (hrow : Row ms ns)
   (hR : ∀ h' tk t, s.heap.StaysIn h' → R (.ok (.ret (.int (prodL ms ns) t))) { s with heap := h', toks := tk }) :
   codeAny (model prg w) A (.call (.ref 77) ⟨[.ref r, .ref l], []⟩) R s := by
  have kf : Named PySem.Challenge.rw_rs0025_01 hd.heap_39 := by (k_fill; exact named)
  clear kf
  refine enter (binds := [("row", .ref r), ("loads", .ref l)]) X T hdp rfl rfl (BindsTo.of_eq rfl) (locs rfl) (by decide) rfl rfl rfl ?_
  intro L h₁ tk F N
  show wpAny _ _ _ _ _ _
  k_fold
  iterate 5 (first | walk1 | (dsimp only; walk1))
  rename_i h2 F N
  refine For_invV s.heap rfl rfl ?_ (hE := PassesOwn.never)
  iterate 1 (first | walk1 | (dsimp only; walk1))
  refine kst_list (σ := Int × Tok) (fun c => []) (fun c => [(Str.ofString "product", .int c.1 c.2)]) (fun _ => True) [] (fun pre c => c.1 = prodL ms pre) (1, tk) hh hl hi F N trivial (fun p hp => by simp at hp; subst hp; rfl) rfl ?_ ?_
  · rintro ⟨pr, tp⟩ pre post n t u h tk own hns hn hoff - hp F N
    dsimp only [kstB] at hp F N
    have hb := prodL_bound hm (ns := pre) (fun x hx => hrow x (by rw [hns]; exact List.mem_append_left _ hx)) (by rw [hns, List.length_append] at hlen; omega)
    rw [← hp] at hb
    obtain ⟨h0, h1⟩ := hrow n hn
    have hg := loads_get hm h0 h1
    iterate 7 (first | walk1 | (dsimp only; walk1))
    refine item_ints (stays_list F.keep hl2) hi2 h0 h1 (by have := hm.1; omega) (fun t2 => ?_)
    iterate 3 (first | walk1 | (dsimp only; walk1))
    rename_i h4 F4 N4
    refine kst_end (pr * ms.getD n.toNat 0, _) F4 N4 (fun p hp => by cases hp) (fun p hp => hp) rfl trivial (fun p hp => by simp at hp; subst hp; rfl) (fun z h1 h2 _ => ?_) (by rw [prodL_snoc, hp])
    have h2 : z ≠ Str.ofString "product" := h2 _ (List.Mem.head _)
    simp [h1, h2]
  · rintro ⟨pr, tp⟩ u h tk - hp F N
    dsimp only [kstB] at hp F N
    subst hp
    dsimp only
    iterate 3 (first | walk1 | (dsimp only; walk1))
    exact hR h tk tp F.keep
end Mine
end
section
open PySem PySem.Float64
namespace Mine
theorem V_inj {t t' : Nat} (h : V t = V t') : t = t' := by
  rcases Nat.lt_trichotomy t t' with q | q | q
  · have := V_lt q; omega
  · exact q
  · have := V_lt q; omega
theorem V_top : V (infMag - 1) = (2 ^ 53 - 1) * 2 ^ 2045 := by
  have e : infMag - 1 = 2045 * 2 ^ 52 + (2 ^ 53 - 1) := by unfold infMag; omega
  rw [e]
  exact V_at (by omega) (.inl (by omega))
theorem exact_of {r : UInt64} {neg : Bool} {W D t : Nat} (h : Right r neg W D) (hD : 0 < D) (ht : t < infMag) (hW : W = D * V t) : r = pack neg t := by
  obtain ⟨t1, hr, hle, hinf, hnear⟩ := h
  have hlt : t1 < infMag := by
    rcases Nat.lt_or_ge t1 infMag with q | q
    · exact q
    · exfalso
      have e : t1 = infMag := by omega
      have h1 := hinf.mp e
      have h2 : V t ≤ V (infMag - 1) := V_mono (by omega)
      rw [V_top] at h2
      rw [hW] at h1
      have h3 : 2 * (D * V t) ≤ D * ((2 ^ 54 - 2) * 2 ^ 2045) := by
        have : 2 * (D * V t) = D * (2 * V t) := by ac_rfl
        rw [this]
        refine Nat.mul_le_mul_left D ?_
        have : (2 ^ 54 - 2) * 2 ^ 2045 = 2 * ((2 ^ 53 - 1) * 2 ^ 2045) := by
          generalize (2 : Nat) ^ 2045 = K
          omega
        rw [this]; exact Nat.mul_le_mul_left 2 h2
      have h4 : D * ((2 ^ 54 - 2) * 2 ^ 2045) < D * ((2 ^ 54 - 1) * 2 ^ 2045) := by
        refine Nat.mul_lt_mul_of_pos_left ?_ hD
        exact Nat.mul_lt_mul_of_pos_right (by decide) (Nat.two_pow_pos _)
      omega
  have hn := (hnear hlt t).1
  rw [hW] at hn
  have h0 : dist (D * V t) (D * V t) = 0 := by unfold dist; omega
  rw [h0] at hn
  have he : D * V t = D * V t1 := by unfold dist at hn; omega
  have := V_inj (Nat.eq_of_mul_eq_mul_left hD he)
  rw [hr, this]
def fl (n : Nat) : UInt64 := ofFrac false n 256
theorem mag_of {n : Nat} (h : n < 2 ^ 53) : ∃ t, t < infMag ∧ V t = n * 2 ^ 1066 := by
  by_cases h0 : n = 0
  · exact ⟨0, by decide, by rw [h0, V_zero]; omega⟩
  · have hl : n.log2 < 53 := (Nat.log2_lt h0).mpr h
    have h1 := Nat.log2_self_le h0
    have h2 := @Nat.lt_log2_self n
    refine ⟨(1066 - (52 - n.log2)) * 2 ^ 52 + n * 2 ^ (52 - n.log2), ?_, ?_⟩
    · have : n * 2 ^ (52 - n.log2) < 2 ^ (n.log2 + 1) * 2 ^ (52 - n.log2) := Nat.mul_lt_mul_of_pos_right h2 (Nat.two_pow_pos _)
      rw [← Nat.pow_add, show n.log2 + 1 + (52 - n.log2) = 53 by omega] at this
      unfold infMag; omega
    · have ha : n * 2 ^ (52 - n.log2) < 2 ^ (n.log2 + 1) * 2 ^ (52 - n.log2) := Nat.mul_lt_mul_of_pos_right h2 (Nat.two_pow_pos _)
      rw [← Nat.pow_add, show n.log2 + 1 + (52 - n.log2) = 53 by omega] at ha
      have hb : 2 ^ n.log2 * 2 ^ (52 - n.log2) ≤ n * 2 ^ (52 - n.log2) := Nat.mul_le_mul_right _ h1
      rw [← Nat.pow_add, show n.log2 + (52 - n.log2) = 52 by omega] at hb
      rw [V_at (by omega) (.inl hb), Nat.mul_assoc, ← Nat.pow_add, show 52 - n.log2 + (1066 - (52 - n.log2)) = 1066 by omega]
theorem p1074 : (2 : Nat) ^ 1074 = 2 ^ 1066 * 256 := by rw [show (1074 : Nat) = 1066 + 8 from rfl, Nat.pow_add]
theorem fl_right (n : Nat) : Right (fl n) false (n * 2 ^ 1066) 1 := by
  refine ofFrac_right (by decide) ?_ (by decide)
  rw [p1074]; generalize (2 : Nat) ^ 1066 = K; rw [Nat.mul_one]; ac_rfl
theorem fl_of {r : UInt64} {n W D : Nat} (hn : n < 2 ^ 53) (h : Right r false W D) (hD : 0 < D) (hW : W = D * (n * 2 ^ 1066)) : r = fl n := by
  obtain ⟨t, ht, hV⟩ := mag_of hn
  rw [exact_of h hD ht (by rw [hW, hV]), exact_of (fl_right n) (by decide) ht (by rw [hV]; omega)]
theorem fl_pack {n : Nat} (hn : n < 2 ^ 53) : ∃ t, t < infMag ∧ V t = n * 2 ^ 1066 ∧ fl n = pack false t := by
  obtain ⟨t, ht, hV⟩ := mag_of hn
  exact ⟨t, ht, hV, exact_of (fl_right n) (by decide) ht (by rw [hV]; omega)⟩
theorem fl_decode {n : Nat} (hn : n < 2 ^ 53) : ∃ m e, decode (fl n) = .fin false m e ∧ m * 2 ^ (e + 1074).toNat = n * 2 ^ 1066 := by
  obtain ⟨t, ht, hV, e⟩ := fl_pack hn
  rw [e, ← hV]; exact decode_pack false ht
theorem fl_val {n : Nat} (hn : n < 2 ^ 53) : val (fl n) = (n : Int) * ((2 ^ 1066 : Nat) : Int) := by
  obtain ⟨m, e, hd, hv⟩ := fl_decode hn
  rw [val_eq hd, hv]; show ((n * 2 ^ 1066 : Nat) : Int) = _; rw [Int.natCast_mul]
theorem fl_zero : fl 0 = zero false := by decide +kernel
theorem fl_add {a b : Nat} (h : a + b < 2 ^ 53) : add (fl a) (fl b) = fl (a + b) := by
  obtain ⟨m, e, hx, _⟩ := fl_decode (n := a) (by omega)
  obtain ⟨k, f, hy, _⟩ := fl_decode (n := b) (by omega)
  have hA := add_right hx hy
  rw [fl_val (n := a) (by omega), fl_val (n := b) (by omega), ← Int.add_mul] at hA
  have hp : (0 : Int) < ((2 ^ 1066 : Nat) : Int) := Int.ofNat_lt.mpr (Nat.two_pow_pos _)
  generalize hK : (2 : Nat) ^ 1066 = K at *
  by_cases h0 : a + b = 0
  · have ha : a = 0 := by omega
    have hb : b = 0 := by omega
    subst ha hb
    rw [hA.1 (by simp)]; exact fl_zero.symm
  · have hne : ((a : Int) + b) * (K : Int) ≠ 0 := Int.mul_ne_zero (by omega) (by omega)
    have hr := hA.2 hne
    have hneg : decide (((a : Int) + b) * (K : Int) < 0) = false := by
      rw [decide_eq_false_iff_not]
      have := Int.mul_nonneg (show (0 : Int) ≤ (a : Int) + b by omega) (Int.le_of_lt hp)
      omega
    rw [hneg] at hr
    refine fl_of h hr (by decide) ?_
    have : ((a : Int) + b) * (K : Int) = (((a + b) * K : Nat) : Int) := by simp [Int.natCast_mul]
    rw [this, Int.natAbs_natCast, Nat.one_mul, hK]
theorem fl_sub {a b : Nat} (h : a < 2 ^ 53) (hba : b ≤ a) : sub (fl a) (fl b) = fl (a - b) := by
  obtain ⟨m, e, hx, _⟩ := fl_decode (n := a) (by omega)
  obtain ⟨k, f, hy, _⟩ := fl_decode (n := b) (by omega)
  have hA := sub_right hx hy
  rw [fl_val (n := a) (by omega), fl_val (n := b) (by omega), ← Int.sub_mul] at hA
  have hp : (0 : Int) < ((2 ^ 1066 : Nat) : Int) := Int.ofNat_lt.mpr (Nat.two_pow_pos _)
  generalize hK : (2 : Nat) ^ 1066 = K at *
  by_cases h0 : a = b
  · subst h0
    rw [hA.1 (by simp), Nat.sub_self]; exact fl_zero.symm
  · have hne : ((a : Int) - b) * (K : Int) ≠ 0 := Int.mul_ne_zero (by omega) (by omega)
    have hr := hA.2 hne
    have hneg : decide (((a : Int) - b) * (K : Int) < 0) = false := by
      rw [decide_eq_false_iff_not]
      have := Int.mul_nonneg (show (0 : Int) ≤ (a : Int) - b by omega) (Int.le_of_lt hp)
      omega
    rw [hneg] at hr
    refine fl_of (by omega) hr (by decide) ?_
    have : ((a : Int) - b) * (K : Int) = (((a - b) * K : Nat) : Int) := by rw [Int.natCast_mul, Int.ofNat_sub hba]
    rw [this, Int.natAbs_natCast, Nat.one_mul, hK]
theorem fl_natAbs {n : Nat} (hn : n < 2 ^ 53) : (val (fl n)).natAbs = n * 2 ^ 1066 := by
  rw [fl_val hn, ← Int.natCast_mul, Int.natAbs_natCast]
theorem fl_mul {a k : Nat} (ha : a < 2 ^ 53) (hk : 256 * k < 2 ^ 53) (h : a * k < 2 ^ 53) : mul (fl a) (fl (256 * k)) = fl (a * k) := by
  obtain ⟨m, e, hx, _⟩ := fl_decode (n := a) ha
  obtain ⟨q, f, hy, _⟩ := fl_decode (n := 256 * k) hk
  have hA := mul_right hx hy
  rw [fl_natAbs ha, fl_natAbs hk] at hA
  refine fl_of h hA (Nat.two_pow_pos _) ?_
  rw [p1074]; generalize (2 : Nat) ^ 1066 = K; ac_rfl
theorem fl_mul' {a k : Nat} (ha : a < 2 ^ 53) (hk : 256 * k < 2 ^ 53) (h : a * k < 2 ^ 53) : mul (fl (256 * k)) (fl a) = fl (a * k) := by
  obtain ⟨m, e, hx, _⟩ := fl_decode (n := a) ha
  obtain ⟨q, f, hy, _⟩ := fl_decode (n := 256 * k) hk
  have hA := mul_right hy hx
  rw [fl_natAbs ha, fl_natAbs hk] at hA
  refine fl_of h hA (Nat.two_pow_pos _) ?_
  rw [p1074]; generalize (2 : Nat) ^ 1066 = K; ac_rfl
theorem fl_div {a k : Nat} (h0 : 0 < k) (hk : 256 * k < 2 ^ 53) (h : a * k < 2 ^ 53) : div (fl (a * k)) (fl (256 * k)) = fl a := by
  have ha : a < 2 ^ 53 := Nat.lt_of_le_of_lt (Nat.le_mul_of_pos_right a h0) h
  obtain ⟨m, e, hx, _⟩ := fl_decode (n := a * k) h
  obtain ⟨q, f, hy, hq⟩ := fl_decode (n := 256 * k) hk
  have hq0 : q ≠ 0 := by
    intro e0
    rw [e0, Nat.zero_mul] at hq
    have := Nat.mul_pos (show 0 < 256 * k by omega) (Nat.two_pow_pos 1066)
    omega
  have hA := div_right hx hy hq0
  rw [fl_natAbs h, fl_natAbs hk] at hA
  refine fl_of ha hA (Nat.mul_pos (by omega) (Nat.two_pow_pos _)) ?_
  rw [p1074]; generalize (2 : Nat) ^ 1066 = K; ac_rfl
theorem fl_ofInt (i : Nat) (h : 256 * i < 2 ^ 53) : ofInt (i : Int) = fl (256 * i) := by
  have hA := ofInt_right (i : Int)
  rw [show decide ((i : Int) < 0) = false by simp, Int.natAbs_natCast] at hA
  refine fl_of h hA (by decide) ?_
  rw [p1074]; generalize (2 : Nat) ^ 1066 = K; rw [Nat.one_mul]; ac_rfl
theorem fl_ofFrac {a b n : Nat} (hb : 0 < b) (hn : n < 2 ^ 53) (h : 256 * a = n * b) : ofFrac false a b = fl n := by
  refine fl_of hn (ofFrac_right (W := n * 2 ^ 1066) (D := 1) hb ?_ (by decide)) (by decide) (by omega)
  rw [p1074]
  generalize (2 : Nat) ^ 1066 = K
  calc a * (K * 256) * 1 = 256 * a * K := by rw [Nat.mul_one]; ac_rfl
    _ = n * K * b := by rw [h]; ac_rfl
theorem compare_mul (p q : Int) (K : Int) (hK : 0 < K) : compare (p * K) (q * K) = compare p q := by
  rcases Int.lt_trichotomy p q with h | h | h
  · rw [Int.compare_eq_lt.mpr h, Int.compare_eq_lt.mpr (Int.mul_lt_mul_of_pos_right h hK)]
  · subst h; simp
  · rw [Int.compare_eq_gt.mpr h, Int.compare_eq_gt.mpr (Int.mul_lt_mul_of_pos_right h hK)]
theorem fl_cmp {a b : Nat} (ha : a < 2 ^ 53) (hb : b < 2 ^ 53) : cmp (fl a) (fl b) = some (compare (a : Int) b) := by
  obtain ⟨m, e, hx, _⟩ := fl_decode (n := a) ha
  obtain ⟨q, f, hy, _⟩ := fl_decode (n := b) hb
  rw [cmp_right hx hy, fl_val ha, fl_val hb, compare_mul _ _ _ (Int.ofNat_lt.mpr (Nat.two_pow_pos _))]
theorem fl_cmpInt {a : Nat} (ha : a < 2 ^ 53) (i : Int) : cmpInt (fl a) i = some (compare (a : Int) (256 * i)) := by
  obtain ⟨m, e, hx, _⟩ := fl_decode (n := a) ha
  rw [cmpInt_right hx, fl_val ha]
  have h1 : (2 : Int) ^ 1074 = 256 * ((2 ^ 1066 : Nat) : Int) := by
    have := congrArg (fun x : Nat => (x : Int)) p1074
    simp only [Int.natCast_mul, Int.natCast_pow] at this
    rw [Int.natCast_pow]
    show ((2 : Nat) : Int) ^ 1074 = _
    rw [this, Int.mul_comm]; rfl
  rw [h1, ← Int.mul_assoc, Int.mul_comm i 256, compare_mul _ _ _ (Int.ofNat_lt.mpr (Nat.two_pow_pos _))]
theorem fl_finite {a : Nat} (ha : a < 2 ^ 53) : isFinite (fl a) = true := by
  obtain ⟨m, e, hx, _⟩ := fl_decode (n := a) ha
  unfold isFinite; rw [hx]
theorem fl_notInf {a : Nat} (ha : a < 2 ^ 53) : isInf (fl a) = false := by
  obtain ⟨m, e, hx, _⟩ := fl_decode (n := a) ha
  unfold isInf; rw [hx]
theorem fl_notNaN {a : Nat} (ha : a < 2 ^ 53) : isNaN (fl a) = false := by
  obtain ⟨m, e, hx, _⟩ := fl_decode (n := a) ha
  unfold isNaN; rw [hx]
theorem fl_isZero {a : Nat} (ha : a < 2 ^ 53) : isZero (fl a) = decide (a = 0) := by
  obtain ⟨m, e, hx, hv⟩ := fl_decode (n := a) ha
  unfold isZero; rw [hx]
  by_cases h0 : a = 0
  · subst h0
    rw [Nat.zero_mul] at hv
    have : m = 0 := (Nat.mul_eq_zero.mp hv).resolve_right (Nat.ne_of_gt (Nat.two_pow_pos _))
    subst this; rfl
  · have : m ≠ 0 := by
      intro e0; subst e0
      rw [Nat.zero_mul] at hv
      have := Nat.mul_pos (show 0 < a by omega) (Nat.two_pow_pos 1066)
      omega
    cases m with
    | zero => exact absurd rfl this
    | succ m => simp [h0]
theorem fl_abs {a : Nat} (ha : a < 2 ^ 53) : Float64.abs (fl a) = fl a := by
  unfold Float64.abs
  rw [fl_notNaN ha]
  obtain ⟨t, ht, _, e⟩ := fl_pack ha
  have hi : infMag = 2047 * 2 ^ 52 := rfl
  rw [e, pack_toNat false (by omega)]
  simp only [Bool.false_eq_true, if_false, Nat.zero_add]
  rw [Nat.mod_eq_of_lt (by omega)]
theorem fl_fma {a k : Nat} (ha : a < 2 ^ 53) (hk : 256 * k < 2 ^ 53) (h : a * k < 2 ^ 53) : fma (fl a) (fl (256 * k)) (Float64.neg (fl (a * k))) = fl 0 := by
  obtain ⟨m, e, hx, hxv⟩ := fl_decode (n := a) ha
  obtain ⟨q, f, hy, hyv⟩ := fl_decode (n := 256 * k) hk
  obtain ⟨n, g, hz, hzv⟩ := fl_decode (n := a * k) h
  have he := decode_ge hx
  have hf := decode_ge hy
  have hg := decode_ge hz
  have hzn := neg_decode hz
  unfold fma
  rw [hx, hy, hzn, fl_zero]
  have hkey : m * q * 2 ^ (e + f - min (e + f) g).toNat = n * 2 ^ (g - min (e + f) g).toNat := by
    have hpos : 0 < 2 ^ (min (e + f) g + 2148).toNat := Nat.two_pow_pos _
    refine Nat.eq_of_mul_eq_mul_right hpos ?_
    rw [Nat.mul_assoc, Nat.mul_assoc n, ← Nat.pow_add, ← Nat.pow_add]
    have e1 : (e + f - min (e + f) g).toNat + (min (e + f) g + 2148).toNat = (e + 1074).toNat + (f + 1074).toNat := by omega
    have e2 : (g - min (e + f) g).toNat + (min (e + f) g + 2148).toNat = (g + 1074).toNat + 1074 := by omega
    rw [e1, e2, Nat.pow_add, Nat.pow_add]
    calc m * q * (2 ^ (e + 1074).toNat * 2 ^ (f + 1074).toNat) = (m * 2 ^ (e + 1074).toNat) * (q * 2 ^ (f + 1074).toNat) := by ac_rfl
      _ = (a * 2 ^ 1066) * (256 * k * 2 ^ 1066) := by rw [hxv, hyv]
      _ = (a * k * 2 ^ 1066) * 2 ^ 1074 := by rw [p1074]; generalize (2 : Nat) ^ 1066 = K; ac_rfl
      _ = n * (2 ^ (g + 1074).toNat * 2 ^ 1074) := by rw [← hzv]; ac_rfl
  have hal : align (false != false) (m * q) (e + f) (!false) n g = (((m * q * 2 ^ (e + f - min (e + f) g).toNat : Nat) : Int), -((n * 2 ^ (g - min (e + f) g).toNat : Nat) : Int), min (e + f) g) := rfl
  simp only [hal, hkey, Int.add_right_neg]
  simp
theorem fl_dlSum {a b : Nat} (h : a + b < 2 ^ 53) : Builtin.Math.dlSum (fl a) (fl b) = (fl (a + b), fl 0) := by
  unfold Builtin.Math.dlSum
  simp only [fl_add h, fl_sub (a := a + b) (b := a) (by omega) (by omega)]
  rw [show a + b - a = b by omega, fl_sub (a := a + b) (b := b) (by omega) (by omega), show a + b - b = a by omega, fl_sub (a := a) (b := a) (by omega) (by omega), fl_sub (a := b) (b := b) (by omega) (by omega), Nat.sub_self, Nat.sub_self, fl_add (by decide)]
theorem fl_tlFma {a k h : Nat} (ha : a < 2 ^ 53) (hk : 256 * k < 2 ^ 53) (hs : h + a * k < 2 ^ 53) : Builtin.Math.tlFma (fl a) (fl (256 * k)) (fl h, fl 0, fl 0) = (fl (h + a * k), fl 0, fl 0) := by
  unfold Builtin.Math.tlFma Builtin.Math.dlMul
  simp only [fl_mul ha hk (show a * k < 2 ^ 53 by omega), fl_fma ha hk (show a * k < 2 ^ 53 by omega)]
  rw [fl_dlSum hs, fl_dlSum (by decide)]
  simp only
  rw [fl_dlSum (by decide)]
  simp only
  rw [fl_add (by decide), fl_add (by decide)]
theorem fl_tlToFloat {h : Nat} (hh : h < 2 ^ 53) : Builtin.Math.tlToFloat (fl h, fl 0, fl 0) = fl h := by
  unfold Builtin.Math.tlToFloat
  simp only
  rw [fl_dlSum (by omega)]
  simp only
  rw [fl_add (by decide), fl_add (by omega)]
  simp
def PS (n : Nat) : List UInt64 := if n = 0 then [] else [fl n]
theorem fl_lt {a b : Nat} (ha : a < 2 ^ 53) (hb : b < 2 ^ 53) : Float64.lt (fl a) (fl b) = decide (a < b) := by
  unfold Float64.lt
  rw [fl_cmp ha hb]
  rcases Nat.lt_trichotomy a b with h | h | h
  · rw [Int.compare_eq_lt.mpr (by omega)]; simp [h]
  · subst h; simp
  · rw [Int.compare_eq_gt.mpr (by omega)]
    have : ¬ a < b := by omega
    simp [this]
theorem fsumAdd_PS {p x : Nat} (h : p + x < 2 ^ 53) : fsumAdd (PS p) (fl x) = ([], fl (p + x)) := by
  unfold PS
  split
  · rename_i h0; subst h0; simp [fsumAdd]
  · unfold fsumAdd
    simp only
    rw [fl_abs (a := x) (by omega), fl_abs (a := p) (by omega), fl_lt (by omega) (by omega)]
    by_cases hlt : x < p
    · simp only [hlt, decide_true, if_true]
      rw [fl_add h, fl_sub (by omega) (by omega), show p + x - p = x by omega, fl_sub (by omega) (by omega), Nat.sub_self, fl_isZero (by decide)]
      simp [fsumAdd]
    · simp only [hlt, decide_false, Bool.false_eq_true, if_false]
      rw [Nat.add_comm p x, fl_add (by omega), fl_sub (by omega) (by omega), show x + p - x = p by omega, fl_sub (by omega) (by omega), Nat.sub_self, fl_isZero (by decide)]
      simp [fsumAdd]
theorem PS_next {n : Nat} (h : n < 2 ^ 53) : (if isZero (fl n) = true then ([] : List UInt64) else [] ++ [fl n]) = PS n := by
  rw [fl_isZero h]; unfold PS
  by_cases h0 : n = 0
  · simp [h0]
  · simp [h0]
theorem fsumEnd_PS (n : Nat) : fsumEnd (PS n) = fl n := by
  unfold PS
  split
  · rename_i h; subst h; rw [fl_zero]; rfl
  · rfl
end Mine
end
section
namespace Mine
abbrev at0 (ns : List Int) : Nat → Int := fun i => ns.getD i 0
theorem bd_congr {p q : Nat → Int} {n k : Nat} (h : ∀ i, i < n → p i = q i) : Bd p n k ↔ Bd q n k := by
  constructor
  · rintro ⟨h1, h2⟩
    exact ⟨h1, fun j hj => by rw [← h j (by omega), ← h (n - k + j) (by omega)]; exact h2 j hj⟩
  · rintro ⟨h1, h2⟩
    exact ⟨h1, fun j hj => by rw [h j (by omega), h (n - k + j) (by omega)]; exact h2 j hj⟩
theorem lb_congr {p q : Nat → Int} {n k : Nat} (h : ∀ i, i < n → p i = q i) : LB p n k ↔ LB q n k := by
  unfold LB
  rw [bd_congr h]
  constructor
  · rintro ⟨h1, h2, h3⟩; exact ⟨h1, h2, fun j hj hb => h3 j hj ((bd_congr h).mpr hb)⟩
  · rintro ⟨h1, h2, h3⟩; exact ⟨h1, h2, fun j hj hb => h3 j hj ((bd_congr h).mp hb)⟩
theorem getD_take {ns : List Int} {n i : Nat} (h : i < n) : (ns.take n).getD i 0 = ns.getD i 0 := by
  rw [List.getD_eq_getElem?_getD, List.getD_eq_getElem?_getD, List.getElem?_take_of_lt h]
theorem tab_take {ns ts ts' : List Int} (hl : ts.length = ns.length) (hT : Tab ns ts ns.length) (hl' : ts'.length = (ns.take (ns.length - 1)).length) (hT' : Tab (ns.take (ns.length - 1)) ts' (ns.take (ns.length - 1)).length) : ts.take (ts.length - 1) = ts' := by
  have e1 : (ns.take (ns.length - 1)).length = ns.length - 1 := by simp
  refine List.ext_getElem? fun j => ?_
  by_cases hj : j < ns.length - 1
  · obtain ⟨k, hk, hb⟩ := hT j (by omega)
    obtain ⟨k', hk', hb'⟩ := hT' j (by omega)
    rw [List.getElem?_take_of_lt (by omega), hk, hk']
    have : LB (fun i => ns.getD i 0) (j + 1) k' := (lb_congr fun i hi => getD_take (by omega)).mp hb'
    rw [lb_unique hb this]
  · rw [List.getElem?_eq_none (by simp; omega), List.getElem?_eq_none (by omega)]
def isB (ns : List Int) (k : Nat) : Bool := decide (ns.take k = ns.drop (ns.length - k))
theorem isB_iff {ns : List Int} {k : Nat} (hk : k ≤ ns.length) : isB ns k = true ↔ Bd (at0 ns) ns.length k := by
  unfold isB
  rw [decide_eq_true_eq]
  constructor
  · intro h
    refine ⟨hk, fun j hj => ?_⟩
    have := congrArg (fun l => l.getD j 0) h
    simp only [List.getD_eq_getElem?_getD, List.getElem?_take_of_lt hj, List.getElem?_drop] at this
    show ns.getD j 0 = ns.getD (ns.length - k + j) 0
    simpa only [List.getD_eq_getElem?_getD] using this
  · rintro ⟨_, h⟩
    refine List.ext_getElem? fun j => ?_
    by_cases hj : j < k
    · rw [List.getElem?_take_of_lt hj, List.getElem?_drop]
      have := h j hj
      simp only [at0, List.getD_eq_getElem?_getD] at this
      rw [List.getElem?_eq_getElem (show j < ns.length by omega), List.getElem?_eq_getElem (show ns.length - k + j < ns.length by omega)] at this ⊢
      simpa using this
    · rw [List.getElem?_eq_none (by simp; omega), List.getElem?_eq_none (by simp; omega)]
def wt (S : Nat) (ms ns : List Int) (k : Nat) : Nat := S ^ k * (256 / (prodL ms (ns.take k)).toNat)
def wsum (S : Nat) (ms ns : List Int) : Nat → Nat
  | 0 => 0
  | k + 1 => wsum S ms ns k + if isB ns (k + 1) then wt S ms ns (k + 1) else 0
theorem wsum_flat {S : Nat} {ms ns : List Int} {j : Nat} : ∀ {k : Nat}, j ≤ k → (∀ i, j < i → i ≤ k → isB ns i = false) → wsum S ms ns k = wsum S ms ns j
  | 0, hj, _ => by rw [Nat.le_zero.mp hj]
  | k + 1, hj, h => by
    rcases Nat.lt_or_ge j (k + 1) with q | q
    · rw [wsum, h (k + 1) q (Nat.le_refl _)]
      exact wsum_flat (by omega) fun i h1 h2 => h i h1 (by omega)
    · rw [show k + 1 = j by omega]
theorem wsum_step {S : Nat} {ms ns : List Int} {j k : Nat} (hk : k ≤ ns.length) (hb : Bd (at0 ns) ns.length k) (hl : LB (at0 ns) k j) : wsum S ms ns k = wsum S ms ns j + wt S ms ns k := by
  obtain ⟨k, rfl⟩ : ∃ k', k = k' + 1 := ⟨k - 1, by have := hl.1; omega⟩
  rw [wsum, (isB_iff hk).mpr hb, if_pos rfl, wsum_flat (j := j) (by have := hl.1; omega)]
  intro i h1 h2
  cases q : isB ns i with
  | false => rfl
  | true => exact absurd (hl.2.2 i (by omega) (bd_of_bd hb ((isB_iff (by omega)).mp q) (by omega))) (by omega)
theorem wt_le {S : Nat} {ms ns : List Int} {k : Nat} (hS : S ≤ 6) (hk : k ≤ 8) : wt S ms ns k ≤ 6 ^ 8 * 256 := by
  unfold wt
  refine Nat.mul_le_mul ?_ (Nat.div_le_self _ _)
  exact Nat.le_trans (Nat.pow_le_pow_left hS k) (Nat.pow_le_pow_right (by decide) hk)
theorem wsum_le {S : Nat} {ms ns : List Int} (hS : S ≤ 6) : ∀ {k : Nat}, k ≤ 8 → wsum S ms ns k ≤ k * (6 ^ 8 * 256)
  | 0, _ => Nat.zero_le _
  | k + 1, hk => by
    have h1 := wsum_le (S := S) (ms := ms) (ns := ns) hS (show k ≤ 8 by omega)
    have h2 := wt_le (S := S) (ms := ms) (ns := ns) hS hk
    rw [wsum, Nat.add_mul]
    generalize 6 ^ 8 * 256 = C at h1 h2 ⊢
    split <;> omega
theorem take_row {ms ns : List Int} (h : Row ms ns) (k : Nat) : Row ms (ns.take k) := fun x hx => h x (List.mem_of_mem_take hx)
theorem wt_mul {S : Nat} {ms ns : List Int} {k : Nat} (hm : Loads ms) (hr : Row ms ns) (hk : k ≤ 8) : 256 * S ^ k = wt S ms ns k * (prodL ms (ns.take k)).toNat := by
  obtain ⟨j, hj, e⟩ := prodL_pow hm (take_row hr k)
  have hj8 : j ≤ 8 := by have := List.length_take_le k ns; omega
  have e2 : ((2 : Int) ^ j).toNat = 2 ^ j := by
    have : (2 : Int) ^ j = ((2 ^ j : Nat) : Int) := by simp
    rw [this, Int.toNat_natCast]
  unfold wt
  rw [e, e2, Nat.mul_assoc, Nat.div_mul_cancel (by
    have : (256 : Nat) = 2 ^ 8 := rfl
    rw [this]; exact Nat.pow_dvd_pow 2 hj8), Nat.mul_comm]
theorem sum_bounds : ∀ {ms : List Int}, (∀ m ∈ ms, m = 1 ∨ m = 2) → (ms.length : Int) ≤ ms.sum ∧ ms.sum ≤ 2 * (ms.length : Int)
  | [], _ => by simp
  | m :: r, h => by
    have ih := sum_bounds (ms := r) (fun x hx => h x (.tail _ hx))
    have h1 := h m (.head _)
    rw [List.sum_cons, List.length_cons]
    omega
theorem sum_loads {ms : List Int} (h : Loads ms) : 0 ≤ ms.sum ∧ ms.sum ≤ 6 ∧ ms.sum.toNat ≤ 6 := by
  have := sum_bounds h.2
  have := h.1
  omega
end Mine
end
section
open PySem PySem.W PyProof.Rows
namespace Mine
section
variable {w : World} {A : Around} {s : Shared} {E : Value → Shared → Prop} {Q : Value → Shared → Prop} {mg mb : Str → Option Value} {h₀ : Heap} {L : Addr} {m : Str → Option Value} {news : List (Addr × Obj)}
theorem call_gen {a : Addr} {vs : List Value} {ns : List Int} (F : Fr h₀ L s.heap m) (N : News h₀ L s.heap news) (X : (hd.heap_39 w.params).In h₀) (T : TopRead topProg lo mg mb h₀) (hh : A.handled = none) (hdp : A.depth < 900) (hun : A.units < 9000)
    (hl : s.heap.IsList a vs.toArray) (hi : IntsAre vs ns) (hlen : ns.length ≤ 8)
    (h : ∀ D h' tk us ts, Fr h₀ L h' m → News h₀ L h' ((D, W.listOf us.toArray 0) :: news) → IntsAre us ts → ts.length = ns.length → Tab ns ts ns.length → Q (.ref D) { s with heap := h', toks := tk }) :
    wpAny (model prg w) A (call (.ref 70) [.ref a] []) Q E s := by
  refine wpAny_call (gen_code (X.keeps F.keep) (T.keeps F.keep) hh hdp hun hl hi hlen ?_)
  intro D h' tk us ts k hD hn hI hle hT
  exact h D h' tk us ts (frStays F k) (newsAdd F N k hD hn) hI hle hT
theorem call_product {r l : Addr} {vs us : List Value} {ns ms : List Int} (F : Fr h₀ L s.heap m) (N : News h₀ L s.heap news) (X : (hd.heap_39 w.params).In h₀) (T : TopRead topProg lo mg mb h₀) (hh : A.handled = none) (hdp : A.depth < 900)
    (hl : s.heap.IsList r vs.toArray) (hi : IntsAre vs ns) (hl2 : s.heap.IsList l us.toArray) (hi2 : IntsAre us ms) (hlen : ns.length ≤ 8) (hm : Loads ms) (hrow : Row ms ns)
    (h : ∀ h' tk t, Fr h₀ L h' m → News h₀ L h' news → Q (.int (prodL ms ns) t) { s with heap := h', toks := tk }) :
    wpAny (model prg w) A (call (.ref 77) [.ref r, .ref l] []) Q E s := by
  refine wpAny_call (product_code (X.keeps F.keep) (T.keeps F.keep) hh hdp hl hi hl2 hi2 hlen hm hrow ?_)
  intro h' tk t k
  exact h h' tk t (frStays F k) (newsStays N k)
end
theorem range_contains (r : Addr) (a b c i : Int) (t u v ti : Tok) :
    Meets (Builtin.«range.__contains__» ⟨[.ref r, .int i ti], []⟩) (fun _ R s => s.heap.get? r = some { cls := .type "range", dict := none, data := .fields #[.int a t, .int b u, .int c v], slots := #[] } ∧ R (.ok (.ret (.bool (Builtin.Range.rangePlace? a b c i).isSome))) s) :=
  .of_wp fun prog w A R s h => by obtain ⟨hp, g, d, tk, os⟩ := s; obtain ⟨hl, h⟩ := h; wp_walk; exact ⟨_, rfl, h⟩
theorem notIn_range {prog : Program} {w : World} {A : Around} {E : Value → Shared → Prop} {s : Shared} {Q : Value → Shared → Prop} {r : Addr} {b i : Int} {t u v ti : Tok} (hr : IsRange s.heap r 0 b 1 t u v) (h0 : 0 ≤ i) (h1 : i < b)
    (h : Q (.bool false) s) : wpAny (model prog w) A (compareOp .NotIn (.int i ti) (.ref r)) Q E s := by
  refine SeqRoads2.notIn_meets ⟨_, hr, rfl⟩ F.slot_range_contains F.entry_range_contains (F.args_range_contains_2 _ _) (range_contains r 0 b 1 i t u v ti) ⟨hr, _, rfl, ?_⟩
  have : (Builtin.Range.rangePlace? 0 b 1 i).isSome = true := by unfold Builtin.Range.rangePlace?; simp [h0, h1]
  rw [this]; exact h
def WaitV (ms ns : List Int) (v : Value) : Prop :=
  (ns = [] ∧ ∃ t, v = .int 0 t) ∨ (ns ≠ [] ∧ ∃ t, v = .float (fl (wsum ms.sum.toNat ms ns ns.length)) t)
def WInv (ms ns : List Int) (c : Nat × Tok × Value × Nat) : Prop :=
  c.1 ≤ ns.length ∧ Bd (at0 ns) ns.length c.1 ∧ c.2.2.2 + wsum ms.sum.toNat ms ns c.1 = wsum ms.sum.toNat ms ns ns.length ∧
    ((c.1 = ns.length ∧ c.2.2.2 = 0 ∧ ∃ t, c.2.2.1 = .int 0 t) ∨ (c.1 < ns.length ∧ ∃ t, c.2.2.1 = .float (fl c.2.2.2) t))
theorem wait_add {prog : Program} {w : World} {A : Around} {E : Value → Shared → Prop} {s : Shared} {Q : Value → Shared → Prop} {v : Value} {acc x : Nat} {t : Tok} (hv : (acc = 0 ∧ ∃ t, v = .int 0 t) ∨ ∃ t, v = .float (fl acc) t) (hs : acc + x < 2 ^ 53)
    (h : Q (.float (fl (acc + x)) s.toks) { s with toks := s.toks + 1 }) : wpAny (model prog w) A (binaryOp .Add v (.float (fl x) t)) Q E s := by
  rcases hv with ⟨rfl, t', rfl⟩ | ⟨t', rfl⟩
  · have e : Float64.ofInt 0 = fl 0 := fl_ofInt 0 (by decide)
    refine AutoFloatOps.add_if_1 (by rw [e, fl_notInf (by decide)]; decide) ?_
    rw [e, fl_add hs]; exact h
  · refine AutoFloatOps.add_0 ?_
    rw [fl_add hs]; exact h
theorem wait_code {w : World} {A : Around} {s : Shared} {R : Result → Shared → Prop} {mg mb : Str → Option Value} {r l : Addr} {vs us : List Value} {ns ms : List Int}
   (X : (hd.heap_39 w.params).In s.heap) (T : TopRead topProg lo mg mb s.heap) (hh : A.handled = none) (hdp : A.depth < 800) (hun : A.units < 8000)
   (hl : s.heap.IsList r vs.toArray) (hi : IntsAre vs ns) (hl2 : s.heap.IsList l us.toArray) (hi2 : IntsAre us ms) (hlen : ns.length ≤ 8) (hm : Loads ms) (hrow : Row ms ns)
   (hR : ∀ h' tk v, s.heap.StaysIn h' → WaitV ms ns v → R (.ok (.ret v)) { s with heap := h', toks := tk }) :
   codeAny (model prg w) A (.call (.ref 84) ⟨[.ref r, .ref l], []⟩) R s := by
  have kf : Named PySem.Challenge.rw_rs0025_01 hd.heap_39 := by (k_fill; exact named)
  clear kf
  refine enter (binds := [("row", .ref r), ("loads", .ref l)]) X T (by omega) rfl rfl (BindsTo.of_eq rfl) (locs rfl) (by decide) rfl rfl rfl ?_
  intro L h₁ tk F N
  show wpAny _ _ _ _ _ _
  k_fold
  iterate 8 (first | walk1 | (dsimp only; walk1))
  refine ⟨X.keeps F.keep, ?_⟩
  refine call_gen F N X T hh (by show A.depth + 1 < _; omega) (by show A.units + 3 < _; omega) (stays_list F.keep hl) hi hlen ?_
  intro D h2 tk us2 ts F N it htl hT
  have hlt : ns.length = ts.length := htl.symm
  iterate 22 (first | walk1 | (dsimp only; walk1))
  rw [if_neg (by simp [htl])]
  iterate 27 (first | walk1 | (dsimp only; walk1))
  rename_i D1 ws1 _ I1 _ _ _ D2 ws2 h3 F N I2 _ _ l3
  refine ⟨X.keeps F.keep, ?_⟩
  refine call_gen F N X T hh (by show A.depth + 1 < _; omega) (by show A.units + 3 < _; omega) ⟨_, (N _ (List.Mem.head _)).1, rfl, 0, rfl⟩ I2 (by simp; omega) ?_
  intro D3 h4 tk4 us3 ts3 F N I3 htl3 hT3
  iterate 2 (first | walk1 | (dsimp only; walk1))
  rw [if_neg (by simp [tab_take htl hT htl3 hT3])]
  iterate 19 (first | walk1 | (dsimp only; walk1))
  rename_i h5 F N
  refine whileE (σ := Nat × Tok × Value × Nat) (fun _ => [(D, W.listOf us2.toArray 0)]) (fun c => [(Str.ofString "k", .int c.1 c.2.1), (Str.ofString "wait", c.2.2.1)]) (fun _ => True) [] (WInv ms ns) (fun c => c.1) (ns.length, tk4 + 1 + 1 + 1, .int 0 tk4, 0)
    F (fun p hp => N p ?_) trivial (fun p hp => ?_) ⟨Nat.le_refl _, bd_self _ _, by simp, .inl ⟨rfl, rfl, _, rfl⟩⟩ ?_ PassesOwn.never
  · simp at hp; subst hp; exact .tail _ (.tail _ (.tail _ (.head _)))
  · simp at hp; rcases hp with rfl | rfl <;> rfl
  rintro ⟨k, tk1, wv, acc⟩ u h tk - ⟨hk, hb, hacc, hv⟩ F N
  dsimp only [kstB] at hk hb hacc hv F N
  iterate 4 (first | walk1 | (dsimp only; walk1))
  · rename_i hk0
    have hk0 : 0 < k := by omega
    have htake : ns.take k = ns.drop (ns.length - k) := by simpa [isB] using (isB_iff hk).mpr hb
    obtain ⟨j, hj, hlb⟩ := hT (k - 1) (by omega)
    rw [show k - 1 + 1 = k by omega] at hlb
    iterate 31 (first | walk1 | (dsimp only; walk1))
    rw [if_neg (by simp [show ((ns.length : Int) - k).toNat = ns.length - k by omega, htake])]
    have hg : ts.getD ((k : Int) - 1).toNat 0 = (j : Int) := by
      rw [show ((k : Int) - 1).toNat = k - 1 by omega]; exact getD_of_get hj
    iterate 16 (first | walk1 | (dsimp only; walk1))
    rename_i h6 tk6 _ _ _ hr F N _
    have hjk := hlb.1
    rw [hg]
    refine notIn_range hr (by omega) (by omega) ?_
    iterate 17 (first | walk1 | (dsimp only; walk1))
    refine LSm.sum_ints F N hh (stays_list F.keep hl2) hi2 (fun h7 tk7 t7 F N => ?_)
    obtain ⟨hS0, hS6, hSn⟩ := sum_loads hm
    iterate 1 (first | walk1 | (dsimp only; walk1))
    refine pow_int_small (by omega) (by omega) (by omega) ?_
    rw [Int.toNat_natCast]
    iterate 15 (first | walk1 | (dsimp only; walk1))
    rename_i D9 ws9 h9 F N I9 _ _ _
    refine ⟨X.keeps F.keep, ?_⟩
    rw [Int.toNat_natCast] at I9
    refine call_product F N X T hh (by show A.depth + 1 < _; omega) ⟨_, (N _ (List.Mem.head _)).1, rfl, 0, rfl⟩ I9 (stays_list F.keep hl2) hi2 (by have := List.length_take_le k ns; omega) hm (take_row hrow k) (fun h10 tk10 t10 F N => ?_)
    have hpb := prodL_bound hm (take_row hrow k) (by have := List.length_take_le k ns; omega)
    have hp1 := hpb.1
    have hSk : (ms.sum ^ k).natAbs = ms.sum.toNat ^ k := by rw [Int.natAbs_pow, show ms.sum.natAbs = ms.sum.toNat by omega]
    have hS8 : ms.sum.toNat ^ k ≤ 6 ^ 8 := Nat.le_trans (Nat.pow_le_pow_left hSn k) (Nat.pow_le_pow_right (by decide) (by omega))
    have hS68 : (6 : Nat) ^ 8 = 1679616 := rfl
    refine Flt.div_ii_fits hh (by rw [hSk]; exact Nat.lt_of_le_of_lt hS8 (by decide +kernel)) (fun e => by omega) (fun _ _ => ?_)
    have hsg : (decide (ms.sum ^ k < 0) != decide (prodL ms (ns.take k) < 0)) = false := by
      have h1 : ¬ ms.sum ^ k < 0 := by
        have : ms.sum ^ k = ((ms.sum.toNat ^ k : Nat) : Int) := by rw [Int.natCast_pow, Int.toNat_of_nonneg hS0]
        omega
      have h2 : ¬ prodL ms (ns.take k) < 0 := by omega
      simp [h1, h2]
    have hwle := wt_le (ms := ms) (ns := ns) hSn (show k ≤ 8 by omega)
    have hwsl := wsum_le (ms := ms) (ns := ns) hSn hlen
    have hstep := wsum_step (S := ms.sum.toNat) (ms := ms) hk hb hlb
    have hfl : Float64.ofFrac (decide (ms.sum ^ k < 0) != decide (prodL ms (ns.take k) < 0)) (ms.sum ^ k).natAbs (prodL ms (ns.take k)).natAbs = fl (wt ms.sum.toNat ms ns k) := by
      rw [hsg, hSk, show (prodL ms (ns.take k)).natAbs = (prodL ms (ns.take k)).toNat by omega]
      refine fl_ofFrac (by omega) (by omega) ?_
      exact wt_mul hm hrow (by omega)
    rw [hfl]
    refine wait_add (acc := acc) (hv.imp (fun x => ⟨x.2.1, x.2.2⟩) (fun x => x.2)) ?_ ?_
    · have : ns.length * (6 ^ 8 * 256) ≤ 8 * (6 ^ 8 * 256) := Nat.mul_le_mul_right _ hlen
      omega
    iterate 13 (first | walk1 | (dsimp only; walk1))
    rename_i t11 h11 F N
    rw [hg] at F
    refine ksw_end (j, t11, .float (fl (acc + wt ms.sum.toNat ms ns k)) (tk10 + 1), acc + wt ms.sum.toNat ms ns k) F N (fun p hp => ?_) trivial (fun p hp => ?_) (fun z hz _ => ?_) ⟨by show j ≤ _; omega, bd_trans hb hlb.2.1, ?_, .inr ⟨?_, _, rfl⟩⟩ hjk
    · simp at hp; subst hp; exact .tail _ (.tail _ (.tail _ (.head _)))
    · simp at hp; rcases hp with rfl | rfl <;> rfl
    · have h1 : z ≠ Str.ofString "k" := hz _ (.head _)
      have h2 : z ≠ Str.ofString "wait" := hz _ (.tail _ (.head _))
      simp [h1, h2]
    · show acc + wt ms.sum.toNat ms ns k + wsum ms.sum.toNat ms ns j = _
      omega
    · show j < ns.length
      omega
  · rename_i hk0
    have hk0 : k = 0 := by omega
    subst hk0
    iterate 4 (first | walk1 | (dsimp only; walk1))
    refine hR h tk wv F.keep ?_
    rw [wsum, Nat.add_zero] at hacc
    rcases hv with ⟨e, _, hv⟩ | ⟨e, hv⟩
    · exact .inl ⟨List.length_eq_zero_iff.mp e.symm, hv⟩
    · refine .inr ⟨fun e' => ?_, ?_⟩
      · rw [e'] at e; cases e
      · rw [← hacc]; exact hv
end Mine
end
section
open PySem PySem.W PyProof.Rows PySem.Calls
namespace Mine
theorem entry_fsum : entryFor table "math.fsum" = some Builtin.«math.fsum» := entryFor_of_tree (by kernel_rfl)
theorem entry_fsum_loop : entryFor table "math.fsum.loop" = some Builtin.«math.fsum.loop» := entryFor_of_tree (by kernel_rfl)
theorem kind_fsum : builtinKind "math.fsum" = none := by decide +kernel
theorem plain_fsum : plainId "math.fsum" = true := by decide +kernel
theorem plain_fsum_loop : plainId "math.fsum.loop" = true := by decide +kernel
theorem args_fsum (a : Value) : argsOk "math.fsum" ⟨[a], []⟩ := by unfold argsOk; kernel_rfl
def NumIs (v : Value) (x : Nat) : Prop := (∃ t, v = .float (fl x) t) ∨ ∃ (i : Nat) (t : Tok), v = .int (i : Int) t ∧ x = 256 * i
inductive NumsAre : List Value → List Nat → Prop
  | nil : NumsAre [] []
  | cons {v : Value} {x : Nat} {vs : List Value} {xs : List Nat} : NumIs v x → NumsAre vs xs → NumsAre (v :: vs) (x :: xs)
theorem NumsAre.length : ∀ {vs xs}, NumsAre vs xs → vs.length = xs.length
  | _, _, .nil => rfl
  | _, _, .cons _ h => by rw [List.length_cons, List.length_cons, h.length]
theorem NumsAre.get : ∀ {vs xs}, NumsAre vs xs → ∀ {i : Nat} {x : Nat}, xs[i]? = some x → ∃ v, vs[i]? = some v ∧ NumIs v x
  | _, _, .nil, _, _, e => by cases e
  | _, _, .cons h _, 0, _, e => by simp at e; subst e; exact ⟨_, rfl, h⟩
  | _, _, .cons _ h, i + 1, _, e => by simpa using h.get (i := i) (by simpa using e)
theorem not_over {i : Nat} (h : 256 * i < 2 ^ 53) : ¬ Flt.Over (i : Int) := by
  intro ho
  have := Flt.inf_of_over ho
  rw [fl_ofInt i h, fl_notInf h] at this
  cases this
theorem realArg_num {prog : Program} {w : World} {A : Around} {E : Value → Shared → Prop} {s : Shared} {Q : UInt64 → Shared → Prop} {v : Value} {x : Nat} (hA : A.handled = none) (hv : NumIs v x) (hx : x < 2 ^ 53)
    (h : ∀ tk, Q (fl x) { s with toks := tk }) : wpAny (model prog w) A (Builtin.Math.realArg v) Q E s := by
  rcases hv with ⟨t, rfl⟩ | ⟨i, t, rfl, rfl⟩
  · exact wpAny_pure (h s.toks)
  · refine Flt.realArg_int hA (fun ho => absurd ho (not_over hx)) (fun _ => ?_)
    rw [fl_ofInt i hx]; exact h _
theorem unpack_map (xs : List UInt64) (f : Value → UInt64) (hf : ∀ i t, f (.int i t) = i.toNat.toUInt64) : (xs.map fun x => rawInt x.toNat).map f = xs := by
  induction xs with
  | nil => rfl
  | cons x xs ih =>
    simp only [List.map_cons, ih]
    congr 1
    show f (.int (x.toNat : Int) 0) = x
    rw [hf]; simp
theorem PS_len (n : Nat) (f : UInt64 → Value) : ((PS n).map f).length ≤ sizeLine := by unfold PS; split <;> simp [sizeLine]
section
variable {prog : Program} {w : World} {A : Around} {R : Result → Shared → Prop}
theorem fsum_loop {it l sp : Addr} {vs : List Value} {xs : List Nat} {osp : Obj} {nsp : Nat} (hA : A.handled = none) (hxs : NumsAre vs xs) :
    ∀ (n i : Nat) (p : Nat) (tp : Addr) (otp : Obj) (ntp : Nat) (s : Shared), n + i = xs.length → p + (xs.drop i).sum < 2 ^ 53 →
      s.heap.IsListIter it l i → s.heap.IsList l vs.toArray → s.heap.get? tp = some otp → otp.data = .seq ((PS p).map fun x => rawInt x.toNat).toArray ntp →
      s.heap.get? sp = some osp → osp.data = .seq ([Float64.zero false, Float64.zero false].map fun x => rawInt x.toNat).toArray nsp →
      it ≠ l → it ≠ sp →
      (∀ h' tk t, (∀ b o, b ≠ it → s.heap.get? b = some o → h'.get? b = some o) → R (.ok (.ret (.float (fl (p + (xs.drop i).sum)) t))) { s with heap := h', toks := tk }) →
      codeAny (model prog w) A (.builtin "math.fsum.loop" ⟨[.ref it, .ref tp, .ref sp], []⟩) R s := by
  intro n
  induction n with
  | zero =>
    intro i p tp otp ntp s hn hs hit hl htp htd hsp hsd hil his hR
    refine codeAny_builtin entry_fsum_loop ?_
    rw [Around.under_plainId plain_fsum_loop]
    unfold Builtin.«math.fsum.loop»
    refine wpAny_bind (wpAny_bind (wpAny_seqItems htp htd (wpAny_pure ?_)))
    refine wpAny_bind (wpAny_bind (wpAny_seqItems hsp hsd (wpAny_pure ?_)))
    simp only [Option.getD_some, List.toList_toArray]
    rw [unpack_map _ _ (fun _ _ => rfl), unpack_map _ _ (fun _ _ => rfl)]
    refine wpAny_bind (wpAny_pyNext_list_end (A := A.in1) hA hit hl ?_ (fun h' he => ?_))
    · rw [List.getElem?_toArray]; exact List.getElem?_eq_none (by rw [hxs.length]; omega)
    · dsimp only
      have hz : Float64.isZero (Float64.zero false) = true := by decide +kernel
      rw [hz]
      simp only [Bool.not_true, Bool.false_eq_true, if_false]
      refine wpAny_bind (wpAny_mkFloat (wpAny_pure ?_))
      rw [fsumEnd_PS]
      have e : (xs.drop i).sum = 0 := by rw [List.drop_of_length_le (by omega)]; rfl
      rw [e, Nat.add_zero] at hR
      exact hR h' _ _ (fun b o hb eb => he b o hb eb)
  | succ n ih =>
    intro i p tp otp ntp s hn hs hit hl htp htd hsp hsd hil his hR
    have hi : i < xs.length := by omega
    obtain ⟨v, hv, hnum⟩ := hxs.get (List.getElem?_eq_getElem hi)
    have hsum : (xs.drop i).sum = xs[i] + (xs.drop (i + 1)).sum := by rw [List.drop_eq_getElem_cons hi, List.sum_cons]
    refine codeAny_builtin entry_fsum_loop ?_
    rw [Around.under_plainId plain_fsum_loop]
    unfold Builtin.«math.fsum.loop»
    refine wpAny_bind (wpAny_bind (wpAny_seqItems htp htd (wpAny_pure ?_)))
    refine wpAny_bind (wpAny_bind (wpAny_seqItems hsp hsd (wpAny_pure ?_)))
    simp only [Option.getD_some, List.toList_toArray]
    rw [unpack_map _ _ (fun _ _ => rfl), unpack_map _ _ (fun _ _ => rfl)]
    refine wpAny_bind (wpAny_pyNext_list_item (A := A.in1) hit hl (x := v) (by rw [List.getElem?_toArray]; exact hv) (fun h' hit' hsb => ?_))
    dsimp only
    refine wpAny_bind (wpAny_holding (realArg_num (A := A.in1) hA hnum (by omega) (fun tk => ?_)))
    rw [fsumAdd_PS (by omega)]
    dsimp only
    rw [fl_finite (by omega)]
    simp only [if_true]
    rw [PS_next (by omega)]
    refine wpAny_bind (wpAny_newTuple ?_ (PS_len _ _))
    have hk : ∀ b o, b ≠ it → s.heap.get? b = some o → h'.get? b = some o := fun b o hb e => (hsb.2 b hb).trans e
    refine wpAny_pure ⟨plainId_quiet plain_fsum_loop _, ?_⟩
    refine ih (i + 1) (p + xs[i]) h'.objs.size _ 0 _ (by omega) (by omega) ?_ ?_ (Heap.get?_push_size _ rfl) rfl ?_ hsd hil his ?_
    · obtain ⟨o, ho, r⟩ := hit'; exact ⟨o, Heap.get?_push_of_some _ ho, r⟩
    · obtain ⟨o, ho, r⟩ := hl; exact ⟨o, Heap.get?_push_of_some _ (hk _ _ (Ne.symm hil) ho), r⟩
    · exact Heap.get?_push_of_some _ (hk _ _ (Ne.symm his) hsp)
    · intro h'' tk' t hkk
      rw [Nat.add_assoc, ← hsum]
      exact hR h'' tk' t fun b o hb e => hkk b o hb (Heap.get?_push_of_some _ (hk b o hb e))
theorem call_fsum {E Q : Value → Shared → Prop} {s : Shared} {l : Addr} {vs : List Value} {xs : List Nat} (hA : A.handled = none) (hl : s.heap.IsList l vs.toArray) (hxs : NumsAre vs xs) (hs : xs.sum < 2 ^ 53)
    (h : ∀ h' tk t, s.heap.StaysIn h' → Q (.float (fl xs.sum) t) { s with heap := h', toks := tk }) : wpAny (model prog w) A (call (.builtin "math.fsum") [.ref l]) Q E s := by
  have hlt : l < s.heap.objs.size := by obtain ⟨o, ho, _⟩ := hl; exact Heap.lt_size ho
  refine call_function_meets (S := fun A' R' s' => A' = A ∧ s' = s ∧ R' = wants Q E) kind_fsum plain_fsum entry_fsum (args_fsum _) ?_ ⟨rfl, rfl, rfl⟩
  rintro prog w A' R' s' ⟨rfl, rfl, rfl⟩
  unfold Builtin.«math.fsum»
  refine wpAny_bind (m := Builtin.Math.mathOne "fsum" _) (wpAny_pure ?_)
  refine wpAny_bind (wpAny_pyIter_list hl ?_)
  refine wpAny_bind (wpAny_newTuple ?_ (by simp [sizeLine]))
  refine wpAny_bind (wpAny_newTuple ?_ (by simp [sizeLine]))
  refine wpAny_pure ⟨plainId_quiet plain_fsum_loop _, ?_⟩
  refine fsum_loop hA hxs xs.length 0 0 _ _ 0 _ (by omega) (by simpa using hs) (it := s'.heap.objs.size) (l := l) ⟨_, Heap.get?_push_of_some _ (Heap.get?_push_of_some _ (Heap.get?_push_size _ rfl)), rfl, rfl⟩
    (((hl.push _).push _).push _) (Heap.get?_push_of_some _ (Heap.get?_push_size _ rfl)) rfl (Heap.get?_push_size _ rfl) rfl (Nat.ne_of_gt hlt) ?_ ?_
  · show s'.heap.objs.size ≠ _
    intro e
    have h1 := Heap.lt_size (Heap.get?_push_of_some { cls := .type "tuple", data := .seq #[] } (Heap.get?_push_size s'.heap (o := { cls := .type "list_iterator", data := .fields #[.ref l, .int 0 0] }) rfl))
    exact absurd (e ▸ h1) (Nat.lt_irrefl _)
  · intro h' tk t hk
    rw [List.drop_zero, Nat.zero_add]
    refine h h' tk t fun b o e => hk b o (Nat.ne_of_lt (Heap.lt_size e)) (Heap.get?_push_of_some _ (Heap.get?_push_of_some _ (Heap.get?_push_of_some _ e)))
end
end Mine
end
section
open PySem PySem.W PyProof.Rows PySem.Calls
namespace Mine
theorem entry_sumprod : entryFor table "math.sumprod" = some Builtin.«math.sumprod» := entryFor_of_tree (by kernel_rfl)
theorem entry_sumprod_loop : entryFor table "math.sumprod.loop" = some Builtin.«math.sumprod.loop» := entryFor_of_tree (by kernel_rfl)
theorem kind_sumprod : builtinKind "math.sumprod" = none := by decide +kernel
theorem plain_sumprod : plainId "math.sumprod" = true := by decide +kernel
theorem plain_sumprod_loop : plainId "math.sumprod.loop" = true := by decide +kernel
theorem args_sumprod (a b : Value) : argsOk "math.sumprod" ⟨[a, b], []⟩ := by unfold argsOk; kernel_rfl
inductive FlsAre : List Value → List Nat → Prop
  | nil : FlsAre [] []
  | cons {x : Nat} {t : Tok} {vs : List Value} {xs : List Nat} : FlsAre vs xs → FlsAre (.float (fl x) t :: vs) (x :: xs)
theorem FlsAre.length : ∀ {vs xs}, FlsAre vs xs → vs.length = xs.length
  | _, _, .nil => rfl
  | _, _, .cons h => by rw [List.length_cons, List.length_cons, h.length]
theorem FlsAre.get : ∀ {vs xs}, FlsAre vs xs → ∀ {i : Nat} {x : Nat}, xs[i]? = some x → ∃ t, vs[i]? = some (.float (fl x) t)
  | _, _, .nil, _, _, e => by cases e
  | _, _, .cons h, 0, _, e => by simp at e; subst e; exact ⟨_, rfl⟩
  | _, _, .cons h, i + 1, _, e => by simpa using h.get (i := i) (by simpa using e)
theorem FlsAre.nums : ∀ {vs xs}, FlsAre vs xs → NumsAre vs xs
  | _, _, .nil => .nil
  | _, _, .cons h => .cons (.inl ⟨_, rfl⟩) h.nums
def dot : List Nat → List Nat → Nat
  | x :: xs, k :: ks => x * k + dot xs ks
  | _, _ => 0
theorem size_push (h : Heap) (o : Obj) : (h.push o).objs.size = h.objs.size + 1 := by obtain ⟨objs, l⟩ := h; simp [Heap.push]
abbrev three (h : Nat) : Array Value := #[rawInt (fl h).toNat, rawInt (fl 0).toNat, rawInt (fl 0).toNat]
section
variable {prog : Program} {w : World} {A : Around} {R : Result → Shared → Prop}
theorem sumprod_loopF {pi qi a b : Addr} {vs us : List Value} {xs ks : List Nat} {tt : Tok} (hA : A.handled = none) (hxs : FlsAre vs xs) (hks : IntsAre us (ks.map fun k : Nat => (k : Int))) (hlen : xs.length = ks.length) :
    ∀ (n i h : Nat) (io fu : Bool) (ft : Addr) (oft : Obj) (nft : Nat) (s : Shared), n + i = xs.length → (n = 0 → fu = true) → h + dot (xs.drop i) (ks.drop i) < 2 ^ 53 → (∀ k ∈ ks, 256 * k < 2 ^ 53) → (∀ x ∈ xs, x < 2 ^ 53) →
      s.heap.IsListIter pi a i → s.heap.IsList a vs.toArray → s.heap.IsListIter qi b i → s.heap.IsList b us.toArray → s.heap.get? ft = some oft → oft.data = .seq (three h) nft →
      pi ≠ a → pi ≠ b → qi ≠ a → qi ≠ b → pi ≠ qi → ft ≠ pi → ft ≠ qi →
      (∀ h' tk t, (∀ b o, b ≠ pi → b ≠ qi → s.heap.get? b = some o → h'.get? b = some o) → R (.ok (.ret (.float (fl (h + dot (xs.drop i) (ks.drop i))) t))) { s with heap := h', toks := tk }) →
      codeAny (model prog w) A (.builtin "math.sumprod.loop" ⟨[.ref pi, .ref qi, .int 0 tt, .bool io, rawInt 0, .bool false, .bool true, .ref ft, .bool fu], []⟩) R s := by
  intro n
  induction n with
  | zero =>
    intro i h io fu ft oft nft s hn hfu hs hk hx hpi ha hqi hb hft hfd n1 n2 n3 n4 n5 n6 n7 hR
    have hfu := hfu rfl
    subst hfu
    refine codeAny_builtin entry_sumprod_loop ?_
    rw [Around.under_plainId plain_sumprod_loop]
    unfold Builtin.«math.sumprod.loop»
    refine wpAny_bind (wpAny_seqItems hft hfd ?_)
    dsimp only [Option.getD_some]
    refine wpAny_bind (wpAny_pyNext_list_end (A := A.in1) hA hpi ha ?_ (fun h1 he1 => ?_))
    · rw [List.getElem?_toArray]; exact List.getElem?_eq_none (by rw [hxs.length]; omega)
    have hqi' : h1.IsListIter qi b i := by obtain ⟨o, ho, r⟩ := hqi; exact ⟨o, he1 qi o (Ne.symm n5) ho, r⟩
    have hb' : h1.IsList b us.toArray := by obtain ⟨o, ho, r⟩ := hb; exact ⟨o, he1 b o (Ne.symm n2) ho, r⟩
    refine wpAny_bind (wpAny_holding (wpAny_pyNext_list_end (A := A.in1) hA hqi' hb' ?_ (fun h2 he2 => ?_)))
    · rw [List.getElem?_toArray]; exact List.getElem?_eq_none (by rw [hks.length, List.length_map]; omega)
    have e0 : dot (xs.drop i) (ks.drop i) = 0 := by rw [List.drop_of_length_le (by omega)]; rfl
    rw [e0, Nat.add_zero] at hR hs
    have hres : wpAny (model prog w) A.in1 (binaryOp .Add (.int 0 tt) (.float (Builtin.Math.tlToFloat (fl h, fl 0, fl 0)) s.toks)) (fun total s' => wpAny (model prog w) A.in1 (ret total)
        (fun fin s' => match fin with | .done f => R (.ok f) s' | .again c' => c'.quiet = true ∧ codeAny (model prog w) A c' R s') (fun e s' => R (.error e) s') s') (fun e s' => R (.error e) s') { s with heap := h2, toks := s.toks + 1 } := by
      rw [fl_tlToFloat (by omega)]
      have e : Float64.ofInt 0 = fl 0 := fl_ofInt 0 (by decide)
      refine AutoFloatOps.add_if_1 (by rw [e, fl_notInf (by decide)]; decide) ?_
      rw [e, fl_add (by omega), Nat.zero_add]
      refine wpAny_pure ?_
      exact hR h2 _ _ fun b o hb1 hb2 eb => he2 b o hb2 (he1 b o hb1 eb)
    have hthree : ∀ x : UInt64, ((x.toNat : Int)).toNat.toUInt64 = x := fun x => by simp
    cases io
    · simp only [Option.isSome_none, bne_self_eq_false, Bool.false_eq_true, if_false, if_true, hthree]
      refine wpAny_bind (wpAny_rule ?_)
      refine wpAny_bind (wpAny_mkFloat ?_)
      exact wpAny_bind (wpAny_holding hres)
    · simp only [Option.isSome_none, bne_self_eq_false, Bool.false_eq_true, if_false, if_true, hthree]
      refine wpAny_bind (wpAny_rule ?_)
      refine wpAny_bind (wpAny_rule ?_)
      refine wpAny_bind (wpAny_mkFloat ?_)
      exact wpAny_bind (wpAny_holding hres)
  | succ n ih =>
    intro i h io fu ft oft nft s hn hfu hs hk hx hpi ha hqi hb hft hfd n1 n2 n3 n4 n5 n6 n7 hR
    have hi : i < xs.length := by omega
    have hi2 : i < ks.length := by omega
    obtain ⟨t1, hv⟩ := hxs.get (List.getElem?_eq_getElem hi)
    obtain ⟨t2, hu⟩ := hks.get i (ks[i] : Int) (by rw [List.getElem?_map, List.getElem?_eq_getElem hi2]; rfl)
    have hdot : dot (xs.drop i) (ks.drop i) = xs[i] * ks[i] + dot (xs.drop (i + 1)) (ks.drop (i + 1)) := by
      rw [List.drop_eq_getElem_cons hi, List.drop_eq_getElem_cons hi2, dot]
    refine codeAny_builtin entry_sumprod_loop ?_
    rw [Around.under_plainId plain_sumprod_loop]
    unfold Builtin.«math.sumprod.loop»
    refine wpAny_bind (wpAny_seqItems hft hfd ?_)
    dsimp only [Option.getD_some]
    refine wpAny_bind (wpAny_pyNext_list_item (A := A.in1) hpi ha (x := .float (fl xs[i]) t1) (by rw [List.getElem?_toArray]; exact hv) (fun h1 hpi1 he1 => ?_))
    have hqi' : h1.IsListIter qi b i := by obtain ⟨o, ho, r⟩ := hqi; exact ⟨o, (he1.2 qi (Ne.symm n5)).trans ho, r⟩
    have hb' : h1.IsList b us.toArray := by obtain ⟨o, ho, r⟩ := hb; exact ⟨o, (he1.2 b (Ne.symm n2)).trans ho, r⟩
    refine wpAny_bind (wpAny_holding (wpAny_pyNext_list_item (A := A.in1) hqi' hb' (x := .int (ks[i] : Int) t2) (by rw [List.getElem?_toArray]; exact hu) (fun h2 hqi2 he2 => ?_)))
    have hthree : ∀ x : UInt64, ((x.toNat : Int)).toNat.toUInt64 = x := fun x => by simp
    have hk1 : 256 * ks[i] < 2 ^ 53 := hk _ (List.getElem_mem _)
    have hx1 : xs[i] < 2 ^ 53 := hx _ (List.getElem_mem _)
    have hnext : wpAny (model prog w) A.in1 (do
        let t ← newTuple [rawInt (fl (h + xs[i] * ks[i])).toNat, rawInt (fl 0).toNat, rawInt (fl 0).toNat]
        again (.builtin "math.sumprod.loop" ⟨[.ref pi, .ref qi, .int 0 tt, .bool false, rawInt 0, .bool false, .bool true, t, .bool true], []⟩))
        (fun fin s' => match fin with | .done f => R (.ok f) s' | .again c' => c'.quiet = true ∧ codeAny (model prog w) A c' R s') (fun e s' => R (.error e) s') { s with heap := h2 } := by
      have hkk : ∀ b o, b ≠ pi → b ≠ qi → s.heap.get? b = some o → h2.get? b = some o := fun b o q1 q2 e => (he2.2 b q2).trans ((he1.2 b q1).trans e)
      refine wpAny_bind (wpAny_newTuple ?_ (by simp [sizeLine]))
      refine wpAny_pure ⟨plainId_quiet plain_sumprod_loop _, ?_⟩
      have hp2 : pi < h2.objs.size := by obtain ⟨o, ho, _⟩ := hpi1; exact Heap.lt_size ((he2.2 pi n5).trans ho)
      have hq2 : qi < h2.objs.size := by obtain ⟨o, ho, _⟩ := hqi2; exact Heap.lt_size ho
      refine ih (i + 1) (h + xs[i] * ks[i]) false true h2.objs.size { cls := .type "tuple", data := .seq (three (h + xs[i] * ks[i])) 0 } 0 _ (by omega) (fun _ => rfl) (by omega) hk hx ?_ ?_ ?_ ?_ ?_ rfl n1 n2 n3 n4 n5 (Nat.ne_of_gt hp2) (Nat.ne_of_gt hq2) ?_
      · obtain ⟨o, ho, r⟩ := hpi1; exact ⟨o, Heap.get?_push_of_some _ ((he2.2 pi n5).trans ho), r⟩
      · obtain ⟨o, ho, r⟩ := ha; exact ⟨o, Heap.get?_push_of_some _ (hkk _ _ (Ne.symm n1) (Ne.symm n3) ho), r⟩
      · obtain ⟨o, ho, r⟩ := hqi2; exact ⟨o, Heap.get?_push_of_some _ ho, r⟩
      · obtain ⟨o, ho, r⟩ := hb; exact ⟨o, Heap.get?_push_of_some _ (hkk _ _ (Ne.symm n2) (Ne.symm n4) ho), r⟩
      · exact Heap.get?_push_size _ rfl
      · intro h' tk t hk2
        rw [Nat.add_assoc, ← hdot]
        exact hR h' tk t fun b o q1 q2 e => hk2 b o q1 q2 (Heap.get?_push_of_some _ (hkk b o q1 q2 e))
    have hfma := fl_tlFma (a := xs[i]) (k := ks[i]) (h := h) hx1 hk1 (by omega)
    have hni : ¬ Float64.isInf (Float64.ofInt (ks[i] : Int)) = true := by rw [fl_ofInt _ hk1, fl_notInf hk1]; decide
    have hfin := fl_finite (a := h + xs[i] * ks[i]) (by omega)
    cases io
    · simp only [Option.isSome_some, bne_self_eq_false, Bool.false_eq_true, if_false, if_true, hthree, Bool.true_or, if_neg hni]
      rw [fl_ofInt _ hk1, hfma]
      simp only [hfin, if_true]
      exact hnext
    · simp only [Option.isSome_some, bne_self_eq_false, Bool.false_eq_true, if_false, if_true, hthree, Bool.true_or, if_neg hni]
      refine wpAny_bind (wpAny_rule ?_)
      rw [fl_ofInt _ hk1, hfma]
      simp only [hfin, if_true]
      exact hnext
theorem call_sumprodF {E Q : Value → Shared → Prop} {s : Shared} {a b : Addr} {vs us : List Value} {xs ks : List Nat} (hA : A.handled = none) (ha : s.heap.IsList a vs.toArray) (hb : s.heap.IsList b us.toArray) (hxs : FlsAre vs xs) (hks : IntsAre us (ks.map fun k : Nat => (k : Int)))
    (hlen : xs.length = ks.length) (h0 : xs ≠ []) (hs : dot xs ks < 2 ^ 53) (hk : ∀ k ∈ ks, 256 * k < 2 ^ 53) (hx : ∀ x ∈ xs, x < 2 ^ 53)
    (h : ∀ h' tk t, s.heap.StaysIn h' → Q (.float (fl (dot xs ks)) t) { s with heap := h', toks := tk }) : wpAny (model prog w) A (call (.builtin "math.sumprod") [.ref a, .ref b]) Q E s := by
  have hla : a < s.heap.objs.size := by obtain ⟨o, ho, _⟩ := ha; exact Heap.lt_size ho
  have hlb : b < s.heap.objs.size := by obtain ⟨o, ho, _⟩ := hb; exact Heap.lt_size ho
  refine call_function_meets (S := fun A' R' s' => A' = A ∧ s' = s ∧ R' = wants Q E) kind_sumprod plain_sumprod entry_sumprod (args_sumprod _ _) ?_ ⟨rfl, rfl, rfl⟩
  rintro prog w A' R' s' ⟨rfl, rfl, rfl⟩
  unfold Builtin.«math.sumprod»
  refine wpAny_bind (m := Builtin.Math.mathSome "sumprod" 2 2 _) (wpAny_pure ?_)
  refine wpAny_bind (wpAny_pyIter_list ha ?_)
  refine wpAny_bind (wpAny_holding (wpAny_pyIter_list (hb.push _) ?_))
  refine wpAny_bind (wpAny_mkInt ?_)
  refine wpAny_bind (wpAny_newTuple ?_ (by simp [sizeLine]))
  refine wpAny_pure ⟨plainId_quiet plain_sumprod_loop _, ?_⟩
  have e3 : three 0 = #[rawInt (Float64.zero false).toNat, rawInt (Float64.zero false).toNat, rawInt (Float64.zero false).toNat] := by unfold three; rw [fl_zero]
  refine sumprod_loopF (pi := s'.heap.objs.size) (a := a) (b := b) hA hxs hks hlen xs.length 0 0 true false _ { cls := .type "tuple", data := .seq #[rawInt (Float64.zero false).toNat, rawInt (Float64.zero false).toNat, rawInt (Float64.zero false).toNat] 0 } 0 _ (by omega) (fun e => absurd (List.length_eq_zero_iff.mp e) h0) (by simpa using hs) hk hx ?_ ?_ ?_ ?_ ?_ (by rw [e3]) ?_ ?_ ?_ ?_ ?_ ?_ ?_ ?_
  · exact ⟨_, Heap.get?_push_of_some _ (Heap.get?_push_of_some _ (Heap.get?_push_size _ rfl)), rfl, rfl⟩
  · exact (((ha.push _).push _).push _)
  · exact ⟨_, Heap.get?_push_of_some _ (Heap.get?_push_size _ rfl), rfl, rfl⟩
  · exact (((hb.push _).push _).push _)
  · exact Heap.get?_push_size _ rfl
  · exact Nat.ne_of_gt hla
  · exact Nat.ne_of_gt hlb
  · show (s'.heap.push _).objs.size ≠ a
    rw [size_push]; exact Nat.ne_of_gt (Nat.lt_succ_of_lt hla)
  · show (s'.heap.push _).objs.size ≠ b
    rw [size_push]; exact Nat.ne_of_gt (Nat.lt_succ_of_lt hlb)
  · show s'.heap.objs.size ≠ (s'.heap.push _).objs.size
    rw [size_push]; exact Nat.ne_of_lt (Nat.lt_succ_self _)
  · show ((s'.heap.push _).push _).objs.size ≠ s'.heap.objs.size
    rw [size_push, size_push]; exact Nat.ne_of_gt (Nat.lt_succ_of_lt (Nat.lt_succ_self _))
  · show ((s'.heap.push _).push _).objs.size ≠ (s'.heap.push _).objs.size
    rw [size_push, size_push]; exact Nat.ne_of_gt (Nat.lt_succ_self _)
  · intro h' tk t hk'
    rw [List.drop_zero, List.drop_zero, Nat.zero_add]
    refine h h' tk t fun b' o e => hk' b' o (Nat.ne_of_lt (Heap.lt_size e)) ?_ (Heap.get?_push_of_some _ (Heap.get?_push_of_some _ (Heap.get?_push_of_some _ e)))
    show b' ≠ (s'.heap.push _).objs.size
    rw [size_push]; exact Nat.ne_of_lt (Nat.lt_succ_of_lt (Heap.lt_size e))
end
end Mine
end
section
open PySem PySem.W PyProof.Rows PySem.Calls
namespace Mine
section
variable {prog : Program} {w : World} {A : Around} {R : Result → Shared → Prop}
theorem sumprod_loopI {pi qi a b ft : Addr} {vs us : List Value} {as : List Int} {oft : Obj} {nft : Nat} {tt : Tok} (hA : A.handled = none) (hvs : IntsAre vs as) (hus : IntsAre us (as.map fun _ => (0 : Int))) (hsm : ∀ x ∈ as, 0 ≤ x ∧ x ≤ 2) (hfd : oft.data = .seq (three 0) nft) :
    ∀ (n i : Nat) (iu : Bool) (s : Shared), n + i = as.length →
      s.heap.IsListIter pi a i → s.heap.IsList a vs.toArray → s.heap.IsListIter qi b i → s.heap.IsList b us.toArray → s.heap.get? ft = some oft →
      pi ≠ a → pi ≠ b → qi ≠ a → qi ≠ b → pi ≠ qi → ft ≠ pi → ft ≠ qi →
      (∀ h' tk t, (∀ b o, b ≠ pi → b ≠ qi → s.heap.get? b = some o → h'.get? b = some o) → R (.ok (.ret (.int 0 t))) { s with heap := h', toks := tk }) →
      codeAny (model prog w) A (.builtin "math.sumprod.loop" ⟨[.ref pi, .ref qi, .int 0 tt, .bool true, rawInt 0, .bool iu, .bool true, .ref ft, .bool false], []⟩) R s := by
  intro n
  induction n with
  | zero =>
    intro i iu s hn hpi ha hqi hb hft n1 n2 n3 n4 n5 n6 n7 hR
    refine codeAny_builtin entry_sumprod_loop ?_
    rw [Around.under_plainId plain_sumprod_loop]
    unfold Builtin.«math.sumprod.loop»
    refine wpAny_bind (wpAny_seqItems hft hfd ?_)
    dsimp only [Option.getD_some]
    refine wpAny_bind (wpAny_pyNext_list_end (A := A.in1) hA hpi ha ?_ (fun h1 he1 => ?_))
    · rw [List.getElem?_toArray]; exact List.getElem?_eq_none (by rw [hvs.length]; omega)
    have hqi' : h1.IsListIter qi b i := by obtain ⟨o, ho, r⟩ := hqi; exact ⟨o, he1 qi o (Ne.symm n5) ho, r⟩
    have hb' : h1.IsList b us.toArray := by obtain ⟨o, ho, r⟩ := hb; exact ⟨o, he1 b o (Ne.symm n2) ho, r⟩
    refine wpAny_bind (wpAny_holding (wpAny_pyNext_list_end (A := A.in1) hA hqi' hb' ?_ (fun h2 he2 => ?_)))
    · rw [List.getElem?_toArray]; exact List.getElem?_eq_none (by rw [hus.length, List.length_map]; omega)
    have hkeep : ∀ b o, b ≠ pi → b ≠ qi → s.heap.get? b = some o → h2.get? b = some o := fun b o hb1 hb2 eb => he2 b o hb2 (he1 b o hb1 eb)
    cases iu
    · simp only [Option.isSome_none, bne_self_eq_false, Bool.false_eq_true, if_false, if_true]
      refine wpAny_bind (wpAny_rule ?_)
      refine wpAny_bind (wpAny_rule ?_)
      exact wpAny_pure (hR h2 _ _ hkeep)
    · simp only [Option.isSome_none, bne_self_eq_false, Bool.false_eq_true, if_false, if_true]
      refine wpAny_bind (wpAny_rule ?_)
      refine wpAny_bind (wpAny_mkInt ?_)
      refine wpAny_bind (wpAny_holding (add_int ?_))
      refine wpAny_bind (wpAny_rule ?_)
      exact wpAny_pure (hR h2 _ _ hkeep)
  | succ n ih =>
    intro i iu s hn hpi ha hqi hb hft n1 n2 n3 n4 n5 n6 n7 hR
    have hi : i < as.length := by omega
    obtain ⟨t1, hv⟩ := hvs.get i as[i] (List.getElem?_eq_getElem hi)
    obtain ⟨t2, hu⟩ := hus.get i 0 (by rw [List.getElem?_map, List.getElem?_eq_getElem hi]; rfl)
    refine codeAny_builtin entry_sumprod_loop ?_
    rw [Around.under_plainId plain_sumprod_loop]
    unfold Builtin.«math.sumprod.loop»
    refine wpAny_bind (wpAny_seqItems hft hfd ?_)
    dsimp only [Option.getD_some]
    refine wpAny_bind (wpAny_pyNext_list_item (A := A.in1) hpi ha (x := .int as[i] t1) (by rw [List.getElem?_toArray]; exact hv) (fun h1 hpi1 he1 => ?_))
    have hqi' : h1.IsListIter qi b i := by obtain ⟨o, ho, r⟩ := hqi; exact ⟨o, (he1.2 qi (Ne.symm n5)).trans ho, r⟩
    have hb' : h1.IsList b us.toArray := by obtain ⟨o, ho, r⟩ := hb; exact ⟨o, (he1.2 b (Ne.symm n2)).trans ho, r⟩
    refine wpAny_bind (wpAny_holding (wpAny_pyNext_list_item (A := A.in1) hqi' hb' (x := .int 0 t2) (by rw [List.getElem?_toArray]; exact hu) (fun h2 hqi2 he2 => ?_)))
    have hkk : ∀ b o, b ≠ pi → b ≠ qi → s.heap.get? b = some o → h2.get? b = some o := fun b o q1 q2 e => (he2.2 b q2).trans ((he1.2 b q1).trans e)
    have hb1 := hsm _ (List.getElem_mem hi)
    have hfit : (decide (-(2 : Int) ^ 63 ≤ as[i]) && decide (as[i] ≤ Builtin.Math.maxSsize) && (decide (-(2 : Int) ^ 63 ≤ 0) && decide ((0 : Int) ≤ Builtin.Math.maxSsize)) && (decide (-(2 : Int) ^ 63 ≤ as[i] * 0) && decide (as[i] * 0 ≤ Builtin.Math.maxSsize)) && (decide (-(2 : Int) ^ 63 ≤ 0 + as[i] * 0) && decide (0 + as[i] * 0 ≤ Builtin.Math.maxSsize))) = true := by
      have hm : Builtin.Math.maxSsize = 2 ^ 63 - 1 := rfl
      rw [hm]
      simp
      omega
    simp only [Option.isSome_some, bne_self_eq_false, Bool.false_eq_true, if_false, if_true, hfit]
    refine wpAny_pure ⟨plainId_quiet plain_sumprod_loop _, ?_⟩
    rw [Int.mul_zero, Int.add_zero]
    refine ih (i + 1) true _ (by omega) ?_ ?_ ?_ ?_ ?_ n1 n2 n3 n4 n5 n6 n7 ?_
    · obtain ⟨o, ho, r⟩ := hpi1; exact ⟨o, (he2.2 pi n5).trans ho, r⟩
    · obtain ⟨o, ho, r⟩ := ha; exact ⟨o, hkk _ _ (Ne.symm n1) (Ne.symm n3) ho, r⟩
    · exact hqi2
    · obtain ⟨o, ho, r⟩ := hb; exact ⟨o, hkk _ _ (Ne.symm n2) (Ne.symm n4) ho, r⟩
    · exact hkk _ _ n6 n7 hft
    · intro h' tk t hk2
      exact hR h' tk t fun b o q1 q2 e => hk2 b o q1 q2 (hkk b o q1 q2 e)
theorem call_sumprodI {E Q : Value → Shared → Prop} {s : Shared} {a b : Addr} {vs us : List Value} {as : List Int} (hA : A.handled = none) (ha : s.heap.IsList a vs.toArray) (hb : s.heap.IsList b us.toArray) (hvs : IntsAre vs as) (hus : IntsAre us (as.map fun _ => (0 : Int)))
    (hsm : ∀ x ∈ as, 0 ≤ x ∧ x ≤ 2)
    (h : ∀ h' tk t, s.heap.StaysIn h' → Q (.int 0 t) { s with heap := h', toks := tk }) : wpAny (model prog w) A (call (.builtin "math.sumprod") [.ref a, .ref b]) Q E s := by
  have hla : a < s.heap.objs.size := by obtain ⟨o, ho, _⟩ := ha; exact Heap.lt_size ho
  have hlb : b < s.heap.objs.size := by obtain ⟨o, ho, _⟩ := hb; exact Heap.lt_size ho
  refine call_function_meets (S := fun A' R' s' => A' = A ∧ s' = s ∧ R' = wants Q E) kind_sumprod plain_sumprod entry_sumprod (args_sumprod _ _) ?_ ⟨rfl, rfl, rfl⟩
  rintro prog w A' R' s' ⟨rfl, rfl, rfl⟩
  unfold Builtin.«math.sumprod»
  refine wpAny_bind (m := Builtin.Math.mathSome "sumprod" 2 2 _) (wpAny_pure ?_)
  refine wpAny_bind (wpAny_pyIter_list ha ?_)
  refine wpAny_bind (wpAny_holding (wpAny_pyIter_list (hb.push _) ?_))
  refine wpAny_bind (wpAny_mkInt ?_)
  refine wpAny_bind (wpAny_newTuple ?_ (by simp [sizeLine]))
  refine wpAny_pure ⟨plainId_quiet plain_sumprod_loop _, ?_⟩
  have e3 : three 0 = #[rawInt (Float64.zero false).toNat, rawInt (Float64.zero false).toNat, rawInt (Float64.zero false).toNat] := by unfold three; rw [fl_zero]
  refine sumprod_loopI (pi := s'.heap.objs.size) (a := a) (b := b) (oft := { cls := .type "tuple", data := .seq #[rawInt (Float64.zero false).toNat, rawInt (Float64.zero false).toNat, rawInt (Float64.zero false).toNat] 0 }) (nft := 0) hA hvs hus hsm (by rw [e3]) as.length 0 false _ (by omega) ?_ ?_ ?_ ?_ ?_ ?_ ?_ ?_ ?_ ?_ ?_ ?_ ?_
  · exact ⟨_, Heap.get?_push_of_some _ (Heap.get?_push_of_some _ (Heap.get?_push_size _ rfl)), rfl, rfl⟩
  · exact (((ha.push _).push _).push _)
  · exact ⟨_, Heap.get?_push_of_some _ (Heap.get?_push_size _ rfl), rfl, rfl⟩
  · exact (((hb.push _).push _).push _)
  · exact Heap.get?_push_size _ rfl
  · exact Nat.ne_of_gt hla
  · exact Nat.ne_of_gt hlb
  · show (s'.heap.push _).objs.size ≠ a
    rw [size_push]; exact Nat.ne_of_gt (Nat.lt_succ_of_lt hla)
  · show (s'.heap.push _).objs.size ≠ b
    rw [size_push]; exact Nat.ne_of_gt (Nat.lt_succ_of_lt hlb)
  · show s'.heap.objs.size ≠ (s'.heap.push _).objs.size
    rw [size_push]; exact Nat.ne_of_lt (Nat.lt_succ_self _)
  · show ((s'.heap.push _).push _).objs.size ≠ s'.heap.objs.size
    rw [size_push, size_push]; exact Nat.ne_of_gt (Nat.lt_succ_of_lt (Nat.lt_succ_self _))
  · show ((s'.heap.push _).push _).objs.size ≠ (s'.heap.push _).objs.size
    rw [size_push, size_push]; exact Nat.ne_of_gt (Nat.lt_succ_self _)
  · intro h' tk t hk'
    refine h h' tk t fun b' o e => hk' b' o (Nat.ne_of_lt (Heap.lt_size e)) ?_ (Heap.get?_push_of_some _ (Heap.get?_push_of_some _ (Heap.get?_push_of_some _ e)))
    show b' ≠ (s'.heap.push _).objs.size
    rw [size_push]; exact Nat.ne_of_lt (Nat.lt_succ_of_lt (Heap.lt_size e))
end
end Mine
end
section
open PySem PySem.W PyProof.Rows
namespace Mine
theorem fmean_none {w : World} {A : Around} {s : Shared} {R : Result → Shared → Prop} {mg mb : Str → Option Value} {d : Addr} {vs : List Value} {xs : List Nat} {q : Nat}
   (X : (hd.heap_39 w.params).In s.heap) (T : TopRead topProg lo mg mb s.heap) (hh : A.handled = none) (hdp : A.depth < 900)
   (hl : s.heap.IsList d vs.toArray) (hx : FlsAre vs xs) (h0 : 0 < xs.length) (hs : xs.sum < 2 ^ 53) (hn : 256 * xs.length < 2 ^ 53) (hq : xs.sum = q * xs.length)
   (hR : ∀ h' tk t, s.heap.StaysIn h' → R (.ok (.ret (.float (fl q) t))) { s with heap := h', toks := tk }) :
   codeAny (model prg w) A (.call (.ref 63) ⟨[.ref d, .none], []⟩) R s := by
  have kf : Named PySem.Challenge.rw_rs0025_01 hd.heap_39 := by (k_fill; exact named)
  clear kf
  refine enterC (binds := [("data", .ref d), ("weights", .none)]) X T hdp rfl rfl ?_ rfl (by decide +kernel) rfl rfl rfl ?_
  · first | exact BindsTo.of_eq rfl | exact binds_K X rfl (by k_is) rfl rfl rfl
  intro L h₁ tk cells F N Y
  k_cells Y
  show wpAny _ _ _ _ _ _
  k_fold
  iterate 9 (first | walk1 | (dsimp only; walk1))
  refine wpAny_Try_except ?_
  iterate 8 (first | walk1 | (dsimp only; walk1))
  refine len_list (stays_list F.keep hl) (by simp [hx.length]; omega) ?_
  iterate 12 (first | walk1 | (dsimp only; walk1))
  rename_i h2 o2 F N hc
  refine call_fsum hh (stays_list F.keep hl) hx.nums hs (fun h3 tk3 t3 k3 => ?_)
  replace F := frStays F k3
  replace N := newsStays N k3
  clear k3
  have hvl : (vs.toArray.size : Int) = (xs.length : Int) := by simp [hx.length]
  rw [hvl] at hc
  iterate 8 (first | walk1 | (dsimp only; walk1))
  have e1 : (!((xs.length : Int) != 0)) = false := by simp [bne, beq_eq_false_iff_ne.mpr (show (xs.length : Int) ≠ 0 by omega)]
  rw [if_neg (by rw [e1]; decide)]
  iterate 6 (first | walk1 | (dsimp only; walk1))
  rename_i h4 F N
  refine Flt.truediv_fi hh (fun ho => absurd ho (not_over hn)) (fun e => absurd e (by omega)) (fun _ _ => ?_)
  rw [fl_ofInt _ hn, hq, fl_div h0 hn (by omega)]
  exact hR h4 _ _ F.keep
theorem ints_nums : ∀ {us : List Value} {ks : List Nat}, IntsAre us (ks.map fun k : Nat => (k : Int)) → NumsAre us (ks.map fun k => 256 * k)
  | [], [], _ => .nil
  | _ :: _, _ :: _, .cons _ _ h => .cons (.inr ⟨_, _, rfl, rfl⟩) (ints_nums h)
theorem sum_mul256 : ∀ ks : List Nat, (ks.map fun k => 256 * k).sum = 256 * ks.sum
  | [] => rfl
  | k :: r => by rw [List.map_cons, List.sum_cons, List.sum_cons, sum_mul256 r, Nat.mul_add]
theorem isi_list_tuple {a : Addr} : AnswersAll (fun s => s.TypeIs (.ref a) "list") (.ref a) [.type "list", .type "tuple"] [true, false] :=
  ⟨Answers.of_true F.isi_meta_list F.sub_list_list, Answers.of_false_list (by decide +kernel) F.isi_meta_tuple F.sub_list_tuple, trivial⟩
theorem fmean_w {w : World} {A : Around} {s : Shared} {R : Result → Shared → Prop} {mg mb : Str → Option Value} {d wl : Addr} {vs us : List Value} {xs ks : List Nat} {q : Nat}
   (X : (hd.heap_39 w.params).In s.heap) (T : TopRead topProg lo mg mb s.heap) (hh : A.handled = none) (hdp : A.depth < 900)
   (hl : s.heap.IsList d vs.toArray) (hx : FlsAre vs xs) (hl2 : s.heap.IsList wl us.toArray) (hk : IntsAre us (ks.map fun k : Nat => (k : Int))) (hlen : xs.length = ks.length) (h0 : xs ≠ []) (hk0 : 0 < ks.sum) (hs : dot xs ks < 2 ^ 53) (hks : 256 * ks.sum < 2 ^ 53)
   (hkb : ∀ k ∈ ks, 256 * k < 2 ^ 53) (hxb : ∀ x ∈ xs, x < 2 ^ 53) (hq : dot xs ks = q * ks.sum)
   (hR : ∀ h' tk t, s.heap.StaysIn h' → R (.ok (.ret (.float (fl q) t))) { s with heap := h', toks := tk }) :
   codeAny (model prg w) A (.call (.ref 63) ⟨[.ref d, .ref wl], []⟩) R s := by
  have kf : Named PySem.Challenge.rw_rs0025_01 hd.heap_39 := by (k_fill; exact named)
  clear kf
  refine enterC (binds := [("data", .ref d), ("weights", .ref wl)]) X T hdp rfl rfl ?_ rfl (by decide +kernel) rfl rfl rfl ?_
  · first | exact BindsTo.of_eq rfl | exact binds_K X rfl (by k_is) rfl rfl rfl
  intro L h₁ tk cells F N Y
  k_cells Y
  show wpAny _ _ _ _ _ _
  k_fold
  iterate 27 (first | walk1 | (dsimp only; walk1))
  rename_i T9 h2 F N l9
  refine IsiPair.tupleOf isi_list_tuple (stays_list F.keep hl2).typeIs (N _ (List.Mem.head _)).1 (fun tk2 => ?_)
  iterate 4 (first | walk1 | (dsimp only; walk1))
  refine wpAny_Try_except ?_
  iterate 10 (first | walk1 | (dsimp only; walk1))
  refine call_sumprodF hh (stays_list F.keep hl) (stays_list F.keep hl2) hx hk hlen h0 hs hkb hxb (fun h3 tk3 t3 k3 => ?_)
  replace F := frStays F k3
  replace N := newsStays N k3
  clear k3
  iterate 12 (first | walk1 | (dsimp only; walk1))
  rename_i h4 F N
  have hsk : (ks.map fun k => 256 * k).sum = 256 * ks.sum := sum_mul256 ks
  refine call_fsum hh (stays_list F.keep hl2) (ints_nums hk) (by rw [hsk]; exact hks) (fun h5 tk5 t5 k5 => ?_)
  rw [hsk]
  replace F := frStays F k5
  replace N := newsStays N k5
  clear k5
  iterate 8 (first | walk1 | (dsimp only; walk1))
  have hz : Float64.isZero (fl (256 * ks.sum)) = false := by rw [fl_isZero hks]; simp; omega
  rw [if_neg (by rw [hz]; decide)]
  iterate 6 (first | walk1 | (dsimp only; walk1))
  rename_i h6 F N
  refine AutoFloatOps.truediv_1 (by rw [hz]; decide) ?_
  rw [hq, fl_div hk0 hks (by omega)]
  exact hR h6 _ _ F.keep
end Mine
end
section
open PySem PySem.W PyProof.Rows
namespace Mine
theorem mean_none {w : World} {A : Around} {s : Shared} {R : Result → Shared → Prop} {mg mb : Str → Option Value} {d : Addr} {vs : List Value} {xs : List Nat} {q : Nat}
   (X : (hd.heap_39 w.params).In s.heap) (T : TopRead topProg lo mg mb s.heap) (hh : A.handled = none) (hdp : A.depth < 800)
   (hl : s.heap.IsList d vs.toArray) (hx : FlsAre vs xs) (h0 : 0 < xs.length) (hs : xs.sum < 2 ^ 53) (hn : 256 * xs.length < 2 ^ 53) (hq : xs.sum = q * xs.length)
   (hR : ∀ h' tk t, s.heap.StaysIn h' → R (.ok (.ret (.float (fl q) t))) { s with heap := h', toks := tk }) :
   codeAny (model prg w) A (.call (.ref 91) ⟨[.ref d, .none], []⟩) R s := by
  have kf : Named PySem.Challenge.rw_rs0025_01 hd.heap_39 := by (k_fill; exact named)
  clear kf
  refine enter (binds := [("waits", .ref d), ("weights", .none)]) X T (by omega) rfl rfl (BindsTo.of_eq rfl) (locs rfl) (by decide) rfl rfl rfl ?_
  intro L h₁ tk F N
  show wpAny _ _ _ _ _ _
  k_fold
  iterate 1 (first | walk1 | (dsimp only; walk1))
  refine wpAny_Try_except ?_
  iterate 10 (first | walk1 | (dsimp only; walk1))
  refine ⟨X.keeps F.keep, ?_⟩
  refine wpAny_call (fmean_none (X.keeps F.keep) (T.keeps F.keep) hh (by show A.depth + 1 < _; omega) (stays_list F.keep hl) hx h0 hs hn hq (fun h2 tk2 t2 k2 => ?_))
  exact hR h2 tk2 t2 (fun b o e => k2 b o (F.keep b o e))
theorem mean_w {w : World} {A : Around} {s : Shared} {R : Result → Shared → Prop} {mg mb : Str → Option Value} {d wl : Addr} {vs us : List Value} {xs ks : List Nat} {q : Nat}
   (X : (hd.heap_39 w.params).In s.heap) (T : TopRead topProg lo mg mb s.heap) (hh : A.handled = none) (hdp : A.depth < 800)
   (hl : s.heap.IsList d vs.toArray) (hx : FlsAre vs xs) (hl2 : s.heap.IsList wl us.toArray) (hk : IntsAre us (ks.map fun k : Nat => (k : Int))) (hlen : xs.length = ks.length) (h0 : xs ≠ []) (hk0 : 0 < ks.sum) (hs : dot xs ks < 2 ^ 53) (hks : 256 * ks.sum < 2 ^ 53)
   (hkb : ∀ k ∈ ks, 256 * k < 2 ^ 53) (hxb : ∀ x ∈ xs, x < 2 ^ 53) (hq : dot xs ks = q * ks.sum)
   (hR : ∀ h' tk t, s.heap.StaysIn h' → R (.ok (.ret (.float (fl q) t))) { s with heap := h', toks := tk }) :
   codeAny (model prg w) A (.call (.ref 91) ⟨[.ref d, .ref wl], []⟩) R s := by
  have kf : Named PySem.Challenge.rw_rs0025_01 hd.heap_39 := by (k_fill; exact named)
  clear kf
  refine enter (binds := [("waits", .ref d), ("weights", .ref wl)]) X T (by omega) rfl rfl (BindsTo.of_eq rfl) (locs rfl) (by decide) rfl rfl rfl ?_
  intro L h₁ tk F N
  show wpAny _ _ _ _ _ _
  k_fold
  iterate 1 (first | walk1 | (dsimp only; walk1))
  refine wpAny_Try_except ?_
  iterate 10 (first | walk1 | (dsimp only; walk1))
  refine ⟨X.keeps F.keep, ?_⟩
  refine wpAny_call (fmean_w (X.keeps F.keep) (T.keeps F.keep) hh (by show A.depth + 1 < _; omega) (stays_list F.keep hl) hx (stays_list F.keep hl2) hk hlen h0 hk0 hs hks hkb hxb hq (fun h2 tk2 t2 k2 => ?_))
  exact hR h2 tk2 t2 (fun b o e => k2 b o (F.keep b o e))
end Mine
end
section
open PySem PySem.W PyProof.Rows PySem.Calls
namespace Mine
section
variable {prog : Program} {w : World} {A : Around} {R : Result → Shared → Prop} {s : Shared}
abbrev two (elt : PySem.Expr) (x : Str) (px : Pos) (iter₁ : PySem.Expr) (y : Str) (py : Pos) (iter₂ : PySem.Expr) (scope : Scope) (pos : Pos) : PySem.Expr :=
  .ListComp elt [⟨.Name x px, iter₁, [], 0⟩, ⟨.Name y py, iter₂, [], 0⟩] scope pos
theorem compTurn_two0 (elt : PySem.Expr) (x : Str) (px : Pos) (iter₁ : PySem.Expr) (y : Str) (py : Pos) (iter₂ : PySem.Expr) (scope : Scope) (pos : Pos) (it acc : Value) (env : Env) :
    compTurn (two elt x px iter₁ y py iter₂ scope pos) 0 it acc env = (standAt iter₁.pos >>= fun _ => pyNext it >>= fun r => match r with
      | none => pure (.done .next)
      | some v => letOwnedTupleGo (.Name x px) it v >>= fun _ => assign (.Name x px) env v >>= fun _ =>
        eval iter₂ env >>= fun x' => standAt iter₂.pos >>= fun _ => foldedSetIterable iter₂ env x' >>= fun x'' => holding [x''] (pyIter x'') >>= fun it2 =>
          runOwn (.compStart (two elt x px iter₁ y py iter₂ scope pos) 1 it2 acc env) env >>= fun _ =>
          again (.compLoop (two elt x px iter₁ y py iter₂ scope pos) 0 it acc env)) := by rfl
theorem compTurn_two1 (elt : PySem.Expr) (x : Str) (px : Pos) (iter₁ : PySem.Expr) (y : Str) (py : Pos) (iter₂ : PySem.Expr) (scope : Scope) (pos : Pos) (it acc : Value) (env : Env) :
    compTurn (two elt x px iter₁ y py iter₂ scope pos) 1 it acc env = (standAt iter₂.pos >>= fun _ => pyNext it >>= fun r => match r with
      | none => pure (.done .next)
      | some v => letOwnedTupleGo (.Name y py) it v >>= fun _ => assign (.Name y py) env v >>= fun _ =>
        (eval elt env >>= fun x' => call (.builtin "list.append") [acc, x'] >>= fun _ => pure ()) >>= fun _ =>
          again (.compLoop (two elt x px iter₁ y py iter₂ scope pos) 1 it acc env)) := by rfl
theorem codeAny_two0 {elt : PySem.Expr} {x : Str} {px : Pos} {iter₁ : PySem.Expr} {y : Str} {py : Pos} {iter₂ : PySem.Expr} {scope : Scope} {pos : Pos} {it acc : Value} {env : Env} (I : Nat → Shared → Prop)
    (hs : ∀ v, foldedSetIterable iter₂ env v = pure v)
    (turn : ∀ n s, I n s → wpAny (model prog w) A (pyNext it) (fun r s₁ => match r with
      | none => R (.ok .next) s₁
      | some v => wpAny (model prog w) A (assign (.Name x px) env v) (fun _ s₂ => wpAny (model prog w) A (eval iter₂ env) (fun xv s₃ => wpAny (model prog w) A (pyIter xv) (fun it2 s₄ =>
          codeAny (model prog w) A (.compStart (two elt x px iter₁ y py iter₂ scope pos) 1 it2 acc env) (fun r s' => match r with
            | .ok _ => ∃ m, m < n ∧ I m s'
            | .error e => cameBackBy (model prog w) A env (notedBy (model prog w) A env fun e s' => R (.error e) s') e s') s₄)
          (notedBy (model prog w) A env fun e s' => R (.error e) s') s₃) (notedBy (model prog w) A env fun e s' => R (.error e) s') s₂)
          (notedBy (model prog w) A env fun e s' => R (.error e) s') s₁) (notedBy (model prog w) A env fun e s' => R (.error e) s') s)
    (n : Nat) (h : I n s) :
    codeAny (model prog w) A (.compLoop (two elt x px iter₁ y py iter₂ scope pos) 0 it acc env) R s := by
  refine codeAny_loop rfl I (fun n s hI => ?_) n h
  show wpAny _ _ ((compTurn (two elt x px iter₁ y py iter₂ scope pos) 0 it acc env).onRaise (fun x => do noteFrame x env; theTreesLotGoes x)) _ _ s
  refine wpAny_noted ?_
  rw [compTurn_two0]
  refine wpAny_bind (wpAny_standAt (wpAny_bind (wpAny_mono (turn n s hI) (fun r s₁ h₁ => ?_) fun _ _ h' => h')))
  cases r with
  | none => exact wpAny_pure h₁
  | some v =>
    refine wpAny_bind (wpAny_of_eq (by rfl) ?_)
    refine wpAny_bind (wpAny_mono h₁ (fun _ s₂ h₂ => wpAny_bind (wpAny_mono h₂ (fun xv s₃ h₃ => ?_) fun _ _ h' => h')) fun _ _ h' => h')
    refine wpAny_bind (wpAny_standAt (wpAny_bind (wpAny_of_eq (hs xv) (wpAny_bind (wpAny_holding (wpAny_mono h₃ (fun it2 s₄ h₄ => ?_) fun _ _ h' => h'))))))
    refine wpAny_bind (wpAny_runOwn (codeAny_mono h₄ fun r s' hr => ?_))
    cases r with
    | ok f => exact wpAny_pure ⟨rfl, hr⟩
    | error e => exact hr
theorem codeAny_two1 {elt : PySem.Expr} {x : Str} {px : Pos} {iter₁ : PySem.Expr} {y : Str} {py : Pos} {iter₂ : PySem.Expr} {scope : Scope} {pos : Pos} {it acc : Value} {env : Env} (I : Nat → Shared → Prop)
    (turn : ∀ n s, I n s → wpAny (model prog w) A (pyNext it) (fun r s₁ => match r with
      | none => R (.ok .next) s₁
      | some v => wpAny (model prog w) A (assign (.Name y py) env v) (fun _ s₂ => wpAny (model prog w) A (eval elt env) (fun xv s₃ =>
          wpAny (model prog w) A (call (.builtin "list.append") [acc, xv]) (fun _ s₄ => ∃ m, m < n ∧ I m s₄)
          (notedBy (model prog w) A env fun e s' => R (.error e) s') s₃) (notedBy (model prog w) A env fun e s' => R (.error e) s') s₂)
          (notedBy (model prog w) A env fun e s' => R (.error e) s') s₁) (notedBy (model prog w) A env fun e s' => R (.error e) s') s)
    (n : Nat) (h : I n s) :
    codeAny (model prog w) A (.compLoop (two elt x px iter₁ y py iter₂ scope pos) 1 it acc env) R s := by
  refine codeAny_loop rfl I (fun n s hI => ?_) n h
  show wpAny _ _ ((compTurn (two elt x px iter₁ y py iter₂ scope pos) 1 it acc env).onRaise (fun x => do noteFrame x env; theTreesLotGoes x)) _ _ s
  refine wpAny_noted ?_
  rw [compTurn_two1]
  refine wpAny_bind (wpAny_standAt (wpAny_bind (wpAny_mono (turn n s hI) (fun r s₁ h₁ => ?_) fun _ _ h' => h')))
  cases r with
  | none => exact wpAny_pure h₁
  | some v =>
    refine wpAny_bind (wpAny_of_eq (by rfl) ?_)
    exact wpAny_bind (wpAny_mono h₁ (fun _ s₂ h₂ => wpAny_bind (wpAny_bind (wpAny_mono h₂ (fun x s₃ h₃ => wpAny_bind (wpAny_mono h₃
      (fun _ s₄ h₄ => wpAny_pure (wpAny_pure ⟨rfl, h₄⟩)) fun _ _ h' => h')) fun _ _ h' => h'))) fun _ _ h' => h')
theorem codeAny_compStart_two1 {elt : PySem.Expr} {x : Str} {px : Pos} {iter₁ : PySem.Expr} {y : Str} {py : Pos} {iter₂ : PySem.Expr} {scope : Scope} {pos : Pos} {it acc : Value} {env : Env}
    (h0 : codeAny (model prog w) A (.compLoop (two elt x px iter₁ y py iter₂ scope pos) 1 it acc env) R s)
    (h : wpAny (model prog w) A (pyIter it) (fun it' s' => codeAny (model prog w) A (.compLoop (two elt x px iter₁ y py iter₂ scope pos) 1 it' acc env) R s')
      (notedBy (model prog w) A env fun x s' => R (.error x) s') s) :
    codeAny (model prog w) A (.compStart (two elt x px iter₁ y py iter₂ scope pos) 1 it acc env) R s := by
  refine codeAny_of_tree ?_
  show wpAny _ _ ((compStart (two elt x px iter₁ y py iter₂ scope pos) 1 it acc env).onRaise (fun x => do noteFrame x env; standAt theWindowsPlace)) _ _ s
  refine wpAny_notedAt ?_
  unfold compStart
  show wpAny _ _ (ask >>= _) _ _ s
  refine wpAny_bind (wpAny_askSetting (wpAny_ite ?_))
  split
  · first
      | exact wpAny_bind (wpAny_pure (wpAny_pure (And.intro rfl h0)))
      | exact wpAny_pure (And.intro rfl h0)
  · first
      | exact wpAny_bind (wpAny_rule (wpAny_bind (wpAny_standAt (wpAny_bind (wpAny_mono h (fun it' s' h' => wpAny_pure (And.intro rfl h')) fun _ _ x => x)))))
      | (refine wpAny_bind (wpAny_rule ?_); show wpAny _ _ (standAt iter₂.pos >>= _) _ _ s; exact wpAny_bind (wpAny_standAt (wpAny_bind (wpAny_mono h (fun it' s' h' => wpAny_pure (And.intro rfl h')) fun _ _ x => x))))
end
theorem news_set {h₀ h h' : Heap} {L a : Addr} {o' : Obj} {led led' : List (Addr × Obj)} (N : News h₀ L h led) (hs : Heap.SameBut a h h') (ho : h'.get? a = some o') (ha : ∃ o, (a, o) ∈ led)
    (hsub : ∀ p ∈ led', p = (a, o') ∨ (p ∈ led ∧ p.1 ≠ a)) : News h₀ L h' led' := by
  intro p hp
  rcases hsub p hp with rfl | ⟨hm, hne⟩
  · obtain ⟨o, hm⟩ := ha
    exact ⟨ho, (N _ hm).2⟩
  · exact ⟨(hs.2 _ hne).trans (N p hm).1, (N p hm).2⟩
def Off (a : Addr) (led : List (Addr × Obj)) : Prop := ∀ p ∈ led, p.1 ≠ a
section
variable {prog : Program} {w : World} {A : Around} {h₀ : Heap} {L : Addr} {m : Str → Option Value} {env : Env}
theorem inner2 {R : Result → Shared → Prop} {s : Shared} {elt : PySem.Expr} {x : Str} {px : Pos} {iter₁ : PySem.Expr} {y : Str} {py : Pos} {iter₂ : PySem.Expr} {scope : Scope} {cl : List (Str × Addr)} {pos : Pos}
    {J I C D : Addr} {oI oC : Obj} {m₂ : Str → Option Value} {cn : Nat} {v : Value} {ys : List Value} {news : List (Addr × Obj)} {S : List (Addr × Obj) → Prop} {Inv : Nat → List Value → List (Addr × Obj) → Prop}
    (hh : A.handled = none) (hkind : scope.kind = .function) (hy : scope.names.lookup y = some .local) (hxy : x ≠ y)
    (hst : IsRangeIter s.heap J (0 + ((0 : Nat) : Int) * 1) ((cn : Int) - ((0 : Nat) : Int)) 1)
    (F : Fr h₀ L s.heap m) (N : News h₀ L s.heap ((I, oI) :: (C, oC) :: (D, LCg.lst ys) :: news)) (hJL : J ≠ L) (hJ₀ : h₀.get? J = none) (hJI : J ≠ I) (hJC : J ≠ C) (hJD : J ≠ D) (hIC : I ≠ C) (hID : I ≠ D) (hCD : C ≠ D)
    (oJ' : Off J news) (oI' : Off I news) (oC' : Off C news) (oD' : Off D news) (hC : LCg.NsObj oC m₂) (hv : m₂ x = some v) (hS : S news) (hI : Inv 0 ys news)
    (hlen : ∀ j ys news, j < cn → Inv j ys news → ys.length ≤ sizeLine)
    (helt : ∀ j t oJ oC m₂ ys news h tk (E' : Value → Shared → Prop), j < cn → Inv j ys news → LCg.NsObj oC m₂ → m₂ x = some v → m₂ y = some (.int (j : Int) t) → Fr h₀ L h m →
      News h₀ L h ((J, oJ) :: (I, oI) :: (C, oC) :: (D, LCg.lst ys) :: news) → Off J news → Off I news → Off C news → Off D news → S news →
      wpAny (model prog w) A (eval elt (compEnvC scope cl C env)) (fun yv s₂ => ∃ h' tk' news', s₂ = { s with heap := h', toks := tk' } ∧ Fr h₀ L h' m ∧
        News h₀ L h' ((J, oJ) :: (I, oI) :: (C, oC) :: (D, LCg.lst ys) :: news') ∧ Off J news' ∧ Off I news' ∧ Off C news' ∧ Off D news' ∧ S news' ∧ Inv (j + 1) (ys ++ [yv]) news') E' { s with heap := h, toks := tk })
    (hR : ∀ h tk oC m₂ ys news, Fr h₀ L h m → News h₀ L h ((I, oI) :: (C, oC) :: (D, LCg.lst ys) :: news) → LCg.NsObj oC m₂ → Off I news → Off C news → Off D news → S news → Inv cn ys news →
      R (.ok .next) { s with heap := h, toks := tk }) :
    codeAny (model prog w) A (.compLoop (two elt x px iter₁ y py iter₂ scope pos) 1 (.ref J) (.ref D) (compEnvC scope cl C env)) R s := by
  have W := LCg.range_walks (prog := prog) (w := w) (A := A) (I := J) hh 0 cn
  refine codeAny_two1 (fun k s' => ∃ h tk j oC m₂ ys news, s' = { s with heap := h, toks := tk } ∧ j ≤ cn ∧ k = cn + 1 - j ∧ IsRangeIter h J (0 + ((j : Nat) : Int) * 1) ((cn : Int) - ((j : Nat) : Int)) 1 ∧
      Fr h₀ L h m ∧ News h₀ L h ((I, oI) :: (C, oC) :: (D, LCg.lst ys) :: news) ∧ LCg.NsObj oC m₂ ∧ m₂ x = some v ∧ Off J news ∧ Off I news ∧ Off C news ∧ Off D news ∧ S news ∧ Inv j ys news) ?_ (cn + 1)
    ⟨s.heap, s.toks, 0, oC, m₂, ys, news, rfl, Nat.zero_le _, rfl, hst, F, N, hC, hv, oJ', oI', oC', oD', hS, hI⟩
  rintro k s' ⟨h, tk, j, oC, m₂, ys, news, rfl, hj, rfl, hst, F, N, hC, hv, oJ', oI', oC', oD', hS, hI⟩
  have offJ : ∀ p ∈ (I, oI) :: (C, oC) :: (D, LCg.lst ys) :: news, p.1 ≠ J := by
    intro p hp
    rcases List.mem_cons.mp hp with rfl | hp
    · exact Ne.symm hJI
    rcases List.mem_cons.mp hp with rfl | hp
    · exact Ne.symm hJC
    rcases List.mem_cons.mp hp with rfl | hp
    · exact Ne.symm hJD
    · exact oJ' p hp
  have zC := N (C, oC) (.tail _ (.head _))
  have zD := N (D, LCg.lst ys) (.tail _ (.tail _ (.head _)))
  by_cases hlt : j < cn
  · refine W.item j _ _ _ hlt hst fun u h₂ tk₂ hPu hst₂ hk₂ => ?_
    obtain ⟨t, rfl⟩ := hPu
    rw [Int.zero_add]
    have F₂ : Fr h₀ L h₂ m := LCg.fr_but F hk₂ (Ne.symm hJL) hJ₀
    have N₂ : News h₀ L h₂ ((I, oI) :: (C, oC) :: (D, LCg.lst ys) :: news) := LCg.news_but N hk₂ offJ
    have zC₂ := N₂ (C, oC) (.tail _ (.head _))
    refine wpAny_assign_Name (wpAny_storeName_local (lookup_relabel_local hy) (hC.ns zC₂.1) (fun h₃ hn₃ hs₃ => ?_) (by simp [compEnvC, relabel, hkind]))
    obtain ⟨oC₃, heC, hoC⟩ := LCg.ns_obj hn₃
    have F₃ : Fr h₀ L h₃ m := F₂.change hs₃ zC.2.1 zC.2.2
    have hst₃ : IsRangeIter h₃ J (0 + ((j + 1 : Nat) : Int) * 1) ((cn : Int) - ((j + 1 : Nat) : Int)) 1 := W.frame _ _ _ hst₂ fun b hb o e => hs₃.extBut b o (by rw [List.mem_singleton.mp hb]; exact hJC) e
    obtain ⟨oJ₃, hJ₃⟩ : ∃ o, h₃.get? J = some o := ⟨_, hst₃⟩
    have N₃ : News h₀ L h₃ ((J, oJ₃) :: (I, oI) :: (C, oC₃) :: (D, LCg.lst ys) :: news) := by
      intro p hp
      rcases List.mem_cons.mp hp with rfl | hp
      · exact ⟨hJ₃, hJL, hJ₀⟩
      refine news_set (led' := (I, oI) :: (C, oC₃) :: (D, LCg.lst ys) :: news) N₂ hs₃ heC ⟨_, .tail _ (.head _)⟩ (fun p hp => ?_) p hp
      rcases List.mem_cons.mp hp with rfl | hp
      · exact .inr ⟨.head _, hIC⟩
      rcases List.mem_cons.mp hp with rfl | hp
      · exact .inl rfl
      rcases List.mem_cons.mp hp with rfl | hp
      · exact .inr ⟨.tail _ (.tail _ (.head _)), Ne.symm hCD⟩
      · exact .inr ⟨.tail _ (.tail _ (.tail _ hp)), oC' p hp⟩
    refine wpAny_mono (helt j t oJ₃ oC₃ _ ys news h₃ _ _ hlt hI hoC ?_ ?_ F₃ N₃ oJ' oI' oC' oD' hS) (fun yv s₄ h₄ => ?_) fun _ _ e => e
    · simp only [if_neg hxy]; exact hv
    · simp
    obtain ⟨h₄, tk₄, news₄, rfl, F₄, N₄, oJ₄, oI₄, oC₄, oD₄, hS₄, hI₄⟩ := h₄
    have zJ₄ := N₄ _ (.head _)
    have zD₄ := N₄ (D, LCg.lst ys) (.tail _ (.tail _ (.tail _ (.head _))))
    refine append_at (hsz := by show ys.toArray.size ≤ sizeLine; rw [List.size_toArray]; exact hlen j ys news hlt hI) zD₄.1 fun h₅ hs₅ hD₅ => ?_
    refine ⟨cn + 1 - (j + 1), by omega, h₅, tk₄, j + 1, oC₃, _, ys ++ [yv], news₄, rfl, hlt, rfl, ?_, F₄.change hs₅ zD.2.1 zD.2.2, ?_, hoC, ?_, oJ₄, oI₄, oC₄, oD₄, hS₄, hI₄⟩
    · have z : h₅.get? J = some oJ₃ := hs₅.extBut _ _ hJD zJ₄.1
      show h₅.get? J = some _
      rw [z, ← hJ₃]; exact hst₃
    · refine news_set N₄ hs₅ (hD₅.trans (congrArg some (LCg.lst_snoc ys yv))) ⟨_, .tail _ (.tail _ (.tail _ (.head _)))⟩ (fun p hp => ?_)
      rcases List.mem_cons.mp hp with rfl | hp
      · exact .inr ⟨.tail _ (.head _), hID⟩
      rcases List.mem_cons.mp hp with rfl | hp
      · exact .inr ⟨.tail _ (.tail _ (.head _)), hCD⟩
      rcases List.mem_cons.mp hp with rfl | hp
      · exact .inl rfl
      · exact .inr ⟨.tail _ (.tail _ (.tail _ (.tail _ hp))), oD₄ p hp⟩
    · simp only [if_neg hxy]; exact hv
  · obtain rfl : j = cn := Nat.le_antisymm hj (Nat.not_lt.mp hlt)
    refine W.done _ _ _ hst fun h₂ tk₂ hk₂ => ?_
    exact hR h₂ tk₂ oC m₂ ys news (LCg.fr_but F hk₂ (Ne.symm hJL) hJ₀) (LCg.news_but N hk₂ offJ) hC oI' oC' oD' hS hI
theorem range_size {n : Nat} : Builtin.Range.rangeSize 0 (n : Int) 1 = (n : Int) := by
  unfold Builtin.Range.rangeSize
  rw [if_pos (by decide)]
  split <;> omega
theorem block2 {elt : PySem.Expr} {x : Str} {px : Pos} {iter₁ : PySem.Expr} {y : Str} {py : Pos} {iter₂ : PySem.Expr} {scope : Scope} {cl : List (Str × Addr)} {pos : Pos} {E : Value → Shared → Prop}
    {s₂ : Shared} {I : Addr} {fp : List Addr} {n : Nat} {P : Nat → Value → Prop} {St : Nat → Heap → Prop} {S : List (Addr × Obj) → Prop} {news : List (Addr × Obj)} {Inv : Nat → Nat → List Value → List (Addr × Obj) → Prop} {cnt : Nat → Nat}
    {RR : Value → Addr → Result → Shared → Prop} (hh : A.handled = none)
    (W : Walks prog w A I fp [I] n P St) (hIo : ∀ i h, St i h → ∃ o, h.get? I = some o)
    (hSt : ∀ i h h' o nw, St i h → h.get? I = some o → h'.get? I = some o → (∀ b o, h₀.get? b = some o → h'.get? b = some o) → News h₀ L h' nw → S nw → St i h')
    (hcell : ∀ y ∈ scope.names, y.2 ≠ .cell) (hkind : scope.kind = .function) (hx : scope.names.lookup x = some .local) (hy : scope.names.lookup y = some .local) (hxy : x ≠ y)
    (hs2 : ∀ v C, foldedSetIterable iter₂ (compEnvC scope cl C env) v = pure v)
    (hst : St 0 s₂.heap) (hfp : ∀ b ∈ fp, b < s₂.heap.objs.size)
    (F : Fr h₀ L s₂.heap m) (N : News h₀ L s₂.heap news) (hIL : L ≠ I) (hI₀ : h₀.get? I = none) (off : Off I news) (hS : S news) (hI : Inv 0 0 [] news)
    (hnext : ∀ i ys news, i < n → Inv i (cnt i) ys news → Inv (i + 1) 0 ys news) (hlen : ∀ i j ys news, i < n → j < cnt i → Inv i j ys news → ys.length ≤ sizeLine) (hcnt : ∀ i, i < n → cnt i ≤ 1000)
    (hiter : ∀ i v I oI C oC D m₂ ys news h tk (E' : Value → Shared → Prop), i < n → P i v → Inv i 0 ys news → LCg.NsObj oC m₂ → m₂ x = some v → Fr h₀ L h m →
      News h₀ L h ((I, oI) :: (C, oC) :: (D, LCg.lst ys) :: news) → Off I news → Off C news → Off D news → S news →
      wpAny (model prog w) A (eval iter₂ (compEnvC scope cl C env)) (fun xv s' => ∃ r t u z h' tk', xv = .ref r ∧ s' = { s₂ with heap := h', toks := tk' } ∧ Fr h₀ L h' m ∧
        News h₀ L h' ((I, oI) :: (C, oC) :: (D, LCg.lst ys) :: news) ∧ IsRange h' r 0 ((cnt i : Nat) : Int) 1 t u z) E' { s₂ with heap := h, toks := tk })
    (helt : ∀ i j v t J oJ I oI C oC D m₂ ys news h tk (E' : Value → Shared → Prop), i < n → j < cnt i → P i v → Inv i j ys news → LCg.NsObj oC m₂ → m₂ x = some v → m₂ y = some (.int (j : Int) t) → Fr h₀ L h m →
      News h₀ L h ((J, oJ) :: (I, oI) :: (C, oC) :: (D, LCg.lst ys) :: news) → Off J news → Off I news → Off C news → Off D news → S news →
      wpAny (model prog w) A (eval elt (compEnvC scope cl C env)) (fun yv s' => ∃ h' tk' news', s' = { s₂ with heap := h', toks := tk' } ∧ Fr h₀ L h' m ∧
        News h₀ L h' ((J, oJ) :: (I, oI) :: (C, oC) :: (D, LCg.lst ys) :: news') ∧ Off J news' ∧ Off I news' ∧ Off C news' ∧ Off D news' ∧ S news' ∧ Inv i (j + 1) (ys ++ [yv]) news') E' { s₂ with heap := h, toks := tk })
    (hRR : ∀ D C h tk m' ys news', Fr h₀ L h m → News h₀ L h ((D, LCg.lst ys) :: news') → Off D news' → h.Ns C m' → h₀.get? C = none → h₀.get? D = none → C ≠ L → D ≠ L → C ≠ D → Off C news' → S news' → Inv n 0 ys news' →
      RR (.ref D) C (.ok .next) { s₂ with heap := h, toks := tk }) :
    wpAny (model prog w) A (newList []) (fun acc s₃ => wpAny (model prog w) A (newFunctionEnv scope env.globals cl [] env.qual none .none (some env)) (fun cenv s₄ =>
      codeAny (model prog w) A (.compStart (two elt x px iter₁ y py iter₂ scope pos) 0 (.ref I) acc { cenv with scope := relabel scope env }) (RR acc cenv.locals) s₄) E s₃) E s₂ := by
  refine wpAny_newObj_type (wpAny_newFunctionEnv hcell (by intro y hy; simp at hy) (fun h₁ hns₁ hsb₁ => ?_) hkind)
  dsimp only at hns₁ hsb₁ ⊢
  generalize hH2 : s₂.heap.push { cls := .type "list", dict := none, data := .seq ([] : List Value).toArray } = H2 at hns₁ hsb₁ ⊢
  have hC : H2.objs.size = s₂.heap.objs.size + 1 := by rw [← hH2, Heap.size_push]
  have hDC : s₂.heap.objs.size ≠ H2.objs.size := by rw [hC]; exact Nat.ne_of_lt (Nat.lt_succ_self _)
  have below : ∀ b, b < s₂.heap.objs.size → b ≠ H2.objs.size ∧ b ≠ s₂.heap.objs.size := fun b hb => ⟨by rw [hC]; exact Nat.ne_of_lt (Nat.lt_succ_of_lt hb), Nat.ne_of_lt hb⟩
  have hIf : I ∈ fp := W.sub I (List.mem_singleton.mpr rfl)
  have hIlt : I < s₂.heap.objs.size := hfp I hIf
  have hDf : s₂.heap.objs.size ∉ fp := fun hm => Nat.lt_irrefl _ (hfp _ hm)
  have hCf : H2.objs.size ∉ fp := fun hm => by have := hfp _ hm; rw [hC] at this; exact Nat.lt_irrefl _ (Nat.lt_of_succ_lt this)
  have old : ∀ b o, s₂.heap.get? b = some o → h₁.get? b = some o := fun b o e => hsb₁.extBut b o (below b (Heap.lt_size e)).1 (Heap.get?_push_of_some _ (hH2 ▸ Heap.get?_push_of_some _ e))
  have hacc : h₁.get? s₂.heap.objs.size = some (LCg.lst []) := hsb₁.extBut _ _ hDC (Heap.get?_push_of_some _ (hH2 ▸ Heap.get?_push_size _ rfl))
  have hst₁ : St 0 h₁ := W.frame _ _ _ hst fun b _ o e => old b o e
  have fresh₀ : ∀ a, s₂.heap.objs.size ≤ a → h₀.get? a = none := fun a ha => Heap.get?_none_of_le (Nat.le_trans (Nat.le_of_lt (Nat.lt_of_le_of_lt F.above F.ns.lt)) ha)
  have hD₀ : h₀.get? s₂.heap.objs.size = none := fresh₀ _ (Nat.le_refl _)
  have hC₀ : h₀.get? H2.objs.size = none := fresh₀ _ (by rw [hC]; exact Nat.le_succ _)
  have hLlt : L < s₂.heap.objs.size := F.ns.lt
  have hDL : s₂.heap.objs.size ≠ L := Ne.symm (below L hLlt).2
  have hCL : H2.objs.size ≠ L := Ne.symm (below L hLlt).1
  have hIC : I ≠ H2.objs.size := (below I hIlt).1
  have hID : I ≠ s₂.heap.objs.size := (below I hIlt).2
  obtain ⟨oC₁, hoC₁, hC₁⟩ := LCg.ns_obj hns₁
  have offC : Off H2.objs.size news := fun p hp => (below _ (Heap.lt_size (N p hp).1)).1
  have offD : Off s₂.heap.objs.size news := fun p hp => (below _ (Heap.lt_size (N p hp).1)).2
  have N₁ : News h₀ L h₁ ((H2.objs.size, oC₁) :: (s₂.heap.objs.size, LCg.lst []) :: news) := by
    intro p hp
    rcases List.mem_cons.mp hp with rfl | hp
    · exact ⟨hoC₁, hCL, hC₀⟩
    rcases List.mem_cons.mp hp with rfl | hp
    · exact ⟨hacc, hDL, hD₀⟩
    · exact ⟨old _ _ (N p hp).1, (N p hp).2⟩
  clear hns₁ hsb₁
  generalize H2.objs.size = C at *
  generalize s₂.heap.objs.size = D at *
  have loop : ∀ s₃ : Shared, s₃ = { s₂ with heap := h₁, toks := s₂.toks + ([] : List (Str × Value)).length } →
      codeAny (model prog w) A (.compLoop (two elt x px iter₁ y py iter₂ scope pos) 0 (.ref I) (.ref D) (compEnvC scope cl C env)) (RR (.ref D) C) s₃ := by
    rintro s₃ rfl
    refine codeAny_two0 (fun k s' => ∃ h tk i oC m₂ ys news, s' = { s₂ with heap := h, toks := tk } ∧ i ≤ n ∧ k = n + 1 - i ∧ St i h ∧ Fr h₀ L h m ∧
        News h₀ L h ((C, oC) :: (D, LCg.lst ys) :: news) ∧ LCg.NsObj oC m₂ ∧ Off I news ∧ Off C news ∧ Off D news ∧ S news ∧ Inv i 0 ys news) (fun v => hs2 v C) ?_ (n + 1)
      ⟨h₁, _, 0, oC₁, _, [], news, rfl, Nat.zero_le _, rfl, hst₁, F.keeps old, N₁, hC₁, off, offC, offD, hS, hI⟩
    clear hS hI off offC offD N₁ hC₁ hoC₁ hacc hst₁ hst N
    rintro k s' ⟨h, tk, i, oC, m₂, ys, news, rfl, hi, rfl, hst, F, N, hC, offI, offC, offD, hS, hI⟩
    have offI' : ∀ p ∈ (C, oC) :: (D, LCg.lst ys) :: news, p.1 ≠ I := by
      intro p hp
      rcases List.mem_cons.mp hp with rfl | hp
      · exact Ne.symm hIC
      rcases List.mem_cons.mp hp with rfl | hp
      · exact Ne.symm hID
      · exact offI p hp
    have zC := N (C, oC) (.head _)
    by_cases hlt : i < n
    · refine W.item i _ _ _ hlt hst fun v h₂ tk₂ hPv hst₂ hk₂ => ?_
      have F₂ : Fr h₀ L h₂ m := LCg.fr_but F hk₂ hIL hI₀
      have N₂ := LCg.news_but N hk₂ offI'
      refine wpAny_assign_Name (wpAny_storeName_local (lookup_relabel_local hx) (hC.ns (N₂ _ (.head _)).1) (fun h₃ hn₃ hs₃ => ?_) (by simp [compEnvC, relabel, hkind]))
      obtain ⟨oC₃, heC, hoC⟩ := LCg.ns_obj hn₃
      have F₃ : Fr h₀ L h₃ m := F₂.change hs₃ zC.2.1 zC.2.2
      have hst₃ : St (i + 1) h₃ := W.frame _ _ _ hst₂ fun b hb o e => hs₃.extBut b o (fun q => hCf (by have q' : b = C := q; rw [← q']; exact hb)) e
      obtain ⟨oI₃, hI₃⟩ := hIo _ _ hst₃
      have N₃ : News h₀ L h₃ ((I, oI₃) :: (C, oC₃) :: (D, LCg.lst ys) :: news) := by
        intro p hp
        rcases List.mem_cons.mp hp with rfl | hp
        · exact ⟨hI₃, Ne.symm hIL, hI₀⟩
        refine news_set (led' := (C, oC₃) :: (D, LCg.lst ys) :: news) N₂ hs₃ heC ⟨_, .head _⟩ (fun p hp => ?_) p hp
        rcases List.mem_cons.mp hp with rfl | hp
        · exact .inl rfl
        rcases List.mem_cons.mp hp with rfl | hp
        · exact .inr ⟨.tail _ (.head _), hDC⟩
        · exact .inr ⟨.tail _ (.tail _ hp), offC p hp⟩
      have hxv : (fun z => if z = x then some v else m₂ z) x = some v := by simp
      refine wpAny_mono (hiter i v I oI₃ C oC₃ D _ ys news h₃ _ _ hlt hPv hI hoC hxv F₃ N₃ offI offC offD hS) (fun xv s₄ h₄ => ?_) fun _ _ e => e
      obtain ⟨r, t, u, z, h₄, tk₄, rfl, rfl, F₄, N₄, hr⟩ := h₄
      have hn := @range_size (cnt i)
      refine wpAny_pyIter_range hr (small_one (by decide) (by decide) (by have := hcnt i hlt; omega) (by have := hcnt i hlt; omega)) ?_
      rw [hn]
      dsimp only
      have up : ∀ b o, h₄.get? b = some o → (h₄.push { cls := .type "range_iterator", data := .fields #[rawInt 0, rawInt ((cnt i : Nat) : Int), rawInt 1] }).get? b = some o := fun b o e => Heap.get?_push_of_some _ e
      have hJ₀ : h₀.get? h₄.objs.size = none := next_is_new F₄
      have offJ : ∀ p ∈ (I, oI₃) :: (C, oC₃) :: (D, LCg.lst ys) :: news, p.1 ≠ h₄.objs.size := fun p hp => Nat.ne_of_lt (Heap.lt_size (N₄ p hp).1)
      have hJL : h₄.objs.size ≠ L := Ne.symm (Nat.ne_of_lt F₄.ns.lt)
      have hsti : IsRangeIter (h₄.push { cls := .type "range_iterator", data := .fields #[rawInt 0, rawInt ((cnt i : Nat) : Int), rawInt 1] }) h₄.objs.size (0 + ((0 : Nat) : Int) * 1) (((cnt i : Nat) : Int) - ((0 : Nat) : Int)) 1 := by
        show IsRangeIter _ _ _ _ _
        simpa using Heap.get?_push_size _ rfl
      have inner : ∀ s₅ : Shared, s₅ = { s₂ with heap := h₄.push { cls := .type "range_iterator", data := .fields #[rawInt 0, rawInt ((cnt i : Nat) : Int), rawInt 1] }, toks := tk₄ } →
          codeAny (model prog w) A (.compLoop (two elt x px iter₁ y py iter₂ scope pos) 1 (.ref h₄.objs.size) (.ref D) (compEnvC scope cl C env)) (fun r s' => match r with
            | .ok _ => ∃ k, k < n + 1 - i ∧ ∃ h tk i oC m₂ ys news, s' = { s₂ with heap := h, toks := tk } ∧ i ≤ n ∧ k = n + 1 - i ∧ St i h ∧ Fr h₀ L h m ∧
                News h₀ L h ((C, oC) :: (D, LCg.lst ys) :: news) ∧ LCg.NsObj oC m₂ ∧ Off I news ∧ Off C news ∧ Off D news ∧ S news ∧ Inv i 0 ys news
            | .error e => cameBackBy (model prog w) A (compEnvC scope cl C env) (notedBy (model prog w) A (compEnvC scope cl C env) fun e s' => RR (.ref D) C (.error e) s') e s') s₅ := by
        rintro s₅ rfl
        refine inner2 (cn := cnt i) (v := v) (S := S) (Inv := Inv i) (oI := oI₃) (oC := oC₃) (I := I) hh hkind hy hxy hsti (F₄.keeps up) (N₄.grown up) hJL hJ₀ (Ne.symm (offJ _ (.head _))) (Ne.symm (offJ _ (.tail _ (.head _)))) (Ne.symm (offJ _ (.tail _ (.tail _ (.head _))))) hIC hID (Ne.symm hDC)
          (fun p hp => offJ p (.tail _ (.tail _ (.tail _ hp)))) offI offC offD hoC hxv hS hI (fun j ys news hj h => hlen i j ys news hlt hj h)
          (fun j t oJ oC m₂ ys news h tk E' hj hI hC hx' hy' F N o1 o2 o3 o4 hS => helt i j v t _ oJ I oI₃ C oC D m₂ ys news h tk E' hlt hj hPv hI hC hx' hy' F N o1 o2 o3 o4 hS) ?_
        intro h₆ tk₆ oC₆ m₆ ys₆ news₆ F₆ N₆ hC₆ o2 o3 o4 hS₆ hI₆
        refine ⟨n + 1 - (i + 1), by omega, h₆, tk₆, i + 1, oC₆, m₆, ys₆, news₆, rfl, hlt, rfl, ?_, F₆, fun p hp => N₆ p (.tail _ hp), hC₆, o2, o3, o4, hS₆, hnext i ys₆ news₆ hlt hI₆⟩
        exact hSt (i + 1) h₃ h₆ oI₃ _ hst₃ hI₃ (N₆ _ (.head _)).1 F₆.keep (fun p hp => N₆ p (.tail _ (.tail _ (.tail _ hp)))) hS₆
      refine codeAny_compStart_two1 (inner _ rfl) ((LCg.range_walks hh 0 (cnt i)).self 0 _ _ _ hsti (inner _ rfl))
    · obtain rfl : i = n := Nat.le_antisymm hi (Nat.not_lt.mp hlt)
      refine W.done _ _ _ hst fun h₂ tk₂ hk₂ => ?_
      have N₂ := LCg.news_but N hk₂ offI'
      exact hRR D C h₂ tk₂ m₂ ys news (LCg.fr_but F hk₂ hIL hI₀) (fun p hp => N₂ p (.tail _ hp)) offD (hC.ns (N₂ _ (.head _)).1) hC₀ hD₀ hCL hDL (Ne.symm hDC) offC hS hI
  exact codeAny_compStart_list (loop _ rfl) (W.self 0 _ _ _ hst₁ (loop _ rfl))
theorem Assign_two_L {s : Shared} {E : Value → Shared → Prop} {Q : Flow → Shared → Prop} {elt : PySem.Expr} {a x : Str} {pa px : Pos} {iter₁ : PySem.Expr} {y : Str} {py : Pos} {iter₂ : PySem.Expr} {scope : Scope} {cl : List (Str × Addr)} {pos spos : Pos}
    (ax : Addr) (its : Array Value) (Inv : Nat → Nat → List Value → List (Addr × Obj) → Prop) (cnt : Nat → Nat)
    (hh : A.handled = none) (hLe : env.locals = L)
    (hsw : swapsWith (two elt x px iter₁ y py iter₂ scope pos) (some (.Name a pa)) spos.line env = pure true)
    (hclos : closureFor scope env = pure cl) (hcell : ∀ z ∈ scope.names, z.2 ≠ .cell) (hkind : scope.kind = .function)
    (hnames : ∀ z ∈ scope.names, z.2 = .local → scope.names.lookup z.1 = some .local) (hx : scope.names.lookup x = some .local) (hy : scope.names.lookup y = some .local) (hxy : x ≠ y)
    (ha : env.kindOf a = some .local) (hp : (env.scope.kind == .class || (env.scope.kind == .module && env.locals != env.globals)) = false)
    (hs1 : ∀ v, foldedSetIterable iter₁ env v = pure v) (hs2 : ∀ v C, foldedSetIterable iter₂ (compEnvC scope cl C env) v = pure v)
    (h : wpAny (model prog w) A (eval iter₁ env) (fun xv s₁ => xv = .ref ax ∧ Fr h₀ L s₁.heap m ∧ ∃ news, News h₀ L s₁.heap news ∧ LCg.SrcAt h₀ ax its news ∧ (∀ i ys news, i < its.size → Inv i (cnt i) ys news → Inv (i + 1) 0 ys news) ∧ (∀ i j ys news, i < its.size → j < cnt i → Inv i j ys news → ys.length ≤ sizeLine) ∧ (∀ i, i < its.size → cnt i ≤ 1000) ∧ Inv 0 0 [] news ∧
      (∀ i v I oI C oC D m₂ ys news h tk (E' : Value → Shared → Prop), i < its.size → its[i]? = some v → Inv i 0 ys news → LCg.NsObj oC m₂ → m₂ x = some v → Fr h₀ L h m →
        News h₀ L h ((I, oI) :: (C, oC) :: (D, LCg.lst ys) :: news) → Off I news → Off C news → Off D news → LCg.SrcAt h₀ ax its news →
        wpAny (model prog w) A (eval iter₂ (compEnvC scope cl C env)) (fun xv s' => ∃ r t u z h' tk', xv = .ref r ∧ s' = { s₁ with heap := h', toks := tk' } ∧ Fr h₀ L h' m ∧
          News h₀ L h' ((I, oI) :: (C, oC) :: (D, LCg.lst ys) :: news) ∧ IsRange h' r 0 ((cnt i : Nat) : Int) 1 t u z) E' { s₁ with heap := h, toks := tk }) ∧
      (∀ i j v t J oJ I oI C oC D m₂ ys news h tk (E' : Value → Shared → Prop), i < its.size → j < cnt i → its[i]? = some v → Inv i j ys news → LCg.NsObj oC m₂ → m₂ x = some v → m₂ y = some (.int (j : Int) t) → Fr h₀ L h m →
        News h₀ L h ((J, oJ) :: (I, oI) :: (C, oC) :: (D, LCg.lst ys) :: news) → Off J news → Off I news → Off C news → Off D news → LCg.SrcAt h₀ ax its news →
        wpAny (model prog w) A (eval elt (compEnvC scope cl C env)) (fun yv s' => ∃ h' tk' news', s' = { s₁ with heap := h', toks := tk' } ∧ Fr h₀ L h' m ∧
          News h₀ L h' ((J, oJ) :: (I, oI) :: (C, oC) :: (D, LCg.lst ys) :: news') ∧ Off J news' ∧ Off I news' ∧ Off C news' ∧ Off D news' ∧ LCg.SrcAt h₀ ax its news' ∧ Inv i (j + 1) (ys ++ [yv]) news') E' { s₁ with heap := h, toks := tk }) ∧
      (∀ D h tk ys news', Fr h₀ L h (fun z => if z = a then some (.ref D) else m z) → News h₀ L h ((D, LCg.lst ys) :: news') → Off D news' → Inv its.size 0 ys news' → Q .next { s₁ with heap := h, toks := tk })) E s) :
    wpAny (model prog w) A (exec (.Assign [.Name a pa] (two elt x px iter₁ y py iter₂ scope pos) spos) env) Q E s := by
  subst hLe
  rw [exec_Assign_Name_used _ _ _ _ hsw]
  refine wpAny_bind (wpAny_standAt (wpAny_bind ?_))
  show wpAny _ A (do let _ ← comprehension (two elt x px iter₁ y py iter₂ scope pos) scope env _ (newList []) false (eval iter₁ env) (some (assign (.Name a pa) env))) _ _ s
  refine wpAny_bind (wpAny_mono (wpAny_comprehension_free (use := some (assign (.Name a pa) env)) (Q := fun _ s' => Q .next s') rfl hs1 hclos hkind hnames
    (wpAny_mono h (fun xv s₁ h₁ => ?_) fun _ _ e => e)) (fun _ s' hq => wpAny_pure (wpAny_pure hq)) fun _ _ e => e)
  obtain ⟨rfl, F, news, N, S, hnext, hlen, hcnt, hI, hiter, helt, hfin⟩ := h₁
  have hl := S.list F.keep N
  have hlt : ax < s₁.heap.objs.size := by obtain ⟨_, e, _⟩ := hl; exact Heap.lt_size e
  refine wpAny_pyIter_list hl ?_
  have up : ∀ b o, s₁.heap.get? b = some o → (s₁.heap.push { cls := .type "list_iterator", data := .fields #[.ref ax, .int 0 0] }).get? b = some o := fun b o e => Heap.get?_push_of_some _ e
  refine block2 hh (Walks.list hh s₁.heap.objs.size ax (Nat.ne_of_lt hlt) its) (fun i h st => by obtain ⟨o, e, _⟩ := st.1; exact ⟨o, e⟩) LCg.list_st hcell hkind hx hy hxy hs2 ⟨⟨_, Heap.get?_push_size _ rfl, rfl, rfl⟩, hl.push _⟩ (fun b hb => ?_)
    (F.keeps up) (N.grown up) (Nat.ne_of_lt F.ns.lt) (next_is_new F) (fun p hp => Nat.ne_of_lt (Heap.lt_size (N p hp).1)) S hI hnext hlen hcnt hiter helt ?_
  · show b < (s₁.heap.push _).objs.size
    rw [Heap.size_push]
    rcases List.mem_cons.mp hb with rfl | hb
    · exact Nat.lt_succ_self _
    · rw [List.mem_singleton.mp hb]; exact Nat.lt_succ_of_lt hlt
  intro D C h' tk m' ys news' F' N' o1 hn hC₀ hD₀ hCL hDL hCD offC hS' fin'
  show wpAny _ A (assign (.Name a pa) env (.ref D)) _ _ _
  refine wpAny_assign_Name (wpAny_storeName_local ha F'.ns (fun h₂ hn₂ hs₂ => ?_) hp)
  have hL₀ : h₀.get? env.locals = none := Heap.get?_none_of_le F'.above
  have F₂ : Fr h₀ env.locals h₂ (fun z => if z = a then some (.ref D) else m z) := ⟨hn₂, fun b o e => hs₂.extBut b o (fun q => by rw [q, hL₀] at e; cases e) (F'.keep b o e), F'.above⟩
  refine ⟨m', hn.sameBut hs₂ hCL, fun h'' hs'' => hfin D h'' _ ys news' (F₂.change hs'' hCL hC₀) (fun p hp => ?_) o1 fin'⟩
  have z : h₂.get? p.1 = some p.2 := hs₂.extBut _ _ (N' p hp).2.1 (N' p hp).1
  refine ⟨hs''.extBut _ _ ?_ z, (N' p hp).2⟩
  rcases List.mem_cons.mp hp with rfl | hp
  · exact Ne.symm hCD
  · exact offC p hp
theorem Assign_two_R {s : Shared} {E : Value → Shared → Prop} {Q : Flow → Shared → Prop} {elt : PySem.Expr} {a x : Str} {pa px : Pos} {iter₁ : PySem.Expr} {y : Str} {py : Pos} {iter₂ : PySem.Expr} {scope : Scope} {cl : List (Str × Addr)} {pos spos : Pos}
    (n : Nat) (Inv : Nat → Nat → List Value → List (Addr × Obj) → Prop) (cnt : Nat → Nat)
    (hh : A.handled = none) (hLe : env.locals = L)
    (hsw : swapsWith (two elt x px iter₁ y py iter₂ scope pos) (some (.Name a pa)) spos.line env = pure true)
    (hclos : closureFor scope env = pure cl) (hcell : ∀ z ∈ scope.names, z.2 ≠ .cell) (hkind : scope.kind = .function)
    (hnames : ∀ z ∈ scope.names, z.2 = .local → scope.names.lookup z.1 = some .local) (hx : scope.names.lookup x = some .local) (hy : scope.names.lookup y = some .local) (hxy : x ≠ y)
    (ha : env.kindOf a = some .local) (hp : (env.scope.kind == .class || (env.scope.kind == .module && env.locals != env.globals)) = false)
    (hs1 : ∀ v, foldedSetIterable iter₁ env v = pure v) (hs2 : ∀ v C, foldedSetIterable iter₂ (compEnvC scope cl C env) v = pure v)
    (h : wpAny (model prog w) A (eval iter₁ env) (fun xv s₁ => ∃ r t u z, xv = .ref r ∧ IsRange s₁.heap r 0 (n : Int) 1 t u z ∧ n ≤ 1000 ∧ Fr h₀ L s₁.heap m ∧ ∃ news, News h₀ L s₁.heap news ∧ (∀ i ys news, i < n → Inv i (cnt i) ys news → Inv (i + 1) 0 ys news) ∧ (∀ i j ys news, i < n → j < cnt i → Inv i j ys news → ys.length ≤ sizeLine) ∧ (∀ i, i < n → cnt i ≤ 1000) ∧ Inv 0 0 [] news ∧
      (∀ i v I oI C oC D m₂ ys news h tk (E' : Value → Shared → Prop), i < n → (∃ t, v = .int (i : Int) t) → Inv i 0 ys news → LCg.NsObj oC m₂ → m₂ x = some v → Fr h₀ L h m →
        News h₀ L h ((I, oI) :: (C, oC) :: (D, LCg.lst ys) :: news) → Off I news → Off C news → Off D news → True →
        wpAny (model prog w) A (eval iter₂ (compEnvC scope cl C env)) (fun xv s' => ∃ r t u z h' tk', xv = .ref r ∧ s' = { s₁ with heap := h', toks := tk' } ∧ Fr h₀ L h' m ∧
          News h₀ L h' ((I, oI) :: (C, oC) :: (D, LCg.lst ys) :: news) ∧ IsRange h' r 0 ((cnt i : Nat) : Int) 1 t u z) E' { s₁ with heap := h, toks := tk }) ∧
      (∀ i j v t J oJ I oI C oC D m₂ ys news h tk (E' : Value → Shared → Prop), i < n → j < cnt i → (∃ t, v = .int (i : Int) t) → Inv i j ys news → LCg.NsObj oC m₂ → m₂ x = some v → m₂ y = some (.int (j : Int) t) → Fr h₀ L h m →
        News h₀ L h ((J, oJ) :: (I, oI) :: (C, oC) :: (D, LCg.lst ys) :: news) → Off J news → Off I news → Off C news → Off D news → True →
        wpAny (model prog w) A (eval elt (compEnvC scope cl C env)) (fun yv s' => ∃ h' tk' news', s' = { s₁ with heap := h', toks := tk' } ∧ Fr h₀ L h' m ∧
          News h₀ L h' ((J, oJ) :: (I, oI) :: (C, oC) :: (D, LCg.lst ys) :: news') ∧ Off J news' ∧ Off I news' ∧ Off C news' ∧ Off D news' ∧ True ∧ Inv i (j + 1) (ys ++ [yv]) news') E' { s₁ with heap := h, toks := tk }) ∧
      (∀ D h tk ys news', Fr h₀ L h (fun z => if z = a then some (.ref D) else m z) → News h₀ L h ((D, LCg.lst ys) :: news') → Off D news' → Inv n 0 ys news' → Q .next { s₁ with heap := h, toks := tk })) E s) :
    wpAny (model prog w) A (exec (.Assign [.Name a pa] (two elt x px iter₁ y py iter₂ scope pos) spos) env) Q E s := by
  subst hLe
  rw [exec_Assign_Name_used _ _ _ _ hsw]
  refine wpAny_bind (wpAny_standAt (wpAny_bind ?_))
  show wpAny _ A (do let _ ← comprehension (two elt x px iter₁ y py iter₂ scope pos) scope env _ (newList []) false (eval iter₁ env) (some (assign (.Name a pa) env))) _ _ s
  refine wpAny_bind (wpAny_mono (wpAny_comprehension_free (use := some (assign (.Name a pa) env)) (Q := fun _ s' => Q .next s') rfl hs1 hclos hkind hnames
    (wpAny_mono h (fun xv s₁ h₁ => ?_) fun _ _ e => e)) (fun _ s' hq => wpAny_pure (wpAny_pure hq)) fun _ _ e => e)
  obtain ⟨r, t, u, z, rfl, hr, hn, F, news, N, hnext, hlen, hcnt, hI, hiter, helt, hfin⟩ := h₁
  refine wpAny_pyIter_range hr (small_one (by decide) (by decide) (by omega) (by omega)) ?_
  rw [range_size]
  refine block2 (S := fun _ => True) hh (LCg.range_walks hh 0 n) (fun i h st => ⟨_, st⟩) LCg.range_st hcell hkind hx hy hxy hs2 (by show IsRangeIter _ _ _ _ _; simpa using Heap.get?_push_size _ rfl) (fun b hb => ?_)
    (F.keeps fun _ _ e => Heap.get?_push_of_some _ e) (N.grown fun _ _ e => Heap.get?_push_of_some _ e) (Nat.ne_of_lt F.ns.lt) (next_is_new F) (fun p hp => Nat.ne_of_lt (Heap.lt_size (N p hp).1)) trivial hI hnext hlen hcnt
    (fun i v I oI C oC D m₂ ys news h tk E' a1 a2 => hiter i v I oI C oC D m₂ ys news h tk E' a1 (by obtain ⟨t, rfl⟩ := a2; exact ⟨t, by rw [Int.zero_add]⟩))
    (fun i j v t J oJ I oI C oC D m₂ ys news h tk E' a1 a2 a3 => helt i j v t J oJ I oI C oC D m₂ ys news h tk E' a1 a2 (by obtain ⟨t, rfl⟩ := a3; exact ⟨t, by rw [Int.zero_add]⟩)) ?_
  · rw [List.mem_singleton.mp hb]
    show s₁.heap.objs.size < (s₁.heap.push _).objs.size
    rw [Heap.size_push]; exact Nat.lt_succ_self _
  intro D C h' tk m' ys news' F' N' o1 hn hC₀ hD₀ hCL hDL hCD offC hS' fin'
  show wpAny _ A (assign (.Name a pa) env (.ref D)) _ _ _
  refine wpAny_assign_Name (wpAny_storeName_local ha F'.ns (fun h₂ hn₂ hs₂ => ?_) hp)
  have hL₀ : h₀.get? env.locals = none := Heap.get?_none_of_le F'.above
  have F₂ : Fr h₀ env.locals h₂ (fun z => if z = a then some (.ref D) else m z) := ⟨hn₂, fun b o e => hs₂.extBut b o (fun q => by rw [q, hL₀] at e; cases e) (F'.keep b o e), F'.above⟩
  refine ⟨m', hn.sameBut hs₂ hCL, fun h'' hs'' => hfin D h'' _ ys news' (F₂.change hs'' hCL hC₀) (fun p hp => ?_) o1 fin'⟩
  have z : h₂.get? p.1 = some p.2 := hs₂.extBut _ _ (N' p hp).2.1 (N' p hp).1
  refine ⟨hs''.extBut _ _ ?_ z, (N' p hp).2⟩
  rcases List.mem_cons.mp hp with rfl | hp
  · exact Ne.symm hCD
  · exact offC p hp
end
end Mine
end
section
open PySem PySem.W PyProof.Rows
namespace Mine
def fnB : Stmt → List Stmt
  | .FunctionDef _ _ b _ _ _ _ _ _ _ => b
  | _ => []
def fnS : Stmt → Option Scope
  | .FunctionDef _ _ _ _ _ _ s _ _ _ => some s
  | _ => none
def forB : Stmt → List Stmt
  | .For _ _ b _ _ => b
  | _ => []
noncomputable def lawBody : List Stmt := fnB (prg.main.body.getD 10 (.Pass ⟨0, 0, 0, 0⟩))
noncomputable def lawScope : Scope := (fnS (prg.main.body.getD 10 (.Pass ⟨0, 0, 0, 0⟩))).getD default
noncomputable def lawM : List Stmt := forB (lawBody.getD 5 (.Pass ⟨0, 0, 0, 0⟩))
noncomputable def lawT : List Stmt := forB (lawM.getD 3 (.Pass ⟨0, 0, 0, 0⟩))
noncomputable def lawTold : List Stmt := forB (lawT.getD 5 (.Pass ⟨0, 0, 0, 0⟩))
noncomputable def lawEnv (L fa : Addr) (cd : Value) : Env := envOfC (Str.ofString "law") lawScope L fa cd
end Mine
end
section
open PySem PySem.W PyProof.Rows PySem.Calls
namespace Mine
section
variable {prog : Program} {w : World} {A : Around} {E : Value → Shared → Prop} {Q : Value → Shared → Prop} {s : Shared}
theorem num_add_int {v : Value} {a t : Nat} {u : Tok} (hv : NumIs v a) (hs : a + 256 * t < 2 ^ 53) (h : ∀ v' tk, NumIs v' (a + 256 * t) → Q v' { s with toks := tk }) :
    wpAny (model prog w) A (binaryOp .Add v (.int (t : Int) u)) Q E s := by
  rcases hv with ⟨t', rfl⟩ | ⟨i, t', rfl, rfl⟩
  · have e : Float64.ofInt (t : Int) = fl (256 * t) := fl_ofInt t (by omega)
    refine AutoFloatOps.add_fi_1 (by rw [e, fl_notInf (by omega)]; decide) ?_
    rw [e, fl_add hs]; exact h _ _ (.inl ⟨_, rfl⟩)
  · refine PyProof.Rows.add_int ?_
    refine h _ _ (.inr ⟨i + t, s.toks, ?_, by omega⟩)
    rw [Int.natCast_add]
theorem num_add_fl {v : Value} {a b : Nat} {u : Tok} (hv : NumIs v a) (hs : a + b < 2 ^ 53) (h : ∀ t tk, Q (.float (fl (a + b)) t) { s with toks := tk }) :
    wpAny (model prog w) A (binaryOp .Add v (.float (fl b) u)) Q E s := by
  rcases hv with ⟨t', rfl⟩ | ⟨i, t', rfl, rfl⟩
  · refine AutoFloatOps.add_0 ?_
    rw [fl_add hs]; exact h _ _
  · have e : Float64.ofInt (i : Int) = fl (256 * i) := fl_ofInt i (by omega)
    refine AutoFloatOps.add_if_1 (by rw [e, fl_notInf (by omega)]; decide) ?_
    rw [e, fl_add hs]; exact h _ _
theorem int_mul_fl {k : Int} {k' a : Nat} {t u : Tok} (hkk : k = (k' : Int)) (hk : 256 * k' < 2 ^ 53) (ha : a < 2 ^ 53) (hs : a * k' < 2 ^ 53) (h : ∀ t tk, Q (.float (fl (a * k')) t) { s with toks := tk }) :
    wpAny (model prog w) A (binaryOp .Mult (.int k t) (.float (fl a) u)) Q E s := by
  subst hkk
  have e : Float64.ofInt (k' : Int) = fl (256 * k') := fl_ofInt k' hk
  refine AutoFloatOps.mul_if_1 (by rw [e, fl_notInf hk]; decide) ?_
  rw [e, fl_mul' ha hk hs]; exact h _ _
theorem num_lt_zero {v : Value} {a : Nat} {u : Tok} (hv : NumIs v a) (ha : a < 2 ^ 53) (h : Q (.bool false) s) :
    wpAny (model prog w) A (compareOp .Lt v (.int 0 u)) Q E s := by
  rcases hv with ⟨t', rfl⟩ | ⟨i, t', rfl, rfl⟩
  · refine lt_fi ?_
    rw [fl_cmpInt ha]
    have : (some (compare (a : Int) (256 * 0)) == some Ordering.lt) = false := by
      rcases Nat.eq_zero_or_pos a with q | q
      · subst q; rfl
      · rw [Int.compare_eq_gt.mpr (by omega)]; rfl
    rw [this]; exact h
  · refine lt_int ?_
    rw [show decide ((i : Int) < 0) = false by simp]
    exact h
theorem fl_ne_self {a : Nat} {t u : Tok} (ha : a < 2 ^ 53) (h : Q (.bool false) s) : wpAny (model prog w) A (compareOp .NotEq (.float (fl a) t) (.float (fl a) u)) Q E s := by
  refine AutoFloatOps.ne_0 ?_
  rw [fl_cmp ha ha]
  have : (some (compare (a : Int) (a : Int)) != some Ordering.eq) = false := by simp
  rw [this]; exact h
end
end Mine
end
section
open PySem PySem.W PyProof.Rows
namespace Mine
theorem told_body {w : World} {A : Around} {s : Shared} {E : Value → Shared → Prop} {Q : Flow → Shared → Prop} {L fa W : Addr} {cd : Value} {mg mb m : Str → Option Value} {h₀ : Heap} {ws : List Value} {kv : Value} {t1 t2 t3 : Tok} {x x0 wx t n : Nat}
   (X : (hd.heap_39 w.params).In h₀) (T : TopRead topProg lo mg mb h₀) (hh : A.handled = none) (N : News h₀ L s.heap [(W, LCg.lst ws)])
   (F : Fr h₀ L s.heap (kstB m [(Str.ofString "told", .float (fl x) t1), (Str.ofString "known", kv), (Str.ofString "t", .int (t : Int) t2), (Str.ofString "worth", .float (fl wx) t3), (Str.ofString "ways", .ref W)]))
   (hk : NumIs kv x0) (hn : ws.length = n + 1) (hn9 : n < 100) (ht9 : t < 100) (hx : x = x0 + 256 * t + wx * n) (hx9 : x < 2 ^ 53) (hwx : wx < 2 ^ 53) (h : ∀ tk, Q .next { s with toks := tk })
   : wpAny (model prg w) A (execs lawTold (lawEnv L fa cd)) Q E s := by
  have kf : Named PySem.Challenge.rw_rs0025_01 hd.heap_39 := by (k_fill; exact named)
  clear kf
  dsimp only [kstB] at F
  unfold lawEnv
  conv in lawScope => whnf
  conv in lawTold => whnf
  iterate 9 (first | walk1 | (dsimp only; walk1))
  refine num_add_int hk (by omega) (fun v' tk hv' => ?_)
  iterate 8 (first | walk1 | (dsimp only; walk1))
  have hW : s.heap.IsList W ws.toArray := ⟨_, (N _ (.head _)).1, rfl, ws.length, rfl⟩
  refine len_list hW (by simp; omega) ?_
  iterate 3 (first | walk1 | (dsimp only; walk1))
  refine int_mul_fl (k' := n) (by simp; omega) (by omega) hwx (by omega) (fun t4 tk4 => ?_)
  dsimp only
  refine num_add_fl hv' (by omega) (fun t5 tk5 => ?_)
  rw [← hx]
  dsimp only
  refine fl_ne_self hx9 ?_
  iterate 20 (first | walk1 | (dsimp only; walk1))
  exact h _
end Mine
end
section
open PySem PySem.W PyProof.Rows
namespace Mine
section
variable {w : World} {A : Around} {s : Shared} {E : Value → Shared → Prop} {Q : Value → Shared → Prop} {mg mb : Str → Option Value} {h₀ : Heap} {L : Addr} {m : Str → Option Value} {news : List (Addr × Obj)}
theorem call_wait {r l : Addr} {vs us : List Value} {ns ms : List Int} (F : Fr h₀ L s.heap m) (N : News h₀ L s.heap news) (X : (hd.heap_39 w.params).In h₀) (T : TopRead topProg lo mg mb h₀) (hh : A.handled = none) (hdp : A.depth < 800) (hun : A.units < 8000)
    (hl : s.heap.IsList r vs.toArray) (hi : IntsAre vs ns) (hl2 : s.heap.IsList l us.toArray) (hi2 : IntsAre us ms) (hlen : ns.length ≤ 8) (hm : Loads ms) (hrow : Row ms ns)
    (h : ∀ h' tk v, Fr h₀ L h' m → News h₀ L h' news → WaitV ms ns v → Q v { s with heap := h', toks := tk }) :
    wpAny (model prg w) A (call (.ref 84) [.ref r, .ref l] []) Q E s := by
  refine wpAny_call (wait_code (X.keeps F.keep) (T.keeps F.keep) hh hdp hun hl hi hl2 hi2 hlen hm hrow ?_)
  intro h' tk v k hv
  exact h h' tk v (frStays F k) (newsStays N k) hv
theorem call_mean_none {d : Addr} {vs : List Value} {xs : List Nat} {q : Nat} (F : Fr h₀ L s.heap m) (N : News h₀ L s.heap news) (X : (hd.heap_39 w.params).In h₀) (T : TopRead topProg lo mg mb h₀) (hh : A.handled = none) (hdp : A.depth < 800)
    (hl : s.heap.IsList d vs.toArray) (hx : FlsAre vs xs) (h0 : 0 < xs.length) (hs : xs.sum < 2 ^ 53) (hn : 256 * xs.length < 2 ^ 53) (hq : xs.sum = q * xs.length)
    (h : ∀ h' tk t, Fr h₀ L h' m → News h₀ L h' news → Q (.float (fl q) t) { s with heap := h', toks := tk }) :
    wpAny (model prg w) A (call (.ref 91) [.ref d, .none] []) Q E s := by
  refine wpAny_call (mean_none (X.keeps F.keep) (T.keeps F.keep) hh hdp hl hx h0 hs hn hq ?_)
  intro h' tk t k
  exact h h' tk t (frStays F k) (newsStays N k)
theorem call_mean_w {d wl : Addr} {vs us : List Value} {xs ks : List Nat} {q : Nat} (F : Fr h₀ L s.heap m) (N : News h₀ L s.heap news) (X : (hd.heap_39 w.params).In h₀) (T : TopRead topProg lo mg mb h₀) (hh : A.handled = none) (hdp : A.depth < 800)
    (hl : s.heap.IsList d vs.toArray) (hx : FlsAre vs xs) (hl2 : s.heap.IsList wl us.toArray) (hk : IntsAre us (ks.map fun k : Nat => (k : Int))) (hlen : xs.length = ks.length) (h0 : xs ≠ []) (hk0 : 0 < ks.sum) (hs : dot xs ks < 2 ^ 53) (hks : 256 * ks.sum < 2 ^ 53)
    (hkb : ∀ k ∈ ks, 256 * k < 2 ^ 53) (hxb : ∀ x ∈ xs, x < 2 ^ 53) (hq : dot xs ks = q * ks.sum)
    (h : ∀ h' tk t, Fr h₀ L h' m → News h₀ L h' news → Q (.float (fl q) t) { s with heap := h', toks := tk }) :
    wpAny (model prg w) A (call (.ref 91) [.ref d, .ref wl] []) Q E s := by
  refine wpAny_call (mean_w (X.keeps F.keep) (T.keeps F.keep) hh hdp hl hx hl2 hk hlen h0 hk0 hs hks hkb hxb hq ?_)
  intro h' tk t k
  exact h h' tk t (frStays F k) (newsStays N k)
end
theorem lst_list {h₀ h : Heap} {L a : Addr} {ws : List Value} {led : List (Addr × Obj)} (N : News h₀ L h led) (hm : (a, LCg.lst ws) ∈ led) : h.IsList a ws.toArray := ⟨_, (N _ hm).1, rfl, ws.length, rfl⟩
theorem of_list {h₀ h : Heap} {L a : Addr} {ws : List Value} {n : Nat} {led : List (Addr × Obj)} (N : News h₀ L h led) (hm : (a, W.listOf ws.toArray n) ∈ led) : h.IsList a ws.toArray := ⟨_, (N _ hm).1, rfl, n, rfl⟩
theorem news_sub {h₀ h : Heap} {L : Addr} {led led' : List (Addr × Obj)} (N : News h₀ L h led) (hs : ∀ p ∈ led', p ∈ led) : News h₀ L h led' := fun p hp => N p (hs p hp)
end Mine
end
section
open PySem PySem.W PyProof.Rows PySem.Calls
namespace Mine
section
variable {prog : Program} {w : World} {A : Around} {h₀ : Heap} {L : Addr} {env : Env}
theorem assign_local {s : Shared} {E : Value → Shared → Prop} {Q : Unit → Shared → Prop} {m : Str → Option Value} {led : List (Addr × Obj)} {x : Str} {px : Pos} {v : Value} (hLe : env.locals = L) (hx : env.kindOf x = some .local)
    (hp : (env.scope.kind == .class || (env.scope.kind == .module && env.locals != env.globals)) = false) (F : Fr h₀ L s.heap m) (N : News h₀ L s.heap led)
    (h : ∀ h' tk, Fr h₀ L h' (fun z => if z = x then some v else m z) → News h₀ L h' led → Q () { s with heap := h', toks := tk }) : wpAny (model prog w) A (assign (.Name x px) env v) Q E s := by
  subst hLe
  refine wpAny_assign_Name (wpAny_storeName_local hx F.ns (fun h₂ hn₂ hs₂ => ?_) hp)
  have hL₀ : h₀.get? env.locals = none := Heap.get?_none_of_le F.above
  exact h h₂ _ ⟨hn₂, fun b o e => hs₂.extBut b o (fun q => by rw [q, hL₀] at e; cases e) (F.keep b o e), F.above⟩ fun p hp => ⟨hs₂.extBut _ _ (N p hp).2.1 (N p hp).1, (N p hp).2⟩
theorem store_cell {s : Shared} {E : Value → Shared → Prop} {Q : Unit → Shared → Prop} {m : Str → Option Value} {led : List (Addr × Obj)} {x : Str} {v : Value} {v₀ : Option Value} {c : Addr} {oc : Obj} (hk : env.scope.kind = .function) (hx : env.kindOf x = some .cell)
    (hc : env.cells.lookup x = some c) (F : Fr h₀ L s.heap m) (N : News h₀ L s.heap led) (hm : (c, oc) ∈ led) (hd : oc.data = .cell v₀)
    (h : ∀ h' oc', oc'.data = .cell (some v) → Fr h₀ L h' m → (∀ led', (∀ p ∈ led', p = (c, oc') ∨ (p ∈ led ∧ p.1 ≠ c)) → News h₀ L h' led') → Q () { s with heap := h' }) : wpAny (model prog w) A (storeName env x v) Q E s := by
  have z := N _ hm
  refine wpAny_storeName_cell hk hx hc ⟨oc, z.1, hd⟩ (fun h₂ hc₂ hs₂ => ?_)
  obtain ⟨oc', ho, hd'⟩ := hc₂
  exact h h₂ oc' hd' (F.change hs₂ z.2.1 z.2.2) fun led' hsub => news_set N hs₂ ho ⟨_, hm⟩ hsub
theorem assign_cell {s : Shared} {E : Value → Shared → Prop} {Q : Unit → Shared → Prop} {m : Str → Option Value} {led : List (Addr × Obj)} {x : Str} {px : Pos} {v : Value} {v₀ : Option Value} {c : Addr} {oc : Obj} (hk : env.scope.kind = .function) (hx : env.kindOf x = some .cell)
    (hc : env.cells.lookup x = some c) (F : Fr h₀ L s.heap m) (N : News h₀ L s.heap led) (hm : (c, oc) ∈ led) (hd : oc.data = .cell v₀)
    (h : ∀ h' oc', oc'.data = .cell (some v) → Fr h₀ L h' m → (∀ led', (∀ p ∈ led', p = (c, oc') ∨ (p ∈ led ∧ p.1 ≠ c)) → News h₀ L h' led') → Q () { s with heap := h' }) : wpAny (model prog w) A (assign (.Name x px) env v) Q E s :=
  wpAny_assign_Name (store_cell hk hx hc F N hm hd h)
theorem for_walk {s : Shared} {R : Result → Shared → Prop} {x : Str} {px : Pos} {body : List Stmt} {I : Addr} {fp : List Addr} {n : Nat} {P : Nat → Value → Prop} {St : Nat → Heap → Prop} {S : List (Addr × Obj) → Prop} {Inv : Nat → (Str → Option Value) → List (Addr × Obj) → Prop}
    {m : Str → Option Value} {led : List (Addr × Obj)} (W : Walks prog w A I fp [I] n P St) (hIo : ∀ i h, St i h → ∃ o, h.get? I = some o)
    (hSt : ∀ i h h' o nw, St i h → h.get? I = some o → h'.get? I = some o → (∀ b o, h₀.get? b = some o → h'.get? b = some o) → News h₀ L h' nw → S nw → St i h')
    (hst : St 0 s.heap) (F : Fr h₀ L s.heap m) (N : News h₀ L s.heap led) (hIL : L ≠ I) (hI₀ : h₀.get? I = none) (off : Off I led) (hS : S led) (hI : Inv 0 m led)
    (turn : ∀ i v oI m₁ led₁ h tk (E' : Value → Shared → Prop), i < n → P i v → Inv i m₁ led₁ → Fr h₀ L h m₁ → News h₀ L h ((I, oI) :: led₁) → Off I led₁ → S led₁ →
      wpAny (model prog w) A (assign (.Name x px) env v) (fun _ s₂ => wpAny (model prog w) A (execs body env) (fun f s₃ => f = .next ∧ ∃ h' tk' m₂ led₂, s₃ = { s with heap := h', toks := tk' } ∧ Fr h₀ L h' m₂ ∧
        News h₀ L h' ((I, oI) :: led₂) ∧ Off I led₂ ∧ S led₂ ∧ Inv (i + 1) m₂ led₂) E' s₂) E' { s with heap := h, toks := tk })
    (done : ∀ h tk m₁ led₁, Inv n m₁ led₁ → Fr h₀ L h m₁ → News h₀ L h led₁ → R (.ok .next) { s with heap := h, toks := tk }) :
    codeAny (model prog w) A (.forLoop (.Name x px) (.ref I) body [] env) R s := by
  refine codeAny_forLoop (fun k s' => ∃ h tk i m₁ led₁, s' = { s with heap := h, toks := tk } ∧ i ≤ n ∧ k = n + 1 - i ∧ St i h ∧ Fr h₀ L h m₁ ∧ News h₀ L h led₁ ∧ Off I led₁ ∧ S led₁ ∧ Inv i m₁ led₁) ?_ (n + 1)
    ⟨s.heap, s.toks, 0, m, led, rfl, Nat.zero_le _, rfl, hst, F, N, off, hS, hI⟩
  rintro k s' ⟨h, tk, i, m₁, led₁, rfl, hi, rfl, hst, F, N, off, hS, hI⟩
  by_cases hlt : i < n
  · refine W.item i _ _ _ hlt hst fun v h₂ tk₂ hPv hst₂ hk₂ => ?_
    have F₂ := LCg.fr_but F hk₂ hIL hI₀
    have N₂ := LCg.news_but N hk₂ off
    obtain ⟨oI, hoI⟩ := hIo _ _ hst₂
    have N₃ : News h₀ L h₂ ((I, oI) :: led₁) := by
      intro p hp
      rcases List.mem_cons.mp hp with rfl | hp
      · exact ⟨hoI, Ne.symm hIL, hI₀⟩
      · exact N₂ p hp
    refine wpAny_mono (turn i v oI m₁ led₁ h₂ tk₂ _ hlt hPv hI F₂ N₃ off hS) (fun _ s₂ q => wpAny_mono q (fun f s₃ q => ?_) fun _ _ e => e) fun _ _ e => e
    obtain ⟨rfl, h', tk', m₂, led₂, rfl, F', N', off', hS', hI'⟩ := q
    exact ⟨n + 1 - (i + 1), by omega, h', tk', i + 1, m₂, led₂, rfl, hlt, rfl, hSt _ _ _ _ _ hst₂ hoI (N' _ (.head _)).1 F'.keep (fun p hp => N' p (.tail _ hp)) hS', F', fun p hp => N' p (.tail _ hp), off', hS', hI'⟩
  · obtain rfl : i = n := Nat.le_antisymm hi (Nat.not_lt.mp hlt)
    refine W.done _ _ _ hst fun h₂ tk₂ hk₂ => wpAny_execs_nil ?_
    exact done h₂ tk₂ m₁ led₁ hI (LCg.fr_but F hk₂ hIL hI₀) (LCg.news_but N hk₂ off)
theorem For_list {s : Shared} {E : Value → Shared → Prop} {Q : Flow → Shared → Prop} {x : Str} {px pos : Pos} {iter : PySem.Expr} {body : List Stmt}
    (hh : A.handled = none) (hs : ∀ x, foldedSetIterable iter env x = pure x)
    (h : wpAny (model prog w) A (eval iter env) (fun xv s₁ => ∃ (ax : Addr) (its : Array Value) (Inv : Nat → (Str → Option Value) → List (Addr × Obj) → Prop) (m : Str → Option Value) (led : List (Addr × Obj)), xv = .ref ax ∧ Fr h₀ L s₁.heap m ∧ News h₀ L s₁.heap led ∧ LCg.SrcAt h₀ ax its led ∧ Inv 0 m led ∧
      (∀ i v I oI m₁ led₁ h tk (E' : Value → Shared → Prop), i < its.size → its[i]? = some v → Inv i m₁ led₁ → Fr h₀ L h m₁ → News h₀ L h ((I, oI) :: led₁) → Off I led₁ → LCg.SrcAt h₀ ax its led₁ →
        wpAny (model prog w) A (assign (.Name x px) env v) (fun _ s₂ => wpAny (model prog w) A (execs body env) (fun f s₃ => f = .next ∧ ∃ h' tk' m₂ led₂, s₃ = { s₁ with heap := h', toks := tk' } ∧ Fr h₀ L h' m₂ ∧
          News h₀ L h' ((I, oI) :: led₂) ∧ Off I led₂ ∧ LCg.SrcAt h₀ ax its led₂ ∧ Inv (i + 1) m₂ led₂) E' s₂) E' { s₁ with heap := h, toks := tk }) ∧
      (∀ h tk m₁ led₁, Inv its.size m₁ led₁ → Fr h₀ L h m₁ → News h₀ L h led₁ → Q .next { s₁ with heap := h, toks := tk })) E s) :
    wpAny (model prog w) A (exec (.For (.Name x px) iter body [] pos) env) Q E s := by
  refine wpAny_For (wpAny_mono h (fun xv s₁ h₁ => ?_) fun _ _ e => e) hs
  obtain ⟨ax, its, Inv, m, led, rfl, F, N, S, hI, turn, done⟩ := h₁
  have hl := S.list F.keep N
  have hlt : ax < s₁.heap.objs.size := by obtain ⟨_, e, _⟩ := hl; exact Heap.lt_size e
  refine wpAny_pyIter_list hl ?_
  have up : ∀ b o, s₁.heap.get? b = some o → (s₁.heap.push { cls := .type "list_iterator", data := .fields #[.ref ax, .int 0 0] }).get? b = some o := fun b o e => Heap.get?_push_of_some _ e
  exact for_walk (Walks.list hh s₁.heap.objs.size ax (Nat.ne_of_lt hlt) its) (fun i h st => by obtain ⟨o, e, _⟩ := st.1; exact ⟨o, e⟩) LCg.list_st ⟨⟨_, Heap.get?_push_size _ rfl, rfl, rfl⟩, hl.push _⟩
    (F.keeps up) (N.grown up) (Nat.ne_of_lt F.ns.lt) (next_is_new F) (fun p hp => Nat.ne_of_lt (Heap.lt_size (N p hp).1)) S hI (fun i v oI m₁ led₁ h tk E' a b c d e f g => turn i v _ oI m₁ led₁ h tk E' a b c d e f g) done
theorem For_range {s : Shared} {E : Value → Shared → Prop} {Q : Flow → Shared → Prop} {x : Str} {px pos : Pos} {iter : PySem.Expr} {body : List Stmt}
    (hh : A.handled = none) (hs : ∀ x, foldedSetIterable iter env x = pure x)
    (h : wpAny (model prog w) A (eval iter env) (fun xv s₁ => ∃ (r : Addr) (a b : Int) (n : Nat) (t u z : Tok) (Inv : Nat → (Str → Option Value) → List (Addr × Obj) → Prop) (m : Str → Option Value) (led : List (Addr × Obj)), xv = .ref r ∧ IsRange s₁.heap r a b 1 t u z ∧ Builtin.Range.small a b 1 = true ∧ Builtin.Range.rangeSize a b 1 = (n : Int) ∧ Fr h₀ L s₁.heap m ∧ News h₀ L s₁.heap led ∧ Inv 0 m led ∧
      (∀ i t I oI m₁ led₁ h tk (E' : Value → Shared → Prop), i < n → Inv i m₁ led₁ → Fr h₀ L h m₁ → News h₀ L h ((I, oI) :: led₁) → Off I led₁ →
        wpAny (model prog w) A (assign (.Name x px) env (.int (a + (i : Int)) t)) (fun _ s₂ => wpAny (model prog w) A (execs body env) (fun f s₃ => f = .next ∧ ∃ h' tk' m₂ led₂, s₃ = { s₁ with heap := h', toks := tk' } ∧ Fr h₀ L h' m₂ ∧
          News h₀ L h' ((I, oI) :: led₂) ∧ Off I led₂ ∧ Inv (i + 1) m₂ led₂) E' s₂) E' { s₁ with heap := h, toks := tk }) ∧
      (∀ h tk m₁ led₁, Inv n m₁ led₁ → Fr h₀ L h m₁ → News h₀ L h led₁ → Q .next { s₁ with heap := h, toks := tk })) E s) :
    wpAny (model prog w) A (exec (.For (.Name x px) iter body [] pos) env) Q E s := by
  refine wpAny_For (wpAny_mono h (fun xv s₁ h₁ => ?_) fun _ _ e => e) hs
  obtain ⟨r, a, b, n, t, u, z, Inv, m, led, rfl, hr, hsm, hn, F, N, hI, turn, done⟩ := h₁
  refine wpAny_pyIter_range hr hsm ?_
  rw [hn]
  refine for_walk (S := fun _ => True) (LCg.range_walks hh a n) (fun i h st => ⟨_, st⟩) LCg.range_st (by show IsRangeIter _ _ _ _ _; simpa using Heap.get?_push_size _ rfl)
    (F.keeps fun _ _ e => Heap.get?_push_of_some _ e) (N.grown fun _ _ e => Heap.get?_push_of_some _ e) (Nat.ne_of_lt F.ns.lt) (next_is_new F) (fun p hp => Nat.ne_of_lt (Heap.lt_size (N p hp).1)) trivial hI (fun i v oI m₁ led₁ h tk E' hi hv c d e f _ => ?_) done
  obtain ⟨t, rfl⟩ := hv
  refine wpAny_mono (turn i t _ oI m₁ led₁ h tk E' hi c d e f) (fun _ s₂ q => wpAny_mono q (fun f s₃ q => ?_) fun _ _ e => e) fun _ _ e => e
  obtain ⟨hf, h', tk', m₂, led₂, e, F', N', off', hI'⟩ := q
  exact ⟨hf, h', tk', m₂, led₂, e, F', N', off', trivial, hI'⟩
end
end Mine
end
section
open PySem PySem.W PyProof.Rows
namespace Mine
theorem told_for {w : World} {A : Around} {s : Shared} {E : Value → Shared → Prop} {Q : Flow → Shared → Prop} {L fa W Wt Gt O : Addr} {cd : Value} {mg mb m : Str → Option Value} {h₀ : Heap} {ws waits wgts oft : List Value} {kv : Value} {t2 t3 : Tok} {x x0 wx t n : Nat}
   {led : List (Addr × Obj)} {o6 o7 : Obj} {xs ks os : List Nat}
   (X : (hd.heap_39 w.params).In h₀) (T : TopRead topProg lo mg mb h₀) (hh : A.handled = none) (hdp : A.depth < 700)
   (N : News h₀ L s.heap ((L + 1 + 1 + 1 + 1 + 1 + 1, o6) :: (L + 1 + 1 + 1 + 1 + 1 + 1 + 1, o7) :: (W, LCg.lst ws) :: (Wt, LCg.lst waits) :: (Gt, LCg.lst wgts) :: (O, LCg.lst oft) :: led))
   (F : Fr h₀ L s.heap (kstB m [(Str.ofString "known", kv), (Str.ofString "t", .int (t : Int) t2), (Str.ofString "worth", .float (fl wx) t3), (Str.ofString "ways", .ref W), (Str.ofString "often", .ref O)]))
   (d6 : o6.data = .cell (some (.ref Wt))) (d7 : o7.data = .cell (some (.ref Gt)))
   (hk : NumIs kv x0) (hn : ws.length = n + 1) (hn9 : n < 100) (ht9 : t < 100) (hx : x = x0 + 256 * t + wx * n) (hx9 : x < 2 ^ 53) (hwx : wx < 2 ^ 53)
   (hxs : FlsAre waits xs) (hks : IntsAre wgts (ks.map fun k : Nat => (k : Int))) (hos : FlsAre oft os) (hlen : xs.length = ks.length) (hne : xs ≠ []) (hk0 : 0 < ks.sum) (hdot : dot xs ks < 2 ^ 53) (hks9 : 256 * ks.sum < 2 ^ 53)
   (hkb : ∀ k ∈ ks, 256 * k < 2 ^ 53) (hxb : ∀ x ∈ xs, x < 2 ^ 53) (hq : dot xs ks = x * ks.sum) (ho0 : 0 < os.length) (hos9 : os.sum < 2 ^ 53) (hol9 : 256 * os.length < 2 ^ 53) (hoq : os.sum = x * os.length)
   (h : ∀ h' tk v, Fr h₀ L h' (fun y => if y = Str.ofString "told" then v else kstB m [(Str.ofString "known", kv), (Str.ofString "t", .int (t : Int) t2), (Str.ofString "worth", .float (fl wx) t3), (Str.ofString "ways", .ref W), (Str.ofString "often", .ref O)] y) →
      News h₀ L h' ((L + 1 + 1 + 1 + 1 + 1 + 1, o6) :: (L + 1 + 1 + 1 + 1 + 1 + 1 + 1, o7) :: (W, LCg.lst ws) :: (Wt, LCg.lst waits) :: (Gt, LCg.lst wgts) :: (O, LCg.lst oft) :: led) → Q .next { s with heap := h', toks := tk })
   : wpAny (model prg w) A (exec (lawT.getD 5 (.Pass ⟨0, 0, 0, 0⟩)) (lawEnv L fa cd)) Q E s := by
  have kf : Named PySem.Challenge.rw_rs0025_01 hd.heap_39 := by (k_fill; exact named)
  clear kf
  dsimp only [kstB] at F
  unfold lawEnv
  conv in lawScope => whnf
  conv in lawT.getD _ _ => whnf
  refine For_list (h₀ := h₀) (L := L) hh (by intro _; rfl) ?_
  iterate 10 (first | walk1 | (dsimp only; walk1))
  refine ⟨X.keeps F.keep, ?_⟩
  refine call_mean_w F N X T hh (by omega) (lst_list N (.tail _ (.tail _ (.tail _ (.head _))))) hxs (lst_list N (.tail _ (.tail _ (.tail _ (.tail _ (.head _)))))) hks hlen hne hk0 hdot hks9 hkb hxb hq (fun h1 tk1 t4 F N => ?_)
  iterate 9 (first | walk1 | (dsimp only; walk1))
  refine ⟨X.keeps F.keep, ?_⟩
  refine call_mean_none F N X T hh (by omega) (lst_list N (.tail _ (.tail _ (.tail _ (.tail _ (.tail _ (.head _))))))) hos ho0 hos9 hol9 hoq (fun h2 tk2 t5 F N => ?_)
  iterate 2 (first | walk1 | (dsimp only; walk1))
  rename_i l' h3 F N l1
  refine ⟨l', #[.float (fl x) t4, .float (fl x) t5], fun i m₁ led₁ => (∀ y, y ≠ Str.ofString "told" → m₁ y = kstB m [(Str.ofString "known", kv), (Str.ofString "t", .int (t : Int) t2), (Str.ofString "worth", .float (fl wx) t3), (Str.ofString "ways", .ref W), (Str.ofString "often", .ref O)] y) ∧
    ∀ p ∈ ((L + 1 + 1 + 1 + 1 + 1 + 1, o6) :: (L + 1 + 1 + 1 + 1 + 1 + 1 + 1, o7) :: (W, LCg.lst ws) :: (Wt, LCg.lst waits) :: (Gt, LCg.lst wgts) :: (O, LCg.lst oft) :: led), p ∈ led₁, _, _, rfl, F, N, .inr ⟨_, .head _, rfl, 0, rfl⟩, ⟨fun y _ => rfl, fun p hp => .tail _ hp⟩, ?_, ?_⟩
  · intro i v I oI m₁ led₁ h4 tk4 E' hi hv ⟨hm, hsub⟩ F N off S
    obtain ⟨t6, rfl⟩ : ∃ t6, v = .float (fl x) t6 := by
      rcases i with _ | _ | i
      · exact ⟨t4, by simpa using hv.symm⟩
      · exact ⟨t5, by simpa using hv.symm⟩
      · simp at hi; omega
    refine assign_local rfl rfl rfl F N (fun h5 tk5 F N => ?_)
    refine told_body (n := n) (x0 := x0) (wx := wx) (t1 := t6) (t2 := t2) (t3 := t3) (m := fun z => if z = Str.ofString "often" then some (.ref O) else m z) X T hh (news_sub N (led' := [(W, LCg.lst ws)]) (fun p hp => ?_)) (?_ : Fr h₀ L h5 _) hk hn hn9 ht9 hx hx9 hwx (fun tk => ⟨rfl, h5, tk, _, led₁, rfl, F, N, off, S, fun y hy => ?_, hsub⟩)
    · rw [List.mem_singleton.mp hp]; exact .tail _ (hsub _ (.tail _ (.tail _ (.head _))))
    · have e : (fun z => if z = Str.ofString "told" then some (Value.float (fl x) t6) else m₁ z) = kstB (fun z => if z = Str.ofString "often" then some (.ref O) else m z) [(Str.ofString "told", .float (fl x) t6), (Str.ofString "known", kv), (Str.ofString "t", .int (t : Int) t2), (Str.ofString "worth", .float (fl wx) t3), (Str.ofString "ways", .ref W)] := by
        funext z
        by_cases hz : z = Str.ofString "told"
        · simp [kstB, hz]
        · simp only [kstB, if_neg hz]
          rw [hm z hz]; rfl
      rw [← e]; exact F
    · simp only [if_neg hy]; exact hm y hy
  · intro h4 tk4 m₁ led₁ ⟨hm, hsub⟩ F N
    refine h h4 tk4 (m₁ (Str.ofString "told")) ?_ (news_sub N hsub)
    have e : m₁ = (fun y => if y = Str.ofString "told" then m₁ (Str.ofString "told") else kstB m [(Str.ofString "known", kv), (Str.ofString "t", .int (t : Int) t2), (Str.ofString "worth", .float (fl wx) t3), (Str.ofString "ways", .ref W), (Str.ofString "often", .ref O)] y) := by
      funext y
      by_cases hy : y = Str.ofString "told"
      · rw [if_pos hy, hy]
      · rw [if_neg hy, hm y hy]
    rw [← e]; exact F
end Mine
end
section
open PySem PySem.W PyProof.Rows
namespace Mine
def Rows (led : List (Addr × Obj)) (ws : List Value) (rows : List (List Int)) : Prop :=
  ws.length = rows.length ∧ ∀ (i : Nat) (row : List Int), rows[i]? = some row → ∃ (a : Addr) (us : List Value) (n : Nat), ws[i]? = some (Value.ref a) ∧ (a, W.listOf us.toArray n) ∈ led ∧ IntsAre us row
theorem Rows.mono {led led' : List (Addr × Obj)} {ws : List Value} {rows : List (List Int)} (h : Rows led ws rows) (hs : ∀ p ∈ led, p ∈ led') : Rows led' ws rows :=
  ⟨h.1, fun i row e => by obtain ⟨a, us, n, h1, h2, h3⟩ := h.2 i row e; exact ⟨a, us, n, h1, hs _ h2, h3⟩⟩
theorem Rows.nil {led : List (Addr × Obj)} : Rows led [] [] := ⟨rfl, fun i row e => by simp at e⟩
theorem Rows.snoc {led : List (Addr × Obj)} {ws : List Value} {rows : List (List Int)} {a : Addr} {us : List Value} {n : Nat} {row : List Int} (h : Rows led ws rows) (hm : (a, W.listOf us.toArray n) ∈ led) (hi : IntsAre us row) : Rows led (ws ++ [Value.ref a]) (rows ++ [row]) := by
  refine ⟨by simp [h.1], fun i r e => ?_⟩
  by_cases hlt : i < rows.length
  · rw [List.getElem?_append_left hlt] at e
    obtain ⟨b, us', n', h1, h2, h3⟩ := h.2 i r e
    exact ⟨b, us', n', by rw [List.getElem?_append_left (by rw [h.1]; exact hlt)]; exact h1, h2, h3⟩
  · rw [List.getElem?_append_right (Nat.not_lt.mp hlt)] at e
    have h0 : i - rows.length = 0 := by
      rcases Nat.eq_zero_or_pos (i - rows.length) with q | q
      · exact q
      · rw [List.getElem?_eq_none (by simp; omega)] at e; cases e
    rw [h0] at e
    simp at e
    subst e
    exact ⟨a, us, n, by rw [List.getElem?_append_right (by rw [h.1]; exact Nat.not_lt.mp hlt), h.1, h0]; rfl, hm, hi⟩
theorem ne25 (L : Nat) : L + 1 + 1 ≠ L + 1 + 1 + 1 + 1 + 1 := by omega
theorem ne26 (L : Nat) : L + 1 + 1 ≠ L + 1 + 1 + 1 + 1 + 1 + 1 := by omega
theorem ne27 (L : Nat) : L + 1 + 1 ≠ L + 1 + 1 + 1 + 1 + 1 + 1 + 1 := by omega
theorem ne35 (L : Nat) : L + 1 + 1 + 1 ≠ L + 1 + 1 + 1 + 1 + 1 := by omega
theorem ne36 (L : Nat) : L + 1 + 1 + 1 ≠ L + 1 + 1 + 1 + 1 + 1 + 1 := by omega
theorem ne37 (L : Nat) : L + 1 + 1 + 1 ≠ L + 1 + 1 + 1 + 1 + 1 + 1 + 1 := by omega
theorem ne45 (L : Nat) : L + 1 + 1 + 1 + 1 ≠ L + 1 + 1 + 1 + 1 + 1 := by omega
theorem ne46 (L : Nat) : L + 1 + 1 + 1 + 1 ≠ L + 1 + 1 + 1 + 1 + 1 + 1 := by omega
theorem ne47 (L : Nat) : L + 1 + 1 + 1 + 1 ≠ L + 1 + 1 + 1 + 1 + 1 + 1 + 1 := by omega
theorem ne56 (L : Nat) : L + 1 + 1 + 1 + 1 + 1 ≠ L + 1 + 1 + 1 + 1 + 1 + 1 := by omega
theorem ne57 (L : Nat) : L + 1 + 1 + 1 + 1 + 1 ≠ L + 1 + 1 + 1 + 1 + 1 + 1 + 1 := by omega
theorem ne65 (L : Nat) : L + 1 + 1 + 1 + 1 + 1 + 1 ≠ L + 1 + 1 + 1 + 1 + 1 := by omega
theorem ne67 (L : Nat) : L + 1 + 1 + 1 + 1 + 1 + 1 ≠ L + 1 + 1 + 1 + 1 + 1 + 1 + 1 := by omega
theorem ne75 (L : Nat) : L + 1 + 1 + 1 + 1 + 1 + 1 + 1 ≠ L + 1 + 1 + 1 + 1 + 1 := by omega
theorem ne76 (L : Nat) : L + 1 + 1 + 1 + 1 + 1 + 1 + 1 ≠ L + 1 + 1 + 1 + 1 + 1 + 1 := by omega
theorem off_nil {D : Addr} : Off D [] := fun _ hp => absurd hp List.not_mem_nil
theorem off_one {D : Addr} : ∀ {l : List (Addr × Obj)}, LCg.Off1 D l → Off D l
  | [], _ => fun _ hp => nomatch hp
  | _ :: _, h => fun p hp => by
    rcases List.mem_cons.mp hp with rfl | hp
    · exact h.1
    · exact off_one h.2 p hp
theorem FlsAre.snoc : ∀ {vs : List Value} {xs : List Nat} {x : Nat} {t : Tok}, FlsAre vs xs → FlsAre (vs ++ [Value.float (fl x) t]) (xs ++ [x])
  | _, _, _, _, .nil => .cons .nil
  | _, _, _, _, .cons h => .cons h.snoc
theorem intsSnoc : ∀ {vs : List Value} {xs : List Int} {x : Int} {t : Tok}, IntsAre vs xs → IntsAre (vs ++ [Value.int x t]) (xs ++ [x])
  | _, _, _, _, .nil => .cons _ _ .nil
  | _, _, _, _, .cons _ _ h => .cons _ _ (intsSnoc h)
theorem take_snoc {α : Type} {l : List α} {i : Nat} {x : α} (h : l[i]? = some x) : l.take (i + 1) = l.take i ++ [x] := by
  rw [List.take_add_one, h]; rfl
section
variable {prog : Program} {w : World} {A : Around} {h₀ : Heap} {L : Addr} {m : Str → Option Value} {env : Env}
theorem comp_inv {elt : PySem.Expr} {x : Str} {scope : Scope} {cl : List (Str × Addr)} {s : Shared} {S : List (Addr × Obj) → Prop} {P : Nat → Value → Prop} {Fin : List Value → List (Addr × Obj) → Prop} {news : List (Addr × Obj)} {n : Nat} (Pi : Nat → List Value → Prop) (hS : S news)
    (turn : ∀ i v ys I oI C oC D m₂ h tk (E' : Value → Shared → Prop), i < n → P i v → Pi i ys → LCg.NsObj oC m₂ → m₂ x = some v → Fr h₀ L h m → News h₀ L h ((I, oI) :: (C, oC) :: (D, LCg.lst ys) :: news) →
      wpAny (model prog w) A (eval elt (compEnvC scope cl C env)) (fun y s₂ => ∃ h' tk', s₂ = { s with heap := h', toks := tk' } ∧ Fr h₀ L h' m ∧ News h₀ L h' ((I, oI) :: (C, oC) :: (D, LCg.lst ys) :: news) ∧ Pi (i + 1) (ys ++ [y])) E' { s with heap := h, toks := tk })
    (fin : ∀ ys, Pi n ys → Fin ys news) : ∀ k i ys, i + k = n → Pi i ys → LCg.CompRest prog w A h₀ L m env elt x scope cl s S P Fin k i ys news := by
  intro k
  induction k with
  | zero => intro i ys e hp; exact LCg.CompRest.zero (fin ys (by rw [← e]; exact hp))
  | succ k ih =>
    intro i ys e hp
    refine LCg.CompRest.succ fun v I oI C oC D m₂ h tk E' hv hC hx F N off ne => ?_
    refine wpAny_mono (turn i v ys I oI C oC D m₂ h tk E' (by omega) hv hp hC hx F N) (fun y s₂ q => ?_) fun _ _ e => e
    obtain ⟨h', tk', rfl, F', N', hp'⟩ := q
    exact LCg.CompEnd.intro F' N' news (fun p hp => hp) off hS (ih (i + 1) _ (by omega) hp')
end
end Mine
end
section
open PySem PySem.W PyProof.Rows
namespace Mine
theorem waits_st {w : World} {A : Around} {s : Shared} {E : Value → Shared → Prop} {Q : Flow → Shared → Prop} {L fa Wa lds ths : Addr} {cd : Value} {mg mb m : Str → Option Value} {h₀ : Heap} {ws us vs : List Value} {nw nl nt : Nat}
   {led : List (Addr × Obj)} {o3 o4 o5 o6 : Obj} {ms ns : List Int} {rows : List (List Int)} {mm : Nat} {t5 : Tok} {v6 : Option Value}
   (X : (hd.heap_39 w.params).In h₀) (T : TopRead topProg lo mg mb h₀) (hh : A.handled = none) (hdp : A.depth < 700) (hun : A.units < 7000)
   (N : News h₀ L s.heap ((L + 1 + 1 + 1, o3) :: (L + 1 + 1 + 1 + 1, o4) :: (L + 1 + 1 + 1 + 1 + 1, o5) :: (L + 1 + 1 + 1 + 1 + 1 + 1, o6) :: (lds, W.listOf us.toArray nl) :: (ths, W.listOf vs.toArray nt) :: (Wa, W.listOf ws.toArray nw) :: led))
   (F : Fr h₀ L s.heap (kstB m [(Str.ofString "ways", .ref Wa)]))
   (d3 : o3.data = .cell (some (.ref lds))) (d4 : o4.data = .cell (some (.ref ths))) (d5 : o5.data = .cell (some (.int (mm : Int) t5))) (d6 : o6.data = .cell v6)
   (hus : IntsAre us ms) (hvs : IntsAre vs ns) (hm : Loads ms) (hrow : Row ms ns) (hns : ns.length ≤ 6) (hmm : mm ≤ ns.length)
   (hR : Rows led ws rows) (hrows : ∀ r ∈ rows, Row ms r ∧ r ≠ [] ∧ r.length ≤ 2) (hrl : rows.length ≤ 9)
   (ol : lds ≠ L + 1 + 1 + 1 + 1 + 1 + 1) (ot : ths ≠ L + 1 + 1 + 1 + 1 + 1 + 1) (oW : Wa ≠ L + 1 + 1 + 1 + 1 + 1 + 1) (off : Off (L + 1 + 1 + 1 + 1 + 1 + 1) led)
   (h : ∀ h' tk Wt o6' waits, Fr h₀ L h' (kstB m [(Str.ofString "ways", .ref Wa)]) → o6'.data = .cell (some (.ref Wt)) → FlsAre waits (rows.map fun r => wsum ms.sum.toNat ms (ns.take mm ++ r) (ns.take mm ++ r).length) →
      News h₀ L h' ((Wt, LCg.lst waits) :: (L + 1 + 1 + 1, o3) :: (L + 1 + 1 + 1 + 1, o4) :: (L + 1 + 1 + 1 + 1 + 1, o5) :: (L + 1 + 1 + 1 + 1 + 1 + 1, o6') :: (lds, W.listOf us.toArray nl) :: (ths, W.listOf vs.toArray nt) :: (Wa, W.listOf ws.toArray nw) :: led) →
      Off Wt ((L + 1 + 1 + 1, o3) :: (L + 1 + 1 + 1 + 1, o4) :: (L + 1 + 1 + 1 + 1 + 1, o5) :: (L + 1 + 1 + 1 + 1 + 1 + 1, o6') :: (lds, W.listOf us.toArray nl) :: (ths, W.listOf vs.toArray nt) :: (Wa, W.listOf ws.toArray nw) :: led) → Q .next { s with heap := h', toks := tk })
   : wpAny (model prg w) A (exec (lawT.getD 1 (.Pass ⟨0, 0, 0, 0⟩)) (lawEnv L fa cd)) Q E s := by
  have kf : Named PySem.Challenge.rw_rs0025_01 hd.heap_39 := by (k_fill; exact named)
  clear kf
  dsimp only [kstB] at F
  unfold lawEnv
  conv in lawScope => whnf
  conv in lawT.getD _ _ => whnf
  iterate 1 (first | walk1 | (dsimp only; walk1))
  refine LCg.ListComp_U (F₀ := F) (by with_unfolding_all rfl) (by decide) (by rfl) (by decide) (by rfl) ?_
  iterate 1 (first | walk1 | (dsimp only; walk1))
  refine LCg.CompSrc.ledger hh F N (.tail _ (.tail _ (.tail _ (.tail _ (.tail _ (.tail _ (.head _))))))) (by have := hR.1; simp [sizeLine]; omega) (fun g => ?_)
  have hlen := hR.1
  refine comp_inv (n := ws.toArray.size) (fun i ys => FlsAre ys ((rows.take i).map fun r => wsum ms.sum.toNat ms (ns.take mm ++ r) (ns.take mm ++ r).length)) (.inr ⟨_, .tail _ (.tail _ (.tail _ (.tail _ (.tail _ (.tail _ (.head _)))))), rfl, _, rfl⟩) ?_ ?_ _ 0 [] (by simp) .nil
  · intro i v ys I oI C oC D m₂ h1 tk1 E' hi hv hys hC hx F N
    have hi' : i < rows.length := by simpa [hlen] using hi
    obtain ⟨a, us2, n2, e1, e2, hi2⟩ := hR.2 i rows[i] (List.getElem?_eq_getElem hi')
    obtain ⟨r1, r2, r3⟩ := hrows rows[i] (List.getElem_mem hi')
    have ev : v = .ref a := by
      have : ws[i]? = some v := by simpa using hv
      rw [this] at e1; exact Option.some.inj e1
    subst ev
    have N0 := N
    replace N : News h₀ L h1 ((I, oI) :: (C, oC) :: (D, LCg.lst ys) :: (a, W.listOf us2.toArray n2) :: (L + 1 + 1 + 1, o3) :: (L + 1 + 1 + 1 + 1, o4) :: (L + 1 + 1 + 1 + 1 + 1, o5) :: (L + 1 + 1 + 1 + 1 + 1 + 1, o6) :: (lds, W.listOf us.toArray nl) :: (ths, W.listOf vs.toArray nt) :: (Wa, W.listOf ws.toArray nw) :: led) := by
      intro p hp
      simp only [List.mem_cons] at hp
      rcases hp with rfl | rfl | rfl | rfl | hp
      · exact N _ (.head _)
      · exact N _ (.tail _ (.head _))
      · exact N _ (.tail _ (.tail _ (.head _)))
      · exact N _ (by simp [e2])
      · exact N _ (by simp only [List.mem_cons]; exact .inr (.inr (.inr hp)))
    iterate 19 (first | walk1 | (dsimp only; walk1))
    rename IntsAre _ (List.take _ _ ++ _) => I2
    rename Fr _ _ _ _ => F
    rename News _ _ _ _ => N
    rw [Int.toNat_natCast] at I2
    have hlt := List.length_take_le mm ns
    refine ⟨X.keeps F.keep, ?_⟩
    refine call_wait F N X T hh (by omega) (by omega) (of_list N (.head _)) I2 (of_list (a := lds) (n := nl) N (by simp)) hus (by rw [List.length_append]; omega) hm (fun x hx => ?_) (fun h3 tk3 v3 F N hv3 => ?_)
    · rcases List.mem_append.mp hx with hx | hx
      · exact take_row hrow mm x hx
      · exact r1 x hx
    dsimp only
    rcases hv3 with ⟨e, _⟩ | ⟨_, t3, rfl⟩
    · exact absurd (List.append_eq_nil_iff.mp e).2 r2
    refine ⟨h3, tk3, rfl, F, news_sub N (fun p hp => ?_), ?_⟩
    · simp only [List.mem_cons] at hp ⊢
      rcases hp with hp | hp | hp | hp
      · exact .inr (.inr (.inl hp))
      · exact .inr (.inr (.inr (.inl hp)))
      · exact .inr (.inr (.inr (.inr (.inl hp))))
      · exact .inr (.inr (.inr (.inr (.inr (.inr hp)))))
    · rw [take_snoc (List.getElem?_eq_getElem hi'), List.map_append]
      exact hys.snoc
  · intro waits hw Wt h1 tk1 F N off1
    rw [List.size_toArray, hlen, List.take_length] at hw
    have off2 := off_one off1
    have o6w : (L + 1 + 1 + 1 + 1 + 1 + 1 : Nat) ≠ Wt := off2 (_, o6) (by simp)
    refine store_cell (c := L + 1 + 1 + 1 + 1 + 1 + 1) rfl rfl rfl F N (by simp) d6 (fun h2 o6' d6' F N' => ?_)
    refine h h2 tk1 Wt o6' waits F d6' hw (N' _ fun p hp => ?_) (fun p hp => ?_)
    · simp only [List.mem_cons] at hp
      rcases hp with rfl | rfl | rfl | rfl | rfl | rfl | rfl | rfl | hp
      · exact .inr ⟨by simp, Ne.symm o6w⟩
      · exact .inr ⟨by simp, ne36 L⟩
      · exact .inr ⟨by simp, ne46 L⟩
      · exact .inr ⟨by simp, ne56 L⟩
      · exact .inl rfl
      · exact .inr ⟨by simp, ol⟩
      · exact .inr ⟨by simp, ot⟩
      · exact .inr ⟨by simp, oW⟩
      · exact .inr ⟨by simp [hp], off p hp⟩
    · simp only [List.mem_cons] at hp
      rcases hp with rfl | rfl | rfl | rfl | hp
      · exact off2 (_, o3) (by simp)
      · exact off2 (_, o4) (by simp)
      · exact off2 (_, o5) (by simp)
      · exact o6w
      · exact off2 p (by simp only [List.mem_cons]; exact .inr (.inr (.inr (.inr hp))))
end Mine
end
section
open PySem PySem.W PyProof.Rows
namespace Mine
theorem weights_st {w : World} {A : Around} {s : Shared} {E : Value → Shared → Prop} {Q : Flow → Shared → Prop} {L fa Wa lds : Addr} {cd : Value} {mg mb m : Str → Option Value} {h₀ : Heap} {ws us : List Value} {nw nl : Nat}
   {led : List (Addr × Obj)} {o3 o7 : Obj} {ms : List Int} {rows : List (List Int)} {v7 : Option Value}
   (X : (hd.heap_39 w.params).In h₀) (T : TopRead topProg lo mg mb h₀) (hh : A.handled = none) (hdp : A.depth < 700)
   (N : News h₀ L s.heap ((L + 1 + 1 + 1, o3) :: (L + 1 + 1 + 1 + 1 + 1 + 1 + 1, o7) :: (lds, W.listOf us.toArray nl) :: (Wa, W.listOf ws.toArray nw) :: led))
   (F : Fr h₀ L s.heap (kstB m [(Str.ofString "ways", .ref Wa)]))
   (d3 : o3.data = .cell (some (.ref lds))) (d7 : o7.data = .cell v7)
   (hus : IntsAre us ms) (hm : Loads ms)
   (hR : Rows led ws rows) (hrows : ∀ r ∈ rows, Row ms r ∧ r ≠ [] ∧ r.length ≤ 2) (hrl : rows.length ≤ 9)
   (ol : lds ≠ L + 1 + 1 + 1 + 1 + 1 + 1 + 1) (oW : Wa ≠ L + 1 + 1 + 1 + 1 + 1 + 1 + 1) (off : Off (L + 1 + 1 + 1 + 1 + 1 + 1 + 1) led)
   (h : ∀ h' tk Gt o7' wgts, Fr h₀ L h' (kstB m [(Str.ofString "ways", .ref Wa)]) → o7'.data = .cell (some (.ref Gt)) → IntsAre wgts (rows.map (prodL ms)) →
      News h₀ L h' ((Gt, LCg.lst wgts) :: (L + 1 + 1 + 1, o3) :: (L + 1 + 1 + 1 + 1 + 1 + 1 + 1, o7') :: (lds, W.listOf us.toArray nl) :: (Wa, W.listOf ws.toArray nw) :: led) →
      Off Gt ((L + 1 + 1 + 1, o3) :: (L + 1 + 1 + 1 + 1 + 1 + 1 + 1, o7') :: (lds, W.listOf us.toArray nl) :: (Wa, W.listOf ws.toArray nw) :: led) → Q .next { s with heap := h', toks := tk })
   : wpAny (model prg w) A (exec (lawT.getD 3 (.Pass ⟨0, 0, 0, 0⟩)) (lawEnv L fa cd)) Q E s := by
  have kf : Named PySem.Challenge.rw_rs0025_01 hd.heap_39 := by (k_fill; exact named)
  clear kf
  dsimp only [kstB] at F
  unfold lawEnv
  conv in lawScope => whnf
  conv in lawT.getD _ _ => whnf
  iterate 1 (first | walk1 | (dsimp only; walk1))
  refine LCg.ListComp_U (F₀ := F) (by with_unfolding_all rfl) (by decide) (by rfl) (by decide) (by rfl) ?_
  iterate 1 (first | walk1 | (dsimp only; walk1))
  refine LCg.CompSrc.ledger hh F N (.tail _ (.tail _ (.tail _ (.head _)))) (by have := hR.1; simp [sizeLine]; omega) (fun g => ?_)
  have hlen := hR.1
  refine comp_inv (n := ws.toArray.size) (fun i ys => IntsAre ys ((rows.take i).map (prodL ms))) (.inr ⟨_, .tail _ (.tail _ (.tail _ (.head _))), rfl, _, rfl⟩) ?_ ?_ _ 0 [] (by simp) .nil
  · intro i v ys I oI C oC D m₂ h1 tk1 E' hi hv hys hC hx F N
    have hi' : i < rows.length := by simpa [hlen] using hi
    obtain ⟨a, us2, n2, e1, e2, hi2⟩ := hR.2 i rows[i] (List.getElem?_eq_getElem hi')
    obtain ⟨r1, r2, r3⟩ := hrows rows[i] (List.getElem_mem hi')
    have ev : v = .ref a := by
      have : ws[i]? = some v := by simpa using hv
      rw [this] at e1; exact Option.some.inj e1
    subst ev
    replace N : News h₀ L h1 ((I, oI) :: (C, oC) :: (D, LCg.lst ys) :: (a, W.listOf us2.toArray n2) :: (L + 1 + 1 + 1, o3) :: (L + 1 + 1 + 1 + 1 + 1 + 1 + 1, o7) :: (lds, W.listOf us.toArray nl) :: (Wa, W.listOf ws.toArray nw) :: led) := by
      intro p hp
      simp only [List.mem_cons] at hp
      rcases hp with rfl | rfl | rfl | rfl | hp
      · exact N _ (.head _)
      · exact N _ (.tail _ (.head _))
      · exact N _ (.tail _ (.tail _ (.head _)))
      · exact N _ (by simp [e2])
      · exact N _ (by simp only [List.mem_cons]; exact .inr (.inr (.inr hp)))
    iterate 9 (first | walk1 | (dsimp only; walk1))
    rename Fr _ _ _ _ => F
    rename News _ _ _ _ => N
    refine ⟨X.keeps F.keep, ?_⟩
    refine call_product F N X T hh (by omega) (of_list (a := a) (n := n2) N (by simp)) hi2 (of_list (a := lds) (n := nl) N (by simp)) hus (by omega) hm r1 (fun h3 tk3 t3 F N => ?_)
    refine ⟨h3, tk3, rfl, F, news_sub N (fun p hp => ?_), ?_⟩
    · simp only [List.mem_cons] at hp ⊢
      rcases hp with hp | hp | hp | hp
      · exact .inl hp
      · exact .inr (.inl hp)
      · exact .inr (.inr (.inl hp))
      · exact .inr (.inr (.inr (.inr hp)))
    · rw [take_snoc (List.getElem?_eq_getElem hi'), List.map_append]
      exact intsSnoc hys
  · intro wgts hw Gt h1 tk1 F N off1
    rw [List.size_toArray, hlen, List.take_length] at hw
    have off2 := off_one off1
    have o7w : (L + 1 + 1 + 1 + 1 + 1 + 1 + 1 : Nat) ≠ Gt := off2 (_, o7) (by simp)
    refine store_cell (c := L + 1 + 1 + 1 + 1 + 1 + 1 + 1) rfl rfl rfl F N (by simp) d7 (fun h2 o7' d7' F N' => ?_)
    refine h h2 tk1 Gt o7' wgts F d7' hw (N' _ fun p hp => ?_) (fun p hp => ?_)
    · simp only [List.mem_cons] at hp
      rcases hp with rfl | rfl | rfl | rfl | rfl | hp
      · exact .inr ⟨by simp, Ne.symm o7w⟩
      · exact .inr ⟨by simp, ne37 L⟩
      · exact .inl rfl
      · exact .inr ⟨by simp, ol⟩
      · exact .inr ⟨by simp, oW⟩
      · exact .inr ⟨by simp [hp], off p hp⟩
    · simp only [List.mem_cons] at hp
      rcases hp with rfl | rfl | hp
      · exact off2 (_, o3) (by simp)
      · exact o7w
      · exact off2 p (by simp only [List.mem_cons]; exact .inr (.inr hp))
end Mine
end
section
open PySem PySem.W PyProof.Rows PySem.Calls
namespace Mine
theorem cmp_fls {prog : Program} {w : World} {A : Around} {P : Nat → Value → Prop} (val : Nat → Nat) (hb : ∀ i, val i < 2 ^ 53) (hval : ∀ i v, P i v → ∃ t, v = .float (fl (val i)) t) :
    CmpOf prog w A .Lt P (fun i j => decide ((val i : Int) < (val j : Int))) := fun i j vi vj s Q E hi hj h => by
  obtain ⟨t, rfl⟩ := hval i vi hi
  obtain ⟨u, rfl⟩ := hval j vj hj
  show wpAny _ _ (compareOp .Lt _ _) _ _ _
  refine AutoFloatOps.lt_0 ?_
  rw [fl_cmp (hb i) (hb j)]
  have e : (some (compare (val i : Int) (val j : Int)) == some Ordering.lt) = decide ((val i : Int) < (val j : Int)) := by
    rcases Int.lt_trichotomy (val i : Int) (val j : Int) with q | q | q
    · rw [Int.compare_eq_lt.mpr q]; simp [q]
    · rw [q]; simp
    · rw [Int.compare_eq_gt.mpr q]
      have : ¬ (val i : Int) < (val j : Int) := by omega
      simp [this]
  rw [e]; exact h
theorem min_fls {prog : Program} {w : World} {A : Around} {E : Value → Shared → Prop} {s : Shared} {l : Addr} {vs : List Value} {xs : List Nat} {Q : Value → Shared → Prop} (hh : A.handled = none)
    (hl : s.heap.IsList l vs.toArray) (hi : FlsAre vs xs) (hne : 0 < xs.length) (hb : ∀ x ∈ xs, x < 2 ^ 53)
    (h : ∀ h' tk x t, s.heap.StaysIn h' → x < 2 ^ 53 → Q (.float (fl x) t) { s with heap := h', toks := tk }) :
    wpAny (model prog w) A (call (.builtin "min") [.ref l]) Q E s := by
  have hlt : l < s.heap.objs.size := by obtain ⟨_, e, _⟩ := hl; exact Heap.lt_size e
  have hbd : ∀ i, xs.getD i 0 < 2 ^ 53 := fun i => by
    rw [List.getD_eq_getElem?_getD]
    cases e : xs[i]? with
    | none => exact Nat.two_pow_pos _
    | some x => exact hb x (List.mem_of_getElem? e)
  have hval : ∀ (i : Nat) (v : Value), vs.toArray[i]? = some v → ∃ t, v = Value.float (fl (xs.getD i 0)) t := fun i v hv => by
    have hv' : vs[i]? = some v := by simpa using hv
    have hlt : i < xs.length := by
      rw [← hi.length]
      rcases Nat.lt_or_ge i vs.length with q | q
      · exact q
      · rw [List.getElem?_eq_none q] at hv'; cases hv'
    obtain ⟨t, e⟩ := hi.get (List.getElem?_eq_getElem hlt)
    rw [hv'] at e
    refine ⟨t, ?_⟩
    rw [List.getD_eq_getElem?_getD, List.getElem?_eq_getElem hlt]
    exact Option.some.inj e
  refine call_min_walk (wpAny_pyIter_list hl ?_)
  refine ⟨_, _, _, _, _, _, _, rfl, Walks.list (A := A.in1) hh s.heap.objs.size l (Nat.ne_of_lt hlt) vs.toArray, ⟨⟨_, Heap.get?_push_size _ rfl, rfl, rfl⟩, hl.push _⟩, (fun b hb => ?_), (by simpa [hi.length] using hne), cmp_fls (fun i => xs.getD i 0) hbd hval, fun v h' tk hP hk => ?_⟩
  · show b < (s.heap.push _).objs.size
    rw [Heap.size_push]
    rcases List.mem_cons.mp hb with rfl | hb
    · exact Nat.lt_succ_self _
    · rw [List.mem_singleton.mp hb]; exact Nat.lt_succ_of_lt hlt
  · obtain ⟨t, rfl⟩ := hval _ v hP
    refine h h' tk _ t (fun b o e => hk b o (fun hm => ?_) (Heap.get?_push_of_some _ e)) (hbd _)
    rw [List.mem_singleton.mp hm] at e
    exact Nat.lt_irrefl _ (Heap.lt_size e)
end Mine
end
section
open PySem PySem.W PyProof.Rows
namespace Mine
theorem neg_st {w : World} {A : Around} {s : Shared} {E : Value → Shared → Prop} {Q : Flow → Shared → Prop} {L fa Wt : Addr} {cd : Value} {mg mb m : Str → Option Value} {h₀ : Heap} {waits : List Value} {kv : Value}
   {led : List (Addr × Obj)} {o6 : Obj} {xs : List Nat} {x0 : Nat}
   (X : (hd.heap_39 w.params).In h₀) (T : TopRead topProg lo mg mb h₀) (hh : A.handled = none)
   (N : News h₀ L s.heap ((L + 1 + 1 + 1 + 1 + 1 + 1, o6) :: (Wt, LCg.lst waits) :: led))
   (F : Fr h₀ L s.heap (kstB m [(Str.ofString "known", kv)]))
   (d6 : o6.data = .cell (some (.ref Wt))) (hk : NumIs kv x0) (hx0 : x0 < 2 ^ 53) (hxs : FlsAre waits xs) (hne : 0 < xs.length) (hb : ∀ x ∈ xs, x < 2 ^ 53)
   (h : ∀ h' tk, Fr h₀ L h' (kstB m [(Str.ofString "known", kv)]) → News h₀ L h' ((L + 1 + 1 + 1 + 1 + 1 + 1, o6) :: (Wt, LCg.lst waits) :: led) → Q .next { s with heap := h', toks := tk })
   : wpAny (model prg w) A (exec (lawT.getD 2 (.Pass ⟨0, 0, 0, 0⟩)) (lawEnv L fa cd)) Q E s := by
  have kf : Named PySem.Challenge.rw_rs0025_01 hd.heap_39 := by (k_fill; exact named)
  clear kf
  dsimp only [kstB] at F
  unfold lawEnv
  conv in lawScope => whnf
  conv in lawT.getD _ _ => whnf
  iterate 5 (first | walk1 | (dsimp only; walk1))
  refine num_lt_zero hk hx0 ?_
  iterate 10 (first | walk1 | (dsimp only; walk1))
  refine min_fls hh (lst_list N (.tail _ (.head _))) hxs hne hb (fun h1 tk1 x t1 k1 hx => ?_)
  replace F := frStays F k1
  replace N := newsStays N k1
  clear k1
  iterate 1 (first | walk1 | (dsimp only; walk1))
  refine num_lt_zero (.inl ⟨_, rfl⟩) hx ?_
  iterate 5 (first | walk1 | (dsimp only; walk1))
  refine wpAny_execs_nil ?_
  exact h h1 _ F N
end Mine
end
section
open PySem PySem.W PyProof.Rows
namespace Mine
def grow (F : Nat) (r : List Int) (j : Nat) : List (List Int) := (List.range j).map fun f : Nat => r ++ [(f : Int)]
def ext (F : Nat) (rows : List (List Int)) : List (List Int) := rows.flatMap fun r => grow F r F
theorem grow_succ (F : Nat) (r : List Int) (j : Nat) : grow F r (j + 1) = grow F r j ++ [r ++ [(j : Int)]] := by
  unfold grow; rw [List.range_succ, List.map_append]; rfl
theorem ext_snoc (F : Nat) (rows : List (List Int)) (r : List Int) : ext F (rows ++ [r]) = ext F rows ++ grow F r F := by
  unfold ext; rw [List.flatMap_append]; simp
theorem ways_st {w : World} {A : Around} {s : Shared} {E : Value → Shared → Prop} {Q : Flow → Shared → Prop} {L fa Wa : Addr} {cd : Value} {mean : ExcName → Option Value} {mg mb m : Str → Option Value} {h₀ : Heap} {ws : List Value} {nw : Nat}
   {led : List (Addr × Obj)} {o2 o5 o6 o7 : Obj} {rows : List (List Int)} {F : Nat} {t2 : Tok}
   (X : (hd.heap_39 w.params).In h₀) (T : Top topProg lo mean mg mb h₀) (hh : A.handled = none) (hdp : A.depth < 700) (hun : A.units < 7000)
   (N : News h₀ L s.heap ((L + 1 + 1, o2) :: (L + 1 + 1 + 1 + 1 + 1, o5) :: (L + 1 + 1 + 1 + 1 + 1 + 1, o6) :: (L + 1 + 1 + 1 + 1 + 1 + 1 + 1, o7) :: (Wa, W.listOf ws.toArray nw) :: led))
   (Fr0 : Fr h₀ L s.heap (kstB m [(Str.ofString "ways", .ref Wa)]))
   (d2 : o2.data = .cell (some (.int (F : Int) t2))) (hF : F ≤ 3) (hR : Rows led ws rows) (hrl : rows.length ≤ 3) (hrow1 : ∀ r ∈ rows, r.length ≤ 1)
   (h : ∀ h' tk Wb ws' led', Fr h₀ L h' (fun z => if z = Str.ofString "ways" then some (.ref Wb) else kstB m [(Str.ofString "ways", .ref Wa)] z) →
      News h₀ L h' ((Wb, LCg.lst ws') :: led') → Off Wb led' → Rows led' ws' (ext F rows) →
      (∀ p ∈ ((L + 1 + 1, o2) :: (L + 1 + 1 + 1 + 1 + 1, o5) :: (L + 1 + 1 + 1 + 1 + 1 + 1, o6) :: (L + 1 + 1 + 1 + 1 + 1 + 1 + 1, o7) :: (Wa, W.listOf ws.toArray nw) :: led), p ∈ led') →
      (∃ new, (∀ p ∈ new, p ∈ led') ∧ Rows new ws' (ext F rows) ∧ ∀ q ∈ ((L + 1 + 1, o2) :: (L + 1 + 1 + 1 + 1 + 1, o5) :: (L + 1 + 1 + 1 + 1 + 1 + 1, o6) :: (L + 1 + 1 + 1 + 1 + 1 + 1 + 1, o7) :: (Wa, W.listOf ws.toArray nw) :: led), Off q.1 new) → Q .next { s with heap := h', toks := tk })
   : wpAny (model prg w) A (exec (lawT.getD 0 (.Pass ⟨0, 0, 0, 0⟩)) (lawEnv L fa cd)) Q E s := by
  have kf : Named PySem.Challenge.rw_rs0025_01 hd.heap_39 := by (k_fill; exact named)
  clear kf
  dsimp only [kstB] at Fr0
  unfold lawEnv
  conv in lawScope => whnf
  conv in lawT.getD _ _ => whnf
  refine Assign_two_L (h₀ := h₀) (L := L) (m := fun z => if z = Str.ofString "ways" then some (.ref Wa) else m z) Wa ws.toArray
    (fun i j ys news => ∃ new, news = new ++ ((L + 1 + 1, o2) :: (L + 1 + 1 + 1 + 1 + 1, o5) :: (L + 1 + 1 + 1 + 1 + 1 + 1, o6) :: (L + 1 + 1 + 1 + 1 + 1 + 1 + 1, o7) :: (Wa, W.listOf ws.toArray nw) :: led) ∧
      Rows new ys (ext F (rows.take i) ++ grow F (rows.getD i []) j) ∧ ∀ q ∈ ((L + 1 + 1, o2) :: (L + 1 + 1 + 1 + 1 + 1, o5) :: (L + 1 + 1 + 1 + 1 + 1 + 1, o6) :: (L + 1 + 1 + 1 + 1 + 1 + 1 + 1, o7) :: (Wa, W.listOf ws.toArray nw) :: led), Off q.1 new) (fun _ => F) hh rfl (by with_unfolding_all rfl) (by with_unfolding_all rfl) (by decide) (by rfl) (by decide) (by rfl) (by rfl) (by decide) (by rfl) (by rfl) (by intro _; rfl) (by intro _ _; rfl) ?_
  iterate 1 (first | walk1 | (dsimp only; walk1))
  have hlen := hR.1
  refine ⟨rfl, Fr0, _, N, .inr ⟨_, .tail _ (.tail _ (.tail _ (.tail _ (.head _)))), rfl, _, rfl⟩, ?_, ?_, fun i _ => by omega, ⟨[], rfl, by simpa [ext, grow] using (Rows.nil (led := [])), fun _ _ => off_nil⟩, ?_, ?_, ?_⟩
  · rintro i ys news hi ⟨new, rfl, hr, f5⟩
    have hi' : i < rows.length := by simpa [hlen] using hi
    refine ⟨new, rfl, ?_, f5⟩
    rw [take_snoc (List.getElem?_eq_getElem hi'), ext_snoc]
    have : rows.getD i [] = rows[i] := by rw [List.getD_eq_getElem?_getD, List.getElem?_eq_getElem hi']; rfl
    rw [this] at hr
    simpa [grow] using hr
  · rintro i j ys news hi hj ⟨new, rfl, hr, -⟩
    have hi' : i < rows.length := by simpa [hlen] using hi
    have e1 : ∀ l : List (List Int), (ext F l).length = l.length * F := by
      intro l
      induction l with
      | nil => simp [ext]
      | cons r l ih =>
        have : ext F (r :: l) = grow F r F ++ ext F l := by simp [ext]
        rw [this, List.length_append, ih]; simp [grow, Nat.succ_mul]; omega
    have := hr.1
    rw [this, List.length_append, e1, List.length_take]
    have h2 : min i rows.length * F ≤ 3 * 3 := Nat.mul_le_mul (by omega) hF
    simp [grow, sizeLine]; omega
  · rintro i v I oI C oC D m₂ ys news h1 tk1 E' hi hv ⟨new, rfl, hr, f5⟩ hC hx F1 N1 g1 g2 g3 S
    replace N1 : News h₀ L h1 ((I, oI) :: (C, oC) :: (D, LCg.lst ys) :: (L + 1 + 1, o2) :: (new ++ ((L + 1 + 1, o2) :: (L + 1 + 1 + 1 + 1 + 1, o5) :: (L + 1 + 1 + 1 + 1 + 1 + 1, o6) :: (L + 1 + 1 + 1 + 1 + 1 + 1 + 1, o7) :: (Wa, W.listOf ws.toArray nw) :: led))) := by
      intro p hp
      simp only [List.mem_cons] at hp
      rcases hp with rfl | rfl | rfl | rfl | hp
      · exact N1 _ (.head _)
      · exact N1 _ (.tail _ (.head _))
      · exact N1 _ (.tail _ (.tail _ (.head _)))
      · exact N1 _ (by simp)
      · exact N1 _ (.tail _ (.tail _ (.tail _ hp)))
    generalize hnn : (new ++ ((L + 1 + 1, o2) :: (L + 1 + 1 + 1 + 1 + 1, o5) :: (L + 1 + 1 + 1 + 1 + 1 + 1, o6) :: (L + 1 + 1 + 1 + 1 + 1 + 1 + 1, o7) :: (Wa, W.listOf ws.toArray nw) :: led)) = nn at *
    iterate 7 (first | walk1 | (dsimp only; walk1))
    rename IsRange _ _ _ _ _ _ _ _ => hr9
    rename Fr _ _ _ _ => F9
    rename News _ _ _ _ => N9
    refine ⟨_, _, _, _, _, _, rfl, rfl, F9, news_sub N9 (fun p hp => ?_), hr9⟩
    simp only [List.mem_cons] at hp ⊢
    rcases hp with hp | hp | hp | hp
    · exact .inl hp
    · exact .inr (.inl hp)
    · exact .inr (.inr (.inl hp))
    · exact .inr (.inr (.inr (.inr hp)))
  · rintro i j v t J oJ I oI C oC D m₂ ys news h1 tk1 E' hi hj hv ⟨new, rfl, hr, f5⟩ hC hx hy F1 N1 g1 g2 g3 g4 S
    have hi' : i < rows.length := by simpa [hlen] using hi
    obtain ⟨a, us2, n2, e1, e2, hi2⟩ := hR.2 i rows[i] (List.getElem?_eq_getElem hi')
    have ev : v = .ref a := by
      have : ws[i]? = some v := by simpa using hv
      rw [this] at e1; exact Option.some.inj e1
    subst ev
    have hrow : rows.getD i [] = rows[i] := by rw [List.getD_eq_getElem?_getD, List.getElem?_eq_getElem hi']; rfl
    rw [hrow] at hr ⊢
    have e3 : (a, W.listOf us2.toArray n2) ∈ (new ++ ((L + 1 + 1, o2) :: (L + 1 + 1 + 1 + 1 + 1, o5) :: (L + 1 + 1 + 1 + 1 + 1 + 1, o6) :: (L + 1 + 1 + 1 + 1 + 1 + 1 + 1, o7) :: (Wa, W.listOf ws.toArray nw) :: led)) := List.mem_append_right _ (by simp [e2])
    generalize hnn : (new ++ ((L + 1 + 1, o2) :: (L + 1 + 1 + 1 + 1 + 1, o5) :: (L + 1 + 1 + 1 + 1 + 1 + 1, o6) :: (L + 1 + 1 + 1 + 1 + 1 + 1 + 1, o7) :: (Wa, W.listOf ws.toArray nw) :: led)) = nn at *
    replace N1 : News h₀ L h1 ((J, oJ) :: (I, oI) :: (C, oC) :: (D, LCg.lst ys) :: (a, W.listOf us2.toArray n2) :: nn) := by
      intro p hp
      simp only [List.mem_cons] at hp
      rcases hp with rfl | rfl | rfl | rfl | rfl | hp
      · exact N1 _ (.head _)
      · exact N1 _ (.tail _ (.head _))
      · exact N1 _ (.tail _ (.tail _ (.head _)))
      · exact N1 _ (.tail _ (.tail _ (.tail _ (.head _))))
      · exact N1 _ (.tail _ (.tail _ (.tail _ (.tail _ e3))))
      · exact N1 _ (.tail _ (.tail _ (.tail _ (.tail _ hp))))
    iterate 7 (first | walk1 | (dsimp only; walk1))
    rename Fr _ _ _ _ => F9
    rename News _ _ _ _ => N9
    have hb1 := hrow1 _ (List.getElem_mem hi')
    refine add_lists_ints (vs := us2) (ws := [Value.int (j : Int) t]) F9 N9 (of_list (a := a) (n := n2) N9 (by simp)) (of_list (n := 0) N9 (.head _)) hi2 (IntsAre.cons _ _ IntsAre.nil) (fun h8 F8 N8 I8 => ?_) (by simp [sizeLine]; omega)
    dsimp only at N8 ⊢
    rename_i l9 h9 _
    have z : ∀ p ∈ nn, p.1 ≠ h9.objs.size := fun p hp => Nat.ne_of_lt (Heap.lt_size (N9 p (.tail _ (.tail _ (.tail _ (.tail _ (.tail _ (.tail _ hp))))))).1)
    have zJ : J ≠ h9.objs.size := Nat.ne_of_lt (Heap.lt_size (N9 (J, oJ) (by simp)).1)
    have zI : I ≠ h9.objs.size := Nat.ne_of_lt (Heap.lt_size (N9 (I, oI) (by simp)).1)
    have zC : C ≠ h9.objs.size := Nat.ne_of_lt (Heap.lt_size (N9 (C, oC) (by simp)).1)
    have zD : D ≠ h9.objs.size := Nat.ne_of_lt (Heap.lt_size (N9 (D, LCg.lst ys) (by simp)).1)
    have sub : ∀ p ∈ ((L + 1 + 1, o2) :: (L + 1 + 1 + 1 + 1 + 1, o5) :: (L + 1 + 1 + 1 + 1 + 1 + 1, o6) :: (L + 1 + 1 + 1 + 1 + 1 + 1 + 1, o7) :: (Wa, W.listOf ws.toArray nw) :: led), p ∈ nn := fun p hp => by rw [← hnn]; exact List.mem_append_right _ hp
    have cons_off : ∀ {c : Addr} {l : List (Addr × Obj)} {o : Obj}, c ≠ h9.objs.size → Off c l → Off c ((h9.objs.size, o) :: l) := fun hc hl p hp => by
      rcases List.mem_cons.mp hp with rfl | hp
      · exact Ne.symm hc
      · exact hl p hp
    refine ⟨h8, _, (h9.objs.size, W.listOf (us2 ++ [Value.int (j : Int) t]).toArray 0) :: nn, rfl, F8, news_sub N8 (fun p hp => ?_), cons_off zJ g1, cons_off zI g2, cons_off zC g3, cons_off zD g4, ?_, (h9.objs.size, W.listOf (us2 ++ [Value.int (j : Int) t]).toArray 0) :: new, by rw [← hnn]; rfl, ?_, fun q hq => cons_off (z q (sub q hq)) (f5 q hq)⟩
    · simp only [List.mem_cons] at hp ⊢
      rcases hp with hp | hp | hp | hp | hp | hp
      · exact .inr (.inr (.inl hp))
      · exact .inr (.inr (.inr (.inl hp)))
      · exact .inr (.inr (.inr (.inr (.inl hp))))
      · exact .inr (.inr (.inr (.inr (.inr (.inl hp)))))
      · exact .inl hp
      · exact .inr (.inr (.inr (.inr (.inr (.inr (.inr hp))))))
    · rcases S with S | ⟨o, hm, r⟩
      · exact .inl S
      · exact .inr ⟨o, .tail _ hm, r⟩
    · rw [grow_succ, ← List.append_assoc]
      exact (hr.mono fun p hp => .tail _ hp).snoc (.head _) I8
  · rintro Wb h1 tk1 ys news F1 N1 off1 ⟨new, rfl, hr, f5⟩
    rw [List.size_toArray, hlen, List.take_length] at hr
    have hr' : Rows new ys (ext F rows) := by simpa [grow] using hr
    exact h h1 tk1 Wb ys _ F1 N1 off1 (hr'.mono fun p hp => List.mem_append_left _ hp) (fun p hp => List.mem_append_right _ hp) ⟨new, fun p hp => List.mem_append_left _ hp, hr', f5⟩
end Mine
end
section
open PySem PySem.W PyProof.Rows
namespace Mine
def oft : List Nat → List Nat → List Nat
  | x :: xs, k :: ks => List.replicate k x ++ oft xs ks
  | _, _ => []
theorem oft_snoc : ∀ {xs ks : List Nat} {i x k : Nat}, xs[i]? = some x → ks[i]? = some k → oft (xs.take (i + 1)) (ks.take (i + 1)) = oft (xs.take i) (ks.take i) ++ List.replicate k x
  | [], _, _, _, _, h, _ => by simp at h
  | _ :: _, [], _, _, _, _, h => by simp at h
  | x :: xs, k :: ks, 0, _, _, h1, h2 => by simp at h1 h2; subst h1 h2; simp [oft]
  | x :: xs, k :: ks, i + 1, y, l, h1, h2 => by
    have := oft_snoc (xs := xs) (ks := ks) (i := i) (x := y) (k := l) (by simpa using h1) (by simpa using h2)
    simp only [List.take_succ_cons, oft]
    rw [this, List.append_assoc]
theorem oft_sum : ∀ xs ks : List Nat, (oft xs ks).sum = dot xs ks
  | [], _ => by simp [oft, dot]
  | _ :: _, [] => by simp [oft, dot]
  | x :: xs, k :: ks => by rw [oft, dot, List.sum_append, oft_sum xs ks, List.sum_replicate_nat, Nat.mul_comm]
theorem oft_length : ∀ xs ks : List Nat, xs.length = ks.length → (oft xs ks).length = ks.sum
  | [], [], _ => rfl
  | x :: xs, k :: ks, h => by rw [oft, List.length_append, List.length_replicate, oft_length xs ks (by simpa using h), List.sum_cons]
  | [], _ :: _, h => by simp at h
  | _ :: _, [], h => by simp at h
theorem oft_le : ∀ (xs ks : List Nat), (oft xs ks).length ≤ ks.sum
  | [], _ => by simp [oft]
  | _ :: _, [] => by simp [oft]
  | x :: xs, k :: ks => by
    have := oft_le xs ks
    rw [oft, List.length_append, List.length_replicate, List.sum_cons]; omega
theorem take_sum_le : ∀ (ks : List Nat) (i : Nat), (ks.take i).sum ≤ ks.sum
  | [], _ => by simp
  | k :: ks, 0 => by simp
  | k :: ks, i + 1 => by
    have := take_sum_le ks i
    simp only [List.take_succ_cons, List.sum_cons]; omega
theorem mem_sum_le : ∀ {ks : List Nat} {i k : Nat}, ks[i]? = some k → k ≤ ks.sum
  | [], _, _, h => by simp at h
  | k :: ks, 0, _, h => by simp at h; subst h; simp
  | k :: ks, i + 1, l, h => by
    have := mem_sum_le (ks := ks) (i := i) (k := l) (by simpa using h)
    rw [List.sum_cons]; omega
theorem item_fls {prog : Program} {w : World} {A : Around} {E : Value → Shared → Prop} {s : Shared} {value slice : PySem.Expr} {l : Addr} {us : List Value} {v : Value} {i : Nat} {u : Tok} {Q : Value → Shared → Prop}
    (hl : s.heap.IsList l us.toArray) (hi : us[i]? = some v) (hhi : i < 1000) (h : Q v s)
    (hs : subscripted slice false (.ref l) (.int (i : Int) u) = operate [.ref l, .int (i : Int) u] (getItem (.ref l) (.int (i : Int) u)) := by with_unfolding_all rfl) :
    wpAny (model prog w) A (subscriptTail value slice (.ref l) (.int (i : Int) u)) Q E s :=
  tail_any hl.typeIs slot_list_getitem.lookup (wpAny_getItem_list hl (by omega) (by omega) (by simpa using hi) h) hs
theorem often_st {w : World} {A : Around} {s : Shared} {E : Value → Shared → Prop} {Q : Flow → Shared → Prop} {L fa Wa Wt Gt : Addr} {cd : Value} {mean : ExcName → Option Value} {mg mb m : Str → Option Value} {h₀ : Heap} {ws waits wgts : List Value}
   {led : List (Addr × Obj)} {o6 o7 : Obj} {xs ks : List Nat}
   (X : (hd.heap_39 w.params).In h₀) (T : Top topProg lo mean mg mb h₀) (hh : A.handled = none)
   (N : News h₀ L s.heap ((L + 1 + 1 + 1 + 1 + 1 + 1, o6) :: (L + 1 + 1 + 1 + 1 + 1 + 1 + 1, o7) :: (Wa, LCg.lst ws) :: (Wt, LCg.lst waits) :: (Gt, LCg.lst wgts) :: led))
   (Fr0 : Fr h₀ L s.heap (kstB m [(Str.ofString "ways", .ref Wa)]))
   (d6 : o6.data = .cell (some (.ref Wt))) (d7 : o7.data = .cell (some (.ref Gt))) (hxs : FlsAre waits xs) (hks : IntsAre wgts (ks.map fun k : Nat => (k : Int))) (h1 : ws.length = xs.length) (h2 : xs.length = ks.length) (h3 : ws.length ≤ 9) (h4 : ks.sum ≤ 1000)
   (h : ∀ h' tk O ys, Fr h₀ L h' (fun z => if z = Str.ofString "often" then some (.ref O) else kstB m [(Str.ofString "ways", .ref Wa)] z) →
      News h₀ L h' ((O, LCg.lst ys) :: (L + 1 + 1 + 1 + 1 + 1 + 1, o6) :: (L + 1 + 1 + 1 + 1 + 1 + 1 + 1, o7) :: (Wa, LCg.lst ws) :: (Wt, LCg.lst waits) :: (Gt, LCg.lst wgts) :: led) → FlsAre ys (oft xs ks) → Q .next { s with heap := h', toks := tk })
   : wpAny (model prg w) A (exec (lawT.getD 4 (.Pass ⟨0, 0, 0, 0⟩)) (lawEnv L fa cd)) Q E s := by
  have kf : Named PySem.Challenge.rw_rs0025_01 hd.heap_39 := by (k_fill; exact named)
  clear kf
  dsimp only [kstB] at Fr0
  unfold lawEnv
  conv in lawScope => whnf
  conv in lawT.getD _ _ => whnf
  refine Assign_two_R (h₀ := h₀) (L := L) (m := fun z => if z = Str.ofString "ways" then some (.ref Wa) else m z) ws.length
    (fun i j ys news => news = ((L + 1 + 1 + 1 + 1 + 1 + 1, o6) :: (L + 1 + 1 + 1 + 1 + 1 + 1 + 1, o7) :: (Wa, LCg.lst ws) :: (Wt, LCg.lst waits) :: (Gt, LCg.lst wgts) :: led) ∧
      FlsAre ys (oft (xs.take i) (ks.take i) ++ List.replicate j (xs.getD i 0))) (fun i => ks.getD i 0) hh rfl (by with_unfolding_all rfl) (by with_unfolding_all rfl) (by decide) (by rfl) (by decide) (by rfl) (by rfl) (by decide) (by rfl) (by rfl) (by intro _; rfl) (by intro _ _; rfl) ?_
  iterate 10 (first | walk1 | (dsimp only; walk1))
  refine len_list (lst_list N (.tail _ (.tail _ (.head _)))) (by simp; omega) ?_
  iterate 2 (first | walk1 | (dsimp only; walk1))
  rename IsRange _ _ _ _ _ _ _ _ => hr9
  rename Fr _ _ _ _ => F9
  rename News _ _ _ _ => N9
  refine ⟨_, _, _, _, rfl, hr9, by omega, F9, _, N9, ?_, ?_, ?_, ⟨rfl, .nil⟩, ?_, ?_, ?_⟩
  · rintro i ys news hi ⟨rfl, hy⟩
    refine ⟨rfl, ?_⟩
    have hx : xs[i]? = some (xs[i]'(by omega)) := List.getElem?_eq_getElem _
    have hk : ks[i]? = some (ks[i]'(by omega)) := List.getElem?_eq_getElem _
    rw [oft_snoc hx hk]
    rw [List.getD_eq_getElem?_getD, List.getD_eq_getElem?_getD, hx, hk] at hy
    simpa using hy
  · rintro i j ys news hi hj ⟨rfl, hy⟩
    have h5 := oft_le (xs.take i) (ks.take i)
    have h6 := take_sum_le ks i
    have hk : ks[i]? = some (ks[i]'(by omega)) := List.getElem?_eq_getElem _
    have h7 := mem_sum_le hk
    rw [List.getD_eq_getElem?_getD, hk] at hj
    simp at hj
    rw [hy.length, List.length_append, List.length_replicate]
    simp [sizeLine]; omega
  · intro i hi
    have hk : ks[i]? = some (ks[i]'(by omega)) := List.getElem?_eq_getElem _
    have h7 := mem_sum_le hk
    rw [List.getD_eq_getElem?_getD, hk]
    simp; omega
  · rintro i v I oI C oC D m₂ ys news h1' tk1 E' hi ⟨t9, rfl⟩ ⟨rfl, hy⟩ hC hx F1 N1 g1 g2 g3 -
    iterate 7 (first | walk1 | (dsimp only; walk1))
    rename Fr _ _ _ _ => F9
    rename News _ _ _ _ => N9
    rename IntsAre wgts _ => hks9
    refine item_ints (us := wgts) (of_list (a := Gt) (n := wgts.length) N9 (by simp)) hks9 (by omega) (by simp; omega) (by omega) (fun t8 => ?_)
    have e : (ks.map fun k : Nat => (k : Int)).getD (i : Int).toNat 0 = ((ks.getD i 0 : Nat) : Int) := by
      have hk : ks[i]? = some (ks[i]'(by omega)) := List.getElem?_eq_getElem _
      rw [Int.toNat_natCast, List.getD_eq_getElem?_getD, List.getD_eq_getElem?_getD, List.getElem?_map, hk]; rfl
    rw [e]
    iterate 2 (first | walk1 | (dsimp only; walk1))
    rename IsRange _ _ _ _ _ _ _ _ => hr9
    rename Fr _ _ _ _ => F9
    rename News _ _ _ _ => N9
    exact ⟨_, _, _, _, _, _, rfl, rfl, F9, N9, hr9⟩
  · rintro i j v t J oJ I oI C oC D m₂ ys news h1' tk1 E' hi hj ⟨t9, rfl⟩ ⟨rfl, hy⟩ hC hx hy2 F1 N1 g1 g2 g3 g4 -
    iterate 3 (first | walk1 | (dsimp only; walk1))
    rename Fr _ _ _ _ => F9
    rename News _ _ _ _ => N9
    have hxi : xs[i]? = some (xs[i]'(by omega)) := List.getElem?_eq_getElem _
    obtain ⟨t8, e⟩ := hxs.get hxi
    refine item_fls (of_list (a := Wt) (n := waits.length) N9 (by simp)) e (by omega) ?_
    refine ⟨_, _, _, rfl, F9, N9, g1, g2, g3, g4, trivial, rfl, ?_⟩
    rw [List.getD_eq_getElem?_getD, hxi] at hy ⊢
    rw [List.replicate_succ', ← List.append_assoc]
    exact hy.snoc
  · rintro O h9 tk9 ys news F1 N1 off1 ⟨rfl, hy⟩
    refine h h9 tk9 O ys F1 N1 ?_
    rw [h1, List.take_length, h2, List.take_length] at hy
    simpa using hy
end Mine
end
section
open PySem PySem.W PyProof.Rows
namespace Mine
theorem kst_self {m : Str → Option Value} {ps : List (Str × Value)} (h : ∀ p ∈ ps, m p.1 = some p.2) : kstB m ps = m := by
  funext z; exact kstB_eq h fun _ => rfl
theorem ext_length (F : Nat) : ∀ l : List (List Int), (ext F l).length = l.length * F
  | [] => by simp [ext]
  | r :: l => by
    have : ext F (r :: l) = grow F r F ++ ext F l := by simp [ext]
    rw [this, List.length_append, ext_length F l]; simp [grow, Nat.succ_mul]; omega
theorem mem_ext {F : Nat} {rows : List (List Int)} {r : List Int} (h : r ∈ ext F rows) : ∃ r0 ∈ rows, ∃ f : Nat, f < F ∧ r = r0 ++ [(f : Int)] := by
  unfold ext at h
  obtain ⟨r0, h0, h1⟩ := List.mem_flatMap.mp h
  unfold grow at h1
  obtain ⟨f, hf, rfl⟩ := List.mem_map.mp h1
  exact ⟨r0, h0, f, List.mem_range.mp hf, rfl⟩
theorem ext_rows {ms : List Int} {rows : List (List Int)} (h : ∀ r ∈ rows, Row ms r ∧ r.length ≤ 1) : ∀ r ∈ ext ms.length rows, Row ms r ∧ r ≠ [] ∧ r.length ≤ 2 := by
  intro r hr
  obtain ⟨r0, h0, f, hf, rfl⟩ := mem_ext hr
  obtain ⟨h1, h2⟩ := h r0 h0
  refine ⟨fun x hx => ?_, by simp, by simp; omega⟩
  rcases List.mem_append.mp hx with hx | hx
  · exact h1 x hx
  · rw [List.mem_singleton.mp hx]; omega
def waitsOf (ms pre : List Int) (rows : List (List Int)) : List Nat := rows.map fun r => wsum ms.sum.toNat ms (pre ++ r) (pre ++ r).length
def wgtsOf (ms : List Int) (rows : List (List Int)) : List Nat := rows.map fun r => (prodL ms r).toNat
theorem wgts_ints {ms : List Int} {rows : List (List Int)} (hm : Loads ms) (h : ∀ r ∈ rows, Row ms r ∧ r ≠ [] ∧ r.length ≤ 2) : (wgtsOf ms rows).map (fun k : Nat => (k : Int)) = rows.map (prodL ms) := by
  unfold wgtsOf
  rw [List.map_map]
  refine List.map_congr_left fun r hr => ?_
  obtain ⟨h1, _, h2⟩ := h r hr
  have := (prodL_bound hm h1 (by omega)).1
  show ((prodL ms r).toNat : Int) = prodL ms r
  omega
theorem turnT {w : World} {A : Around} {s : Shared} {E : Value → Shared → Prop} {Q : Flow → Shared → Prop} {L fa Wa lds ths : Addr} {cd : Value} {mean : ExcName → Option Value} {mg mb m₁ : Str → Option Value} {h₀ : Heap} {ws us vs : List Value} {nw nl nt : Nat} {kv : Value} {t3 tt t2 t5 : Tok}
   {led : List (Addr × Obj)} {o2 o3 o4 o5 o6 o7 : Obj} {v6 v7 : Option Value} {ms ns : List Int} {rows : List (List Int)} {mm x0 wx t n x : Nat}
   (X : (hd.heap_39 w.params).In h₀) (T : Top topProg lo mean mg mb h₀) (hh : A.handled = none) (hdp : A.depth < 700) (hun : A.units < 7000)
   (N : News h₀ L s.heap ((L + 1 + 1, o2) :: (L + 1 + 1 + 1, o3) :: (L + 1 + 1 + 1 + 1, o4) :: (L + 1 + 1 + 1 + 1 + 1, o5) :: (L + 1 + 1 + 1 + 1 + 1 + 1, o6) :: (L + 1 + 1 + 1 + 1 + 1 + 1 + 1, o7) :: (lds, W.listOf us.toArray nl) :: (ths, W.listOf vs.toArray nt) :: (Wa, W.listOf ws.toArray nw) :: led))
   (F1 : Fr h₀ L s.heap m₁) (hkn : m₁ (Str.ofString "known") = some kv) (hwo : m₁ (Str.ofString "worth") = some (.float (fl wx) t3)) (hwy : m₁ (Str.ofString "ways") = some (.ref Wa)) (htt : m₁ (Str.ofString "t") = some (.int (t : Int) tt))
   (d2 : o2.data = .cell (some (.int (ms.length : Int) t2))) (d3 : o3.data = .cell (some (.ref lds))) (d4 : o4.data = .cell (some (.ref ths))) (d5 : o5.data = .cell (some (.int (mm : Int) t5))) (d6 : o6.data = .cell v6) (d7 : o7.data = .cell v7)
   (hus : IntsAre us ms) (hvs : IntsAre vs ns) (hm : Loads ms) (hF : 2 ≤ ms.length) (hrow : Row ms ns) (hns : ns.length ≤ 6) (hmm : mm ≤ ns.length)
   (hR : Rows led ws rows) (hrows : ∀ r ∈ rows, Row ms r ∧ r.length ≤ 1) (hrl : rows.length ≤ 3) (hr0 : 0 < rows.length)
   (l6 : lds ≠ L + 1 + 1 + 1 + 1 + 1 + 1) (l7 : lds ≠ L + 1 + 1 + 1 + 1 + 1 + 1 + 1) (t6 : ths ≠ L + 1 + 1 + 1 + 1 + 1 + 1) (t7 : ths ≠ L + 1 + 1 + 1 + 1 + 1 + 1 + 1) (f6 : Off (L + 1 + 1 + 1 + 1 + 1 + 1) led) (f7 : Off (L + 1 + 1 + 1 + 1 + 1 + 1 + 1) led)
   (hk : NumIs kv x0) (hx0 : x0 < 2 ^ 53) (hn : (ext ms.length rows).length = n + 1) (ht9 : t < 100) (hx : x = x0 + 256 * t + wx * n) (hx9 : x < 2 ^ 53) (hwx : wx < 2 ^ 53)
   (hxb : ∀ y ∈ waitsOf ms (ns.take mm) (ext ms.length rows), y < 2 ^ 53) (hks9 : (wgtsOf ms (ext ms.length rows)).sum ≤ 1000) (hk0 : 0 < (wgtsOf ms (ext ms.length rows)).sum)
   (hdot : dot (waitsOf ms (ns.take mm) (ext ms.length rows)) (wgtsOf ms (ext ms.length rows)) < 2 ^ 53)
   (hq : dot (waitsOf ms (ns.take mm) (ext ms.length rows)) (wgtsOf ms (ext ms.length rows)) = x * (wgtsOf ms (ext ms.length rows)).sum)
   (h : ∀ h' tk m₂ Wb ws' o6' o7' v6' v7' new, Fr h₀ L h' m₂ → m₂ (Str.ofString "ways") = some (.ref Wb) → (∀ y, y ≠ Str.ofString "ways" → y ≠ Str.ofString "often" → y ≠ Str.ofString "told" → m₂ y = m₁ y) →
      o6'.data = .cell v6' → o7'.data = .cell v7' → Rows new ws' (ext ms.length rows) → (∀ q ∈ ((L + 1 + 1, o2) :: (L + 1 + 1 + 1, o3) :: (L + 1 + 1 + 1 + 1, o4) :: (L + 1 + 1 + 1 + 1 + 1, o5) :: (L + 1 + 1 + 1 + 1 + 1 + 1, o6) :: (L + 1 + 1 + 1 + 1 + 1 + 1 + 1, o7) :: (lds, W.listOf us.toArray nl) :: (ths, W.listOf vs.toArray nt) :: (Wa, W.listOf ws.toArray nw) :: led), Off q.1 ((Wb, LCg.lst ws') :: new)) →
      News h₀ L h' ((L + 1 + 1, o2) :: (L + 1 + 1 + 1, o3) :: (L + 1 + 1 + 1 + 1, o4) :: (L + 1 + 1 + 1 + 1 + 1, o5) :: (L + 1 + 1 + 1 + 1 + 1 + 1, o6') :: (L + 1 + 1 + 1 + 1 + 1 + 1 + 1, o7') :: (lds, W.listOf us.toArray nl) :: (ths, W.listOf vs.toArray nt) :: (Wb, LCg.lst ws') :: (new ++ led)) →
      Q .next { s with heap := h', toks := tk })
   : wpAny (model prg w) A (execs lawT (lawEnv L fa cd)) Q E s := by
  have hx1 := ext_rows hrows
  have hl1 : (ext ms.length rows).length ≤ 9 := by rw [ext_length]; exact Nat.le_trans (Nat.mul_le_mul hrl hm.1) (by decide)
  have hl0 : 0 < (ext ms.length rows).length := by omega
  generalize hrr : ext ms.length rows = rr at *
  have hT : lawT = [lawT.getD 0 (.Pass ⟨0, 0, 0, 0⟩), lawT.getD 1 (.Pass ⟨0, 0, 0, 0⟩), lawT.getD 2 (.Pass ⟨0, 0, 0, 0⟩), lawT.getD 3 (.Pass ⟨0, 0, 0, 0⟩), lawT.getD 4 (.Pass ⟨0, 0, 0, 0⟩), lawT.getD 5 (.Pass ⟨0, 0, 0, 0⟩)] := by rfl
  rw [hT]
  clear hT
  have e1 : ¬ (Str.ofString "known" = Str.ofString "ways") := by decide
  have e2 : ¬ (Str.ofString "known" = Str.ofString "often") := by decide
  have e3 : ¬ (Str.ofString "worth" = Str.ofString "ways") := by decide
  have e4 : ¬ (Str.ofString "worth" = Str.ofString "often") := by decide
  have e5 : ¬ (Str.ofString "t" = Str.ofString "ways") := by decide
  have e6 : ¬ (Str.ofString "t" = Str.ofString "often") := by decide
  have e7 : ¬ (Str.ofString "ways" = Str.ofString "often") := by decide
  refine wpAny_execs_cons (ways_st (Wa := Wa) (o2 := o2) (o5 := o5) (o6 := o6) (o7 := o7) (m := m₁) (nw := nw) (ws := ws) (rows := rows) (F := ms.length) (led := (L + 1 + 1 + 1, o3) :: (L + 1 + 1 + 1 + 1, o4) :: (lds, W.listOf us.toArray nl) :: (ths, W.listOf vs.toArray nt) :: led) X T hh hdp hun
    (news_sub N (fun p hp => ?_)) (by rw [kst_self (by simp [hwy])]; exact F1) d2 hm.1 (hR.mono fun p hp => by simp [hp]) hrl (fun r hr => (hrows r hr).2) (fun h1 tk1 Wb ws' led1 Fa Na offb hRb sub1 hnew => ?_))
  · simp only [List.mem_cons] at hp ⊢
    grind
  obtain ⟨new, hnew, hRn, g5⟩ := hnew
  have g6 := g5 (L + 1 + 1 + 1 + 1 + 1 + 1, o6) (by simp)
  have g7 := g5 (L + 1 + 1 + 1 + 1 + 1 + 1 + 1, o7) (by simp)
  have gAll : ∀ q ∈ ((L + 1 + 1, o2) :: (L + 1 + 1 + 1, o3) :: (L + 1 + 1 + 1 + 1, o4) :: (L + 1 + 1 + 1 + 1 + 1, o5) :: (L + 1 + 1 + 1 + 1 + 1 + 1, o6) :: (L + 1 + 1 + 1 + 1 + 1 + 1 + 1, o7) :: (lds, W.listOf us.toArray nl) :: (ths, W.listOf vs.toArray nt) :: (Wa, W.listOf ws.toArray nw) :: led), Off q.1 ((Wb, LCg.lst ws') :: new) := by
    intro q hq p hp
    have s1 := sub1 q
    have s2 := g5 q
    simp only [List.mem_cons] at hq s1 s2
    have hq' : q ∈ led1 := by grind
    have hq2 : Off q.1 new := by grind
    rcases List.mem_cons.mp hp with rfl | hp
    · exact Ne.symm (offb q hq')
    · exact hq2 p hp
  rw [kst_self (by simp [hwy])] at Fa
  rw [hrr] at hRn hRb
  have b6 : (L + 1 + 1 + 1 + 1 + 1 + 1 : Nat) ≠ Wb := offb (_, o6) (sub1 _ (by simp))
  have b7 : (L + 1 + 1 + 1 + 1 + 1 + 1 + 1 : Nat) ≠ Wb := offb (_, o7) (sub1 _ (by simp))
  have N1 : News h₀ L h1 ((L + 1 + 1 + 1, o3) :: (L + 1 + 1 + 1 + 1, o4) :: (L + 1 + 1 + 1 + 1 + 1, o5) :: (L + 1 + 1 + 1 + 1 + 1 + 1, o6) :: (lds, W.listOf us.toArray nl) :: (ths, W.listOf vs.toArray nt) :: (Wb, LCg.lst ws') :: (L + 1 + 1, o2) :: (L + 1 + 1 + 1 + 1 + 1 + 1 + 1, o7) :: (new ++ led)) := by
    refine news_sub Na fun p hp => ?_
    simp only [List.mem_cons, List.mem_append] at hp ⊢
    have s1 := sub1 p
    have s2 := hnew p
    simp only [List.mem_cons] at s1
    grind
  clear Na sub1 hnew hRb N offb
  dsimp only
  refine wpAny_execs_cons (waits_st (Wa := Wb) (m := fun z => if z = Str.ofString "ways" then some (.ref Wb) else m₁ z) (ws := ws') (nw := ws'.length) (rows := rr) (mm := mm) X (topRead_of T) hh hdp hun N1 (by rw [kst_self (by simp)]; exact Fa) d3 d4 d5 d6 hus hvs hm hrow hns hmm
    (hRn.mono fun p hp => by simp [hp]) hx1 hl1 l6 t6 (Ne.symm b6) (fun p hp => ?_) (fun h2 tk2 Wt o6' waits Fb d6' hw N2 off2 => ?_))
  · simp only [List.mem_cons, List.mem_append] at hp
    rcases hp with rfl | rfl | hp | hp
    · exact ne26 L
    · exact ne76 L
    · exact g6 p hp
    · exact f6 p hp
  rw [kst_self (by simp)] at Fb
  have w7 : (L + 1 + 1 + 1 + 1 + 1 + 1 + 1 : Nat) ≠ Wt := off2 (_, o7) (by simp)
  clear N1 off2
  dsimp only
  have hww : FlsAre waits (waitsOf ms (ns.take mm) rr) := hw
  have hwl : (waitsOf ms (ns.take mm) rr).length = rr.length := by simp [waitsOf]
  have hkl : (wgtsOf ms rr).length = rr.length := by simp [wgtsOf]
  refine wpAny_execs_cons (neg_st (Wt := Wt) (o6 := o6') (waits := waits) (kv := kv) (m := fun z => if z = Str.ofString "ways" then some (.ref Wb) else m₁ z) (xs := waitsOf ms (ns.take mm) rr) (x0 := x0)
    (led := (L + 1 + 1, o2) :: (L + 1 + 1 + 1, o3) :: (L + 1 + 1 + 1 + 1, o4) :: (L + 1 + 1 + 1 + 1 + 1, o5) :: (L + 1 + 1 + 1 + 1 + 1 + 1 + 1, o7) :: (lds, W.listOf us.toArray nl) :: (ths, W.listOf vs.toArray nt) :: (Wb, LCg.lst ws') :: (new ++ led)) X (topRead_of T) hh
    (news_sub N2 (fun p hp => ?_)) (by rw [kst_self (by simp [hkn, e1])]; exact Fb) d6' hk hx0 hww (by omega) hxb (fun h3 tk3 Fc N3 => ?_))
  · simp only [List.mem_cons] at hp ⊢
    grind
  rw [kst_self (by simp [hkn, e1])] at Fc
  clear N2 Fb
  dsimp only
  refine wpAny_execs_cons (weights_st (Wa := Wb) (lds := lds) (us := us) (nl := nl) (o3 := o3) (o7 := o7) (m := fun z => if z = Str.ofString "ways" then some (.ref Wb) else m₁ z) (ws := ws') (nw := ws'.length) (rows := rr)
    (led := (L + 1 + 1, o2) :: (L + 1 + 1 + 1 + 1, o4) :: (L + 1 + 1 + 1 + 1 + 1, o5) :: (L + 1 + 1 + 1 + 1 + 1 + 1, o6') :: (Wt, LCg.lst waits) :: (ths, W.listOf vs.toArray nt) :: (new ++ led)) X (topRead_of T) hh hdp
    (news_sub N3 (fun p hp => ?_)) (by rw [kst_self (by simp)]; exact Fc) d3 d7 hus hm (hRn.mono fun p hp => by simp [hp]) hx1 hl1 l7 (Ne.symm b7) (fun p hp => ?_) (fun h4 tk4 Gt o7' wgts Fd d7' hg N4 off4 => ?_))
  · simp only [List.mem_cons] at hp ⊢
    grind
  · simp only [List.mem_cons, List.mem_append] at hp
    rcases hp with rfl | rfl | rfl | rfl | rfl | rfl | hp | hp
    · exact ne27 L
    · exact ne47 L
    · exact ne57 L
    · exact ne67 L
    · exact Ne.symm w7
    · exact t7
    · exact g7 p hp
    · exact f7 p hp
  rw [kst_self (by simp)] at Fd
  clear N3 Fc off4
  dsimp only
  rw [← wgts_ints hm hx1] at hg
  have hwsl : ws'.length = rr.length := hRn.1
  refine wpAny_execs_cons (often_st (Wa := Wb) (Wt := Wt) (Gt := Gt) (o6 := o6') (o7 := o7') (ws := ws') (waits := waits) (wgts := wgts) (xs := waitsOf ms (ns.take mm) rr) (ks := wgtsOf ms rr) (m := fun z => if z = Str.ofString "ways" then some (.ref Wb) else m₁ z)
    (led := (L + 1 + 1, o2) :: (L + 1 + 1 + 1, o3) :: (L + 1 + 1 + 1 + 1, o4) :: (L + 1 + 1 + 1 + 1 + 1, o5) :: (lds, W.listOf us.toArray nl) :: (ths, W.listOf vs.toArray nt) :: (new ++ led)) X T hh
    (news_sub N4 (fun p hp => ?_)) (by rw [kst_self (by simp)]; exact Fd) d6' d7' hww hg (by omega) (by omega) (by omega) hks9 (fun h5 tk5 O ys Fe N5 hO => ?_))
  · simp only [List.mem_cons] at hp ⊢
    grind
  rw [kst_self (by simp)] at Fe
  clear N4 Fd
  dsimp only
  have hol := oft_length (waitsOf ms (ns.take mm) rr) (wgtsOf ms rr) (by omega)
  have hos := oft_sum (waitsOf ms (ns.take mm) rr) (wgtsOf ms rr)
  refine wpAny_execs_cons (told_for (W := Wb) (Wt := Wt) (Gt := Gt) (O := O) (o6 := o6') (o7 := o7') (ws := ws') (waits := waits) (wgts := wgts) (oft := ys) (kv := kv) (t2 := tt) (t3 := t3) (xs := waitsOf ms (ns.take mm) rr) (ks := wgtsOf ms rr) (os := Mine.oft (waitsOf ms (ns.take mm) rr) (wgtsOf ms rr)) (n := n) (x := x) (x0 := x0) (wx := wx) (t := t)
    (m := fun z => if z = Str.ofString "often" then some (.ref O) else if z = Str.ofString "ways" then some (.ref Wb) else m₁ z)
    (led := (L + 1 + 1, o2) :: (L + 1 + 1 + 1, o3) :: (L + 1 + 1 + 1 + 1, o4) :: (L + 1 + 1 + 1 + 1 + 1, o5) :: (lds, W.listOf us.toArray nl) :: (ths, W.listOf vs.toArray nt) :: (new ++ led)) X (topRead_of T) hh hdp
    (news_sub N5 (fun p hp => ?_)) (by rw [kst_self (by simp [hkn, hwo, htt, e1, e2, e3, e4, e5, e6, e7])]; exact Fe) d6' d7' hk (by omega) (by omega) ht9 hx hx9 hwx hww hg hO (by omega) (fun e => by rw [e] at hwl; simp at hwl; omega) hk0 hdot (by omega) (fun k hk => ?_) hxb hq (by omega) (by omega) (by omega) (by rw [hos, hol]; exact hq) (fun h6 tk6 v Ff N6 => ?_))
  · simp only [List.mem_cons] at hp ⊢
    grind
  · obtain ⟨i, hi, e⟩ := List.getElem_of_mem hk
    have := mem_sum_le (ks := wgtsOf ms rr) (i := i) (k := k) (by rw [List.getElem?_eq_getElem hi, e])
    omega
  rw [kst_self (by simp [hkn, hwo, htt, e1, e2, e3, e4, e5, e6, e7])] at Ff
  dsimp only
  refine wpAny_execs_nil ?_
  refine h h6 tk6 _ Wb ws' o6' o7' _ _ new Ff ?_ (fun y y1 y2 y3 => ?_) d6' d7' hRn gAll (news_sub N6 fun p hp => ?_)
  · rw [if_neg (by decide), if_neg (by decide), if_pos rfl]
  · rw [if_neg y3, if_neg y2, if_neg y1]
  · simp only [List.mem_cons] at hp ⊢
    grind
end Mine
end
section
open PySem PySem.W PyProof.Rows
namespace Mine
def ld (ms : List Int) (f : Nat) : Nat := (ms.getD f 0).toNat
def pn (ms ns : List Int) : Nat := (prodL ms ns).toNat
def fs (F : Nat) (g : Nat → Nat) : Nat := ((List.range F).map g).sum
theorem fs_succ (F : Nat) (g : Nat → Nat) : fs (F + 1) g = fs F g + g F := by unfold fs; rw [List.range_succ, List.map_append, List.sum_append]; simp
theorem fs_zero (g : Nat → Nat) : fs 0 g = 0 := rfl
theorem fs_add (F : Nat) (g h : Nat → Nat) : fs F (fun f => g f + h f) = fs F g + fs F h := by
  induction F with
  | zero => rfl
  | succ F ih => rw [fs_succ, fs_succ, fs_succ, ih]; omega
theorem fs_mul (F c : Nat) (g : Nat → Nat) : fs F (fun f => c * g f) = c * fs F g := by
  induction F with
  | zero => rfl
  | succ F ih => rw [fs_succ, fs_succ, ih, Nat.mul_add]
theorem fs_congr {F : Nat} {g h : Nat → Nat} (e : ∀ f, f < F → g f = h f) : fs F g = fs F h := by
  induction F with
  | zero => rfl
  | succ F ih => rw [fs_succ, fs_succ, ih fun f hf => e f (by omega), e F (by omega)]
theorem fs_const (F c : Nat) : fs F (fun _ => c) = F * c := by
  induction F with
  | zero => simp [fs_zero]
  | succ F ih => rw [fs_succ, ih, Nat.succ_mul]
theorem fs_one {F j : Nat} (g : Nat → Nat) (hj : j < F) : fs F (fun f => if j = f then g f else 0) = g j := by
  induction F with
  | zero => omega
  | succ F ih =>
    rw [fs_succ]
    by_cases e : j = F
    · subst e
      rw [if_pos rfl, fs_congr (h := fun _ => 0) fun f hf => if_neg (by omega), fs_const]; omega
    · rw [ih (by omega), if_neg e]; rfl
theorem loads_ld {ms : List Int} (h : Loads ms) {f : Nat} (hf : f < ms.length) : (ld ms f : Int) = ms.getD f 0 ∧ 0 < ld ms f := by
  have := loads_get h (n := (f : Int)) (by omega) (by omega)
  rw [Int.toNat_natCast] at this
  unfold ld; omega
theorem fs_loads : ∀ {ms : List Int}, (∀ m ∈ ms, m = 1 ∨ m = 2) → fs ms.length (ld ms) = ms.sum.toNat := by
  intro ms
  generalize hk : ms.length = k
  induction k generalizing ms with
  | zero => intro _; rw [List.length_eq_zero_iff.mp hk]; rfl
  | succ k ih =>
    intro h
    obtain ⟨ms', m, rfl⟩ : ∃ ms' m, ms = ms' ++ [m] := ⟨ms.dropLast, ms.getLast (by intro e; rw [e] at hk; cases hk), (List.dropLast_concat_getLast _).symm⟩
    have hk' : ms'.length = k := by simpa using hk
    have h' : ∀ x ∈ ms', x = 1 ∨ x = 2 := fun x hx => h x (List.mem_append_left _ hx)
    have hm := h m (by simp)
    rw [fs_succ, fs_congr (h := ld ms') fun f hf => by unfold ld; rw [List.getD_eq_getElem?_getD, List.getD_eq_getElem?_getD, List.getElem?_append_left (by omega)], ih hk' h']
    have h0 := (sum_bounds h').1
    have : ld (ms' ++ [m]) k = m.toNat := by unfold ld; rw [List.getD_eq_getElem?_getD, List.getElem?_append_right (by omega)]; simp [hk']
    rw [this, List.sum_append]
    simp; omega
theorem pn_nil (ms : List Int) : pn ms [] = 1 := rfl
theorem pn_snoc {ms ns : List Int} {f : Nat} (hm : Loads ms) (hr : Row ms ns) (hl : ns.length ≤ 8) (hf : f < ms.length) : pn ms (ns ++ [(f : Int)]) = pn ms ns * ld ms f := by
  unfold pn
  rw [prodL_snoc, Int.toNat_natCast, ← (loads_ld hm hf).1]
  have := (prodL_bound hm hr hl).1
  rw [Int.toNat_mul (by omega) (by omega), Int.toNat_natCast]
theorem pn_pos {ms ns : List Int} (hm : Loads ms) (hr : Row ms ns) (hl : ns.length ≤ 8) : 0 < pn ms ns := by
  have := (prodL_bound hm hr hl).1
  unfold pn; omega
theorem row_snoc {ms ns : List Int} {f : Nat} (hr : Row ms ns) (hf : f < ms.length) : Row ms (ns ++ [(f : Int)]) := by
  intro x hx
  rcases List.mem_append.mp hx with hx | hx
  · exact hr x hx
  · rw [List.mem_singleton.mp hx]; omega
theorem wt_snoc {S : Nat} {ms p q : List Int} {k f : Nat} (hm : Loads ms) (hp : Row ms p) (hk : k ≤ 7) (hf : f < ms.length) (hq : q.take (k + 1) = p.take k ++ [(f : Int)]) (hqr : Row ms q) : ld ms f * wt S ms q (k + 1) = S * wt S ms p k := by
  have h1 := wt_mul (S := S) (k := k) hm hp (by omega)
  have h2 := wt_mul (S := S) (k := k + 1) hm hqr (by omega)
  have hl : (p.take k).length ≤ 8 := by have := List.length_take_le k p; omega
  have h3 := pn_snoc hm (take_row hp k) hl hf
  have h4 := pn_pos hm (take_row hp k) hl
  unfold pn at h3 h4
  rw [hq, h3] at h2
  refine Nat.eq_of_mul_eq_mul_right h4 ?_
  calc ld ms f * wt S ms q (k + 1) * (prodL ms (p.take k)).toNat = wt S ms q (k + 1) * ((prodL ms (p.take k)).toNat * ld ms f) := by ac_rfl
    _ = 256 * S ^ (k + 1) := h2.symm
    _ = S * (256 * S ^ k) := by rw [Nat.pow_succ]; ac_rfl
    _ = S * wt S ms p k * (prodL ms (p.take k)).toNat := by rw [h1]; ac_rfl
def tsum (S : Nat) (ms p : List Int) : Nat → Nat
  | 0 => 0
  | k + 1 => tsum S ms p k + if isB p k then wt S ms p k else 0
theorem tsum_wsum (S : Nat) (ms p : List Int) : ∀ k, tsum S ms p (k + 1) = 256 + wsum S ms p k
  | 0 => by simp [tsum, wsum, isB, wt, prodL_nil]
  | k + 1 => by rw [tsum, tsum_wsum S ms p k, wsum]; omega
theorem isB_snoc {p : List Int} {f : Int} {k : Nat} (hk : k < p.length) : isB (p ++ [f]) (k + 1) = (isB p k && decide (p.getD k 0 = f)) := by
  have hl : (p ++ [f]).length = p.length + 1 := by simp
  have e1 := isB_iff (ns := p ++ [f]) (k := k + 1) (by omega)
  have e2 := isB_iff (ns := p) (k := k) (by omega)
  rw [hl, bd_succ] at e1
  have c : Bd (at0 (p ++ [f])) p.length k ↔ Bd (at0 p) p.length k := bd_congr fun i hi => by
    show (p ++ [f]).getD i 0 = p.getD i 0
    rw [List.getD_eq_getElem?_getD, List.getD_eq_getElem?_getD, List.getElem?_append_left hi]
  have a1 : at0 (p ++ [f]) k = p.getD k 0 := by
    show (p ++ [f]).getD k 0 = p.getD k 0
    rw [List.getD_eq_getElem?_getD, List.getD_eq_getElem?_getD, List.getElem?_append_left hk]
  have a2 : at0 (p ++ [f]) p.length = f := by
    show (p ++ [f]).getD p.length 0 = f
    rw [List.getD_eq_getElem?_getD, List.getElem?_append_right (Nat.le_refl _)]; simp
  rw [c, ← e2, a1, a2] at e1
  cases h1 : isB p k with
  | false =>
    rw [h1] at e1
    cases h2 : isB (p ++ [f]) (k + 1) with
    | false => rfl
    | true => exact absurd (e1.mp h2).1 (by simp)
  | true =>
    rw [h1] at e1
    by_cases h3 : p.getD k 0 = f
    · rw [e1.mpr ⟨rfl, h3⟩]; simp only [Bool.true_and]; exact (decide_eq_true h3).symm
    · have : isB (p ++ [f]) (k + 1) = false := by
        cases h2 : isB (p ++ [f]) (k + 1) with
        | false => rfl
        | true => exact absurd (e1.mp h2).2 h3
      rw [this]; simp only [Bool.true_and]; exact (decide_eq_false h3).symm
theorem isB_full (p : List Int) : isB p p.length = true := by unfold isB; simp
theorem step_k {S : Nat} {ms p : List Int} (hm : Loads ms) (hp : Row ms p) (hl : p.length ≤ 7) : ∀ k, k ≤ p.length → fs ms.length (fun f => ld ms f * wsum S ms (p ++ [(f : Int)]) k) = S * tsum S ms p k
  | 0, _ => by simp [wsum, tsum]; exact fs_const _ 0
  | k + 1, hk => by
    have ih := step_k (S := S) hm hp hl k (by omega)
    have hj := hp (p.getD k 0) (by rw [List.getD_eq_getElem?_getD, List.getElem?_eq_getElem (show k < p.length by omega)]; exact List.getElem_mem _)
    rw [tsum, Nat.mul_add, ← ih]
    have e : ∀ f, f < ms.length → ld ms f * wsum S ms (p ++ [(f : Int)]) (k + 1) = ld ms f * wsum S ms (p ++ [(f : Int)]) k + (if (p.getD k 0).toNat = f then (if isB p k then S * wt S ms p k else 0) else 0) := by
      intro f hf
      rw [wsum, Nat.mul_add, isB_snoc (by omega)]
      congr 1
      by_cases h1 : (p.getD k 0).toNat = f
      · have h2 : p.getD k 0 = (f : Int) := by omega
        rw [if_pos h1, h2]
        simp only [decide_true, Bool.and_true]
        split
        · refine wt_snoc hm hp (by omega) hf ?_ (row_snoc hp hf)
          rw [List.take_append_of_le_length (by omega), List.take_add_one, ← h2, List.getD_eq_getElem?_getD, List.getElem?_eq_getElem (show k < p.length by omega)]; rfl
        · simp
      · have h2 : ¬ p.getD k 0 = (f : Int) := by omega
        rw [if_neg h1, decide_eq_false h2]; simp
    rw [fs_congr e, fs_add, fs_one (fun _ => if isB p k then S * wt S ms p k else 0) (by omega)]
    split
    · rfl
    · simp
theorem step_all {S : Nat} {ms p : List Int} (hm : Loads ms) (h0 : 0 < ms.length) (hp : Row ms p) (hl : p.length ≤ 7) :
    fs ms.length (fun f => ld ms f * wsum S ms (p ++ [(f : Int)]) (p ++ [(f : Int)]).length) = S * (wsum S ms p p.length + 256 + (ms.length - 1) * wt S ms p p.length) := by
  have e : ∀ f, f < ms.length → ld ms f * wsum S ms (p ++ [(f : Int)]) (p ++ [(f : Int)]).length = ld ms f * wsum S ms (p ++ [(f : Int)]) p.length + S * wt S ms p p.length := by
    intro f hf
    have hl1 : (p ++ [(f : Int)]).length = p.length + 1 := by simp
    have hB : isB (p ++ [(f : Int)]) (p.length + 1) = true := by rw [← hl1]; exact isB_full _
    rw [hl1, wsum, hB, if_pos rfl, Nat.mul_add, wt_snoc (p := p) (k := p.length) hm hp hl hf (by rw [List.take_length, ← hl1, List.take_length]) (row_snoc hp hf)]
  rw [fs_congr e, fs_add, fs_const, step_k hm hp hl p.length (Nat.le_refl _)]
  have h1 := tsum_wsum S ms p p.length
  rw [tsum, isB_full, if_pos rfl] at h1
  obtain ⟨F, hF⟩ : ∃ F, ms.length = F + 1 := ⟨ms.length - 1, by omega⟩
  rw [hF, Nat.add_sub_cancel, Nat.succ_mul]
  have h2 : tsum S ms p p.length + wt S ms p p.length + F * wt S ms p p.length = wsum S ms p p.length + 256 + F * wt S ms p p.length := by omega
  calc S * tsum S ms p p.length + (F * (S * wt S ms p p.length) + S * wt S ms p p.length) = S * (tsum S ms p p.length + wt S ms p p.length + F * wt S ms p p.length) := by
        rw [Nat.mul_add, Nat.mul_add]
        have : F * (S * wt S ms p p.length) = S * (F * wt S ms p p.length) := by ac_rfl
        omega
    _ = _ := by rw [h2]
def rs (R : List (List Int)) (g : List Int → Nat) : Nat := (R.map g).sum
theorem rs_cons (r : List Int) (R : List (List Int)) (g : List Int → Nat) : rs (r :: R) g = g r + rs R g := by unfold rs; rw [List.map_cons, List.sum_cons]
theorem rs_append (R R' : List (List Int)) (g : List Int → Nat) : rs (R ++ R') g = rs R g + rs R' g := by unfold rs; rw [List.map_append, List.sum_append]
theorem rs_congr {R : List (List Int)} {g h : List Int → Nat} (e : ∀ r ∈ R, g r = h r) : rs R g = rs R h := by
  unfold rs; rw [List.map_congr_left e]
theorem rs_add (R : List (List Int)) (g h : List Int → Nat) : rs R (fun r => g r + h r) = rs R g + rs R h := by
  induction R with
  | nil => rfl
  | cons r R ih => rw [rs_cons, rs_cons, rs_cons, ih]; omega
theorem rs_mul (R : List (List Int)) (c : Nat) (g : List Int → Nat) : rs R (fun r => c * g r) = c * rs R g := by
  induction R with
  | nil => rfl
  | cons r R ih => rw [rs_cons, rs_cons, ih, Nat.mul_add]
theorem rs_grow (F : Nat) (r : List Int) (g : List Int → Nat) : ∀ j, rs (grow F r j) g = fs j (fun f => g (r ++ [(f : Int)]))
  | 0 => rfl
  | j + 1 => by rw [grow_succ, rs_append, rs_grow F r g j, fs_succ]; rfl
theorem rs_ext (F : Nat) (R : List (List Int)) (g : List Int → Nat) : rs (ext F R) g = rs R (fun r => fs F (fun f => g (r ++ [(f : Int)]))) := by
  induction R with
  | nil => rfl
  | cons r R ih =>
    have : ext F (r :: R) = grow F r F ++ ext F R := by simp [ext]
    rw [this, rs_append, rs_grow, ih, rs_cons]
theorem dot_rs (ms pre : List Int) : ∀ R : List (List Int), dot (waitsOf ms pre R) (wgtsOf ms R) = rs R (fun r => pn ms r * wsum ms.sum.toNat ms (pre ++ r) (pre ++ r).length)
  | [] => rfl
  | r :: R => by
    have h := dot_rs ms pre R
    unfold waitsOf wgtsOf at h ⊢
    rw [List.map_cons, List.map_cons, dot, h, rs_cons]
    unfold pn
    rw [Nat.mul_comm]
theorem sum_rs (ms : List Int) (R : List (List Int)) : (wgtsOf ms R).sum = rs R (pn ms) := rfl
section
variable {ms pre : List Int} {R : List (List Int)}
theorem k_ext (hm : Loads ms) (h0 : 0 < ms.length) (hR : ∀ r ∈ R, Row ms r ∧ r.length ≤ 7) : rs (ext ms.length R) (pn ms) = ms.sum.toNat * rs R (pn ms) := by
  rw [rs_ext, ← rs_mul]
  refine rs_congr fun r hr => ?_
  obtain ⟨h1, h2⟩ := hR r hr
  rw [fs_congr (h := fun f => pn ms r * ld ms f) fun f hf => pn_snoc hm h1 (by omega) hf, fs_mul, fs_loads hm.2, Nat.mul_comm]
theorem row_append {p q : List Int} (h1 : Row ms p) (h2 : Row ms q) : Row ms (p ++ q) := fun x hx => (List.mem_append.mp hx).elim (h1 x) (h2 x)
def vs' (ms pre : List Int) (R : List (List Int)) : Nat := rs R (fun r => pn ms r * wt ms.sum.toNat ms (pre ++ r) (pre ++ r).length)
theorem v_ext (hm : Loads ms) (hp : Row ms pre) (hR : ∀ r ∈ R, Row ms r ∧ pre.length + r.length ≤ 7) : vs' ms pre (ext ms.length R) = ms.length * (ms.sum.toNat * vs' ms pre R) := by
  unfold vs'
  rw [rs_ext, ← rs_mul, ← rs_mul]
  refine rs_congr fun r hr => ?_
  obtain ⟨h1, h2⟩ := hR r hr
  have hpr := row_append hp h1
  have hl : (pre ++ r).length ≤ 7 := by rw [List.length_append]; omega
  rw [fs_congr (h := fun _ => ms.sum.toNat * (pn ms r * wt ms.sum.toNat ms (pre ++ r) (pre ++ r).length)) fun f hf => ?_, fs_const]
  have hl1 : (pre ++ (r ++ [(f : Int)])).length = (pre ++ r).length + 1 := by simp; omega
  have h3 := wt_snoc (S := ms.sum.toNat) (p := pre ++ r) (q := pre ++ (r ++ [(f : Int)])) (k := (pre ++ r).length) (f := f) hm hpr hl hf (by rw [List.take_length, ← hl1, List.take_length, List.append_assoc]) (row_append hp (row_snoc h1 hf))
  rw [hl1, pn_snoc hm h1 (by omega) hf, Nat.mul_assoc, h3]
  ac_rfl
theorem d_ext (hm : Loads ms) (h0 : 0 < ms.length) (hp : Row ms pre) (hR : ∀ r ∈ R, Row ms r ∧ pre.length + r.length ≤ 7) :
    dot (waitsOf ms pre (ext ms.length R)) (wgtsOf ms (ext ms.length R)) = ms.sum.toNat * (dot (waitsOf ms pre R) (wgtsOf ms R) + 256 * rs R (pn ms) + (ms.length - 1) * vs' ms pre R) := by
  rw [dot_rs, dot_rs, rs_ext, ← rs_mul]
  unfold vs'
  rw [← rs_mul, ← rs_add, ← rs_add, ← rs_mul]
  refine rs_congr fun r hr => ?_
  obtain ⟨h1, h2⟩ := hR r hr
  have hpr := row_append hp h1
  have hl : (pre ++ r).length ≤ 7 := by rw [List.length_append]; omega
  have hs := step_all (S := ms.sum.toNat) hm h0 hpr hl
  rw [fs_congr (h := fun f => pn ms r * (ld ms f * wsum ms.sum.toNat ms ((pre ++ r) ++ [(f : Int)]) ((pre ++ r) ++ [(f : Int)]).length)) fun f hf => by
    rw [pn_snoc hm h1 (by omega) hf, ← List.append_assoc, Nat.mul_assoc], fs_mul, hs]
  have a1 : pn ms r * (ms.sum.toNat * (wsum ms.sum.toNat ms (pre ++ r) (pre ++ r).length + 256 + (ms.length - 1) * wt ms.sum.toNat ms (pre ++ r) (pre ++ r).length)) =
      ms.sum.toNat * (pn ms r * (wsum ms.sum.toNat ms (pre ++ r) (pre ++ r).length + 256 + (ms.length - 1) * wt ms.sum.toNat ms (pre ++ r) (pre ++ r).length)) := by ac_rfl
  rw [a1, Nat.mul_add, Nat.mul_add, Nat.mul_add, Nat.mul_add]
  have a2 : pn ms r * ((ms.length - 1) * wt ms.sum.toNat ms (pre ++ r) (pre ++ r).length) = (ms.length - 1) * (pn ms r * wt ms.sum.toNat ms (pre ++ r) (pre ++ r).length) := by ac_rfl
  rw [a2, Nat.mul_comm 256, Nat.mul_add, Nat.mul_add]
end
def words (F : Nat) : Nat → List (List Int)
  | 0 => [[]]
  | i + 1 => ext F (words F i)
theorem words_rows {ms : List Int} : ∀ i, ∀ r ∈ words ms.length i, Row ms r ∧ r.length = i
  | 0, r, hr => by
    have : r = [] := by simpa [words] using hr
    subst this; exact ⟨fun x hx => absurd hx List.not_mem_nil, rfl⟩
  | i + 1, r, hr => by
    obtain ⟨r0, h0, f, hf, rfl⟩ := mem_ext hr
    obtain ⟨h1, h2⟩ := words_rows i r0 h0
    exact ⟨row_snoc h1 hf, by simp [h2]⟩
theorem words_length (F : Nat) : ∀ i, (words F i).length = F ^ i
  | 0 => rfl
  | i + 1 => by rw [words, ext_length, words_length F i, Nat.pow_succ]
theorem words_sum {ms : List Int} (hm : Loads ms) (h0 : 0 < ms.length) : ∀ i, i ≤ 7 → rs (words ms.length i) (pn ms) = ms.sum.toNat ^ i
  | 0, _ => rfl
  | i + 1, hi => by
    rw [words, k_ext hm h0 (fun r hr => ⟨(words_rows i r hr).1, by have := (words_rows i r hr).2; omega⟩), words_sum hm h0 i (by omega), Nat.pow_succ, Nat.mul_comm]
theorem words_v {ms pre : List Int} (hm : Loads ms) (hp : Row ms pre) : ∀ i, pre.length + i ≤ 8 → vs' ms pre (words ms.length i) = (ms.length * ms.sum.toNat) ^ i * wt ms.sum.toNat ms pre pre.length
  | 0, _ => by simp [vs', words, rs, pn_nil]
  | i + 1, hi => by
    rw [words, v_ext hm hp (fun r hr => ⟨(words_rows i r hr).1, by have := (words_rows i r hr).2; omega⟩), words_v hm hp i (by omega), Nat.pow_succ]
    ac_rfl
theorem words_law {ms pre : List Int} (hm : Loads ms) (h0 : 0 < ms.length) (hp : Row ms pre) : ∀ i, pre.length + i ≤ 8 →
    dot (waitsOf ms pre (words ms.length i)) (wgtsOf ms (words ms.length i)) = (wsum ms.sum.toNat ms pre pre.length + 256 * i + wt ms.sum.toNat ms pre pre.length * (ms.length ^ i - 1)) * ms.sum.toNat ^ i
  | 0, _ => by simp [waitsOf, wgtsOf, words, dot, prodL_nil]
  | i + 1, hi => by
    rw [words, d_ext hm h0 hp (fun r hr => ⟨(words_rows i r hr).1, by have := (words_rows i r hr).2; omega⟩), words_law hm h0 hp i (by omega), words_sum hm h0 i (by omega), words_v hm hp i (by omega)]
    generalize wsum ms.sum.toNat ms pre pre.length = W
    generalize wt ms.sum.toNat ms pre pre.length = V
    generalize ms.sum.toNat = S
    obtain ⟨F, hF⟩ : ∃ F, ms.length = F + 1 := ⟨ms.length - 1, by omega⟩
    rw [hF, Nat.add_sub_cancel, Nat.mul_pow]
    obtain ⟨G, hG⟩ : ∃ G, (F + 1) ^ i = G + 1 := ⟨(F + 1) ^ i - 1, by have := Nat.pow_pos (n := i) (show 0 < F + 1 by omega); omega⟩
    have e1 : (F + 1) ^ (i + 1) - 1 = G + F * (G + 1) := by rw [Nat.pow_succ, hG, Nat.mul_comm, Nat.succ_mul]; omega
    rw [e1, hG, Nat.add_sub_cancel, Nat.pow_succ]
    generalize S ^ i = P
    have e2 : F * ((G + 1) * P * V) = V * (F * (G + 1)) * P := by ac_rfl
    rw [e2, Nat.mul_add V, Nat.mul_add 256]
    have e3 : (W + 256 * i + V * G) * P + 256 * P + V * (F * (G + 1)) * P = (W + (256 * i + 256 * 1) + (V * G + V * (F * (G + 1)))) * P := by
      rw [← Nat.add_mul, ← Nat.add_mul]
      congr 1
      omega
    rw [e3]
    ac_rfl
end Mine
end
section
open PySem PySem.W PyProof.Rows
namespace Mine
theorem t_rest {w : World} {A : Around} {s : Shared} {Q : Flow → Shared → Prop} {L fa Wa lds ths : Addr} {cd : Value} {mean : ExcName → Option Value} {mg mb m : Str → Option Value} {h₀ : Heap} {ws us vs : List Value} {nw nl nt : Nat} {kv : Value} {t3 t2 t5 : Tok}
   {led : List (Addr × Obj)} {o2 o3 o4 o5 o6 o7 : Obj} {v6 v7 : Option Value} {ms ns : List Int} {mm : Nat}
   (X : (hd.heap_39 w.params).In h₀) (T : Top topProg lo mean mg mb h₀) (hh : A.handled = none) (hdp : A.depth < 700) (hun : A.units < 7000)
   (N : News h₀ L s.heap ((L + 1 + 1, o2) :: (L + 1 + 1 + 1, o3) :: (L + 1 + 1 + 1 + 1, o4) :: (L + 1 + 1 + 1 + 1 + 1, o5) :: (L + 1 + 1 + 1 + 1 + 1 + 1, o6) :: (L + 1 + 1 + 1 + 1 + 1 + 1 + 1, o7) :: (lds, W.listOf us.toArray nl) :: (ths, W.listOf vs.toArray nt) :: (Wa, W.listOf ws.toArray nw) :: led))
   (F1 : Fr h₀ L s.heap (kstB m [(Str.ofString "ways", .ref Wa), (Str.ofString "known", kv), (Str.ofString "worth", .float (fl (wt ms.sum.toNat ms (ns.take mm) (ns.take mm).length)) t3)]))
   (d2 : o2.data = .cell (some (.int (ms.length : Int) t2))) (d3 : o3.data = .cell (some (.ref lds))) (d4 : o4.data = .cell (some (.ref ths))) (d5 : o5.data = .cell (some (.int (mm : Int) t5))) (d6 : o6.data = .cell v6) (d7 : o7.data = .cell v7)
   (hus : IntsAre us ms) (hvs : IntsAre vs ns) (hm : Loads ms) (hF : 2 ≤ ms.length) (hrow : Row ms ns) (hns : ns.length ≤ 6) (hmm : mm ≤ ns.length)
   (hR : Rows led ws [[]])
   (l6 : lds ≠ L + 1 + 1 + 1 + 1 + 1 + 1) (l7 : lds ≠ L + 1 + 1 + 1 + 1 + 1 + 1 + 1) (t6 : ths ≠ L + 1 + 1 + 1 + 1 + 1 + 1) (t7 : ths ≠ L + 1 + 1 + 1 + 1 + 1 + 1 + 1) (f6 : Off (L + 1 + 1 + 1 + 1 + 1 + 1) led) (f7 : Off (L + 1 + 1 + 1 + 1 + 1 + 1 + 1) led)
   (hk : NumIs kv (wsum ms.sum.toNat ms (ns.take mm) (ns.take mm).length))
   (h : ∀ h' tk m' o6' o7' v6' v7', Fr h₀ L h' m' → o6'.data = .cell v6' → o7'.data = .cell v7' →
      News h₀ L h' ((L + 1 + 1, o2) :: (L + 1 + 1 + 1, o3) :: (L + 1 + 1 + 1 + 1, o4) :: (L + 1 + 1 + 1 + 1 + 1, o5) :: (L + 1 + 1 + 1 + 1 + 1 + 1, o6') :: (L + 1 + 1 + 1 + 1 + 1 + 1 + 1, o7') :: (lds, W.listOf us.toArray nl) :: (ths, W.listOf vs.toArray nt) :: led) → Q .next { s with heap := h', toks := tk })
   {n : Nat} {r : Addr} {t u z : Tok} {px : Pos} (hn2 : n ≤ 2) (hr : IsRange s.heap r 1 ((n : Int) + 1) 1 t u z) :
   ∃ (r' : Addr) (a b : Int) (n' : Nat) (t u z : Tok) (Inv : Nat → (Str → Option Value) → List (Addr × Obj) → Prop) (m' : Str → Option Value) (led' : List (Addr × Obj)), Value.ref r = .ref r' ∧ IsRange s.heap r' a b 1 t u z ∧ Builtin.Range.small a b 1 = true ∧ Builtin.Range.rangeSize a b 1 = (n' : Int) ∧ Fr h₀ L s.heap m' ∧ News h₀ L s.heap led' ∧ Inv 0 m' led' ∧
      (∀ i t I oI m₁ led₁ h tk (E' : Value → Shared → Prop), i < n' → Inv i m₁ led₁ → Fr h₀ L h m₁ → News h₀ L h ((I, oI) :: led₁) → Off I led₁ →
        wpAny (model prg w) A (assign (.Name (Str.ofString "t") px) (lawEnv L fa cd) (.int (a + (i : Int)) t)) (fun _ s₂ => wpAny (model prg w) A (execs lawT (lawEnv L fa cd)) (fun f s₃ => f = .next ∧ ∃ h' tk' m₂ led₂, s₃ = { s with heap := h', toks := tk' } ∧ Fr h₀ L h' m₂ ∧
          News h₀ L h' ((I, oI) :: led₂) ∧ Off I led₂ ∧ Inv (i + 1) m₂ led₂) E' s₂) E' { s with heap := h, toks := tk }) ∧
      (∀ h tk m₁ led₁, Inv n' m₁ led₁ → Fr h₀ L h m₁ → News h₀ L h led₁ → Q .next { s with heap := h, toks := tk }) := by
  have hsz : Builtin.Range.rangeSize 1 ((n : Int) + 1) 1 = (n : Int) := by
    unfold Builtin.Range.rangeSize
    rw [if_pos (by decide)]
    split <;> omega
  have hpl : (ns.take mm).length ≤ 6 := by have := List.length_take_le mm ns; omega
  have hpr := take_row hrow mm
  obtain ⟨hS0, hS6, hSn⟩ := sum_loads hm
  have hSp : 0 < ms.sum.toNat := by have := (sum_bounds hm.2).1; omega
  have hm3 := hm.1
  refine ⟨r, 1, (n : Int) + 1, n, t, u, z, fun i m₁ led₁ => ∃ o6 o7 v6 v7 Wb ws' nw' new, led₁ = ((L + 1 + 1, o2) :: (L + 1 + 1 + 1, o3) :: (L + 1 + 1 + 1 + 1, o4) :: (L + 1 + 1 + 1 + 1 + 1, o5) :: (L + 1 + 1 + 1 + 1 + 1 + 1, o6) :: (L + 1 + 1 + 1 + 1 + 1 + 1 + 1, o7) :: (lds, W.listOf us.toArray nl) :: (ths, W.listOf vs.toArray nt) :: (Wb, W.listOf ws'.toArray nw') :: new) ∧ o6.data = .cell v6 ∧ o7.data = .cell v7 ∧ Rows new ws' (words ms.length i) ∧ Off (L + 1 + 1 + 1 + 1 + 1 + 1) new ∧ Off (L + 1 + 1 + 1 + 1 + 1 + 1 + 1) new ∧ (∀ p ∈ led, p ∈ new) ∧
      m₁ (Str.ofString "ways") = some (.ref Wb) ∧ (∀ y, y ≠ Str.ofString "ways" → y ≠ Str.ofString "often" → y ≠ Str.ofString "told" → y ≠ Str.ofString "t" → m₁ y = kstB m [(Str.ofString "ways", .ref Wa), (Str.ofString "known", kv), (Str.ofString "worth", .float (fl (wt ms.sum.toNat ms (ns.take mm) (ns.take mm).length)) t3)] y), _, _, rfl, hr, small_one (by decide) (by decide) (by omega) (by omega), hsz, F1, N, ⟨o6, o7, v6, v7, Wa, ws, nw, led, rfl, d6, d7, hR, f6, f7, fun p hp => hp, rfl, fun y _ _ _ _ => rfl⟩, ?_, ?_⟩
  · rintro i t9 I oI m₁ led₁ h1 tk1 E' hi ⟨o6, o7, v6, v7, Wb, ws', nw', new, rfl, d6, d7, hR, f6, f7, hsub, hway, hmm1⟩ F N off
    refine assign_local rfl rfl rfl F N (fun h2 tk2 F N => ?_)
    have e1 : (1 : Int) + (i : Int) = ((i + 1 : Nat) : Int) := by omega
    rw [e1] at F
    have hkn : m₁ (Str.ofString "known") = some kv := by rw [hmm1 _ (by decide) (by decide) (by decide) (by decide)]; rfl
    have hwo : m₁ (Str.ofString "worth") = some (.float (fl (wt ms.sum.toNat ms (ns.take mm) (ns.take mm).length)) t3) := by rw [hmm1 _ (by decide) (by decide) (by decide) (by decide)]; rfl
    have hwr := words_rows (ms := ms) i
    have hwl := words_length ms.length i
    have hwl1 := words_length ms.length (i + 1)
    have hlaw := words_law (pre := ns.take mm) hm (by omega) hpr (i + 1) (by omega)
    have hsum : (wgtsOf ms (words ms.length (i + 1))).sum = ms.sum.toNat ^ (i + 1) := words_sum hm (by omega) (i + 1) (by omega)
    have hp1 : ms.length ^ i ≤ 3 := by
      have : ms.length ^ i ≤ ms.length ^ 1 := Nat.pow_le_pow_right (by omega) (by omega)
      rw [Nat.pow_one] at this; omega
    have hp2 : ms.length ^ (i + 1) ≤ 9 := by
      have h2 : ms.length ^ (i + 1) ≤ ms.length ^ 2 := Nat.pow_le_pow_right (by omega) (by omega)
      have h3 : ms.length ^ 2 ≤ 3 ^ 2 := Nat.pow_le_pow_left hm3 2
      exact Nat.le_trans h2 h3
    have hp0 : 1 ≤ ms.length ^ (i + 1) := Nat.pow_pos (by omega)
    have hs2 : ms.sum.toNat ^ (i + 1) ≤ 36 := by
      have h2 : ms.sum.toNat ^ (i + 1) ≤ ms.sum.toNat ^ 2 := Nat.pow_le_pow_right hSp (by omega)
      have h3 : ms.sum.toNat ^ 2 ≤ 6 ^ 2 := Nat.pow_le_pow_left hSn 2
      exact Nat.le_trans h2 h3
    have hs0 : 0 < ms.sum.toNat ^ (i + 1) := Nat.pow_pos hSp
    have hwt := wt_le (S := ms.sum.toNat) (ms := ms) (ns := ns.take mm) (k := (ns.take mm).length) hSn (by omega)
    have hws := wsum_le (S := ms.sum.toNat) (ms := ms) (ns := ns.take mm) (k := (ns.take mm).length) hSn (by omega)
    have hC : (6 : Nat) ^ 8 * 256 = 429981696 := rfl
    rw [hC] at hwt hws
    have hws' : (ns.take mm).length * 429981696 ≤ 6 * 429981696 := Nat.mul_le_mul_right _ hpl
    generalize hW0 : wsum ms.sum.toNat ms (ns.take mm) (ns.take mm).length = W0 at *
    generalize hV0 : wt ms.sum.toNat ms (ns.take mm) (ns.take mm).length = V0 at *
    have hVn : V0 * (ms.length ^ (i + 1) - 1) ≤ 429981696 * 8 := Nat.mul_le_mul hwt (by omega)
    have hi1 : 256 * (i + 1) ≤ 512 := by omega
    have hext : ext ms.length (words ms.length i) = words ms.length (i + 1) := rfl
    refine turnT (t3 := t3) (tt := t9) (Wa := Wb) (ws := ws') (nw := nw') (lds := lds) (ths := ths) (us := us) (vs := vs) (nl := nl) (nt := nt) (o2 := o2) (o3 := o3) (o4 := o4) (o5 := o5) (o6 := o6) (o7 := o7) (led := (I, oI) :: new) (rows := words ms.length i) (mm := mm) (x0 := W0) (wx := V0) (t := i + 1) (n := ms.length ^ (i + 1) - 1) (x := W0 + 256 * (i + 1) + V0 * (ms.length ^ (i + 1) - 1))
      X T hh hdp hun (news_sub N fun p hp => ?_) F ?_ ?_ ?_ ?_ d2 d3 d4 d5 d6 d7 hus hvs hm hF hrow hns hmm (hR.mono fun p hp => .tail _ hp) (fun r hr => ⟨(hwr r hr).1, by have := (hwr r hr).2; omega⟩) (by omega) (by rw [hwl]; exact Nat.pow_pos (by omega)) l6 l7 t6 t7 ?_ ?_ hk (by omega) (by rw [hext, hwl1]; omega) (by omega) rfl (by omega) (by omega) ?_ (by rw [hext, hsum]; omega) (by rw [hext, hsum]; exact hs0) ?_ ?_ ?_
    · simp only [List.mem_cons] at hp ⊢
      grind
    · rw [if_neg (by decide)]; exact hkn
    · rw [if_neg (by decide)]; exact hwo
    · rw [if_neg (by decide)]; exact hway
    · rw [if_pos rfl]
    · intro p hp
      rcases List.mem_cons.mp hp with rfl | hp
      · exact Ne.symm (off (L + 1 + 1 + 1 + 1 + 1 + 1, o6) (by simp))
      · exact f6 p hp
    · intro p hp
      rcases List.mem_cons.mp hp with rfl | hp
      · exact Ne.symm (off (L + 1 + 1 + 1 + 1 + 1 + 1 + 1, o7) (by simp))
      · exact f7 p hp
    · intro y hy
      rw [hext] at hy
      unfold waitsOf at hy
      obtain ⟨r9, hr9, rfl⟩ := List.mem_map.mp hy
      have hl9 := (words_rows (ms := ms) (i + 1) r9 hr9).2
      have := wsum_le (S := ms.sum.toNat) (ms := ms) (ns := ns.take mm ++ r9) (k := (ns.take mm ++ r9).length) hSn (by rw [List.length_append]; omega)
      rw [hC] at this
      have h8 : (ns.take mm ++ r9).length * 429981696 ≤ 8 * 429981696 := Nat.mul_le_mul_right _ (by rw [List.length_append]; omega)
      omega
    · rw [hext, hlaw]
      have : (W0 + 256 * (i + 1) + V0 * (ms.length ^ (i + 1) - 1)) * ms.sum.toNat ^ (i + 1) ≤ (6 * 429981696 + 512 + 429981696 * 8) * 36 := Nat.mul_le_mul (by omega) hs2
      omega
    · rw [hext, hlaw, hsum]
    · intro h3 tk3 m₂ Wc ws3 o6' o7' v6' v7' new' F3 hw3 hm3' d6' d7' hR3 hoff N3
      have hoI := hoff (I, oI) (by simp)
      have ho6 := hoff (L + 1 + 1 + 1 + 1 + 1 + 1, o6) (by simp)
      have ho7 := hoff (L + 1 + 1 + 1 + 1 + 1 + 1 + 1, o7) (by simp)
      refine ⟨rfl, h3, tk3, m₂, ((L + 1 + 1, o2) :: (L + 1 + 1 + 1, o3) :: (L + 1 + 1 + 1 + 1, o4) :: (L + 1 + 1 + 1 + 1 + 1, o5) :: (L + 1 + 1 + 1 + 1 + 1 + 1, o6') :: (L + 1 + 1 + 1 + 1 + 1 + 1 + 1, o7') :: (lds, W.listOf us.toArray nl) :: (ths, W.listOf vs.toArray nt) :: (Wc, W.listOf ws3.toArray ws3.length) :: (new' ++ new)), rfl, F3, news_sub N3 fun p hp => ?_, fun p hp => ?_, o6', o7', v6', v7', Wc, ws3, ws3.length, new' ++ new, rfl, d6', d7', hR3.mono fun p hp => List.mem_append_left _ hp, fun p hp => ?_, fun p hp => ?_, fun p hp => List.mem_append_right _ (hsub p hp), hw3, fun y y1 y2 y3 y4 => ?_⟩
      · simp only [List.mem_cons, List.mem_append] at hp ⊢
        grind
      · simp only [List.mem_cons, List.mem_append] at hp
        rcases hp with rfl | rfl | rfl | rfl | rfl | rfl | rfl | rfl | rfl | hp | hp
        · exact off (L + 1 + 1, o2) (by simp)
        · exact off (L + 1 + 1 + 1, o3) (by simp)
        · exact off (L + 1 + 1 + 1 + 1, o4) (by simp)
        · exact off (L + 1 + 1 + 1 + 1 + 1, o5) (by simp)
        · exact off (L + 1 + 1 + 1 + 1 + 1 + 1, o6) (by simp)
        · exact off (L + 1 + 1 + 1 + 1 + 1 + 1 + 1, o7) (by simp)
        · exact off (lds, W.listOf us.toArray nl) (by simp)
        · exact off (ths, W.listOf vs.toArray nt) (by simp)
        · exact hoI (Wc, LCg.lst ws3) (by simp)
        · exact hoI p (by simp [hp])
        · exact off p (by simp [hp])
      · rcases List.mem_append.mp hp with hp | hp
        · exact ho6 p (by simp [hp])
        · exact f6 p hp
      · rcases List.mem_append.mp hp with hp | hp
        · exact ho7 p (by simp [hp])
        · exact f7 p hp
      · rw [hm3' y y1 y2 y3, if_neg y4]; exact hmm1 y y1 y2 y3 y4
  · rintro h1 tk1 m₁ led₁ ⟨o6, o7, v6, v7, Wb, ws', nw', new, rfl, d6, d7, hR, f6, f7, hsub, hway, hmm1⟩ F N
    refine h h1 tk1 m₁ o6 o7 v6 v7 F d6 d7 (news_sub N fun p hp => ?_)
    have hs := hsub p
    simp only [List.mem_cons] at hp ⊢
    grind
theorem for_t {w : World} {A : Around} {s : Shared} {E : Value → Shared → Prop} {Q : Flow → Shared → Prop} {L fa Wa lds ths : Addr} {cd : Value} {mean : ExcName → Option Value} {mg mb m : Str → Option Value} {h₀ : Heap} {ws us vs : List Value} {nw nl nt : Nat} {kv : Value} {t3 t2 t5 : Tok}
   {led : List (Addr × Obj)} {o2 o3 o4 o5 o6 o7 : Obj} {v6 v7 : Option Value} {ms ns : List Int} {mm : Nat}
   (X : (hd.heap_39 w.params).In h₀) (T : Top topProg lo mean mg mb h₀) (hh : A.handled = none) (hdp : A.depth < 700) (hun : A.units < 7000)
   (N : News h₀ L s.heap ((L + 1 + 1, o2) :: (L + 1 + 1 + 1, o3) :: (L + 1 + 1 + 1 + 1, o4) :: (L + 1 + 1 + 1 + 1 + 1, o5) :: (L + 1 + 1 + 1 + 1 + 1 + 1, o6) :: (L + 1 + 1 + 1 + 1 + 1 + 1 + 1, o7) :: (lds, W.listOf us.toArray nl) :: (ths, W.listOf vs.toArray nt) :: (Wa, W.listOf ws.toArray nw) :: led))
   (F1 : Fr h₀ L s.heap (kstB m [(Str.ofString "ways", .ref Wa), (Str.ofString "known", kv), (Str.ofString "worth", .float (fl (wt ms.sum.toNat ms (ns.take mm) (ns.take mm).length)) t3)]))
   (d2 : o2.data = .cell (some (.int (ms.length : Int) t2))) (d3 : o3.data = .cell (some (.ref lds))) (d4 : o4.data = .cell (some (.ref ths))) (d5 : o5.data = .cell (some (.int (mm : Int) t5))) (d6 : o6.data = .cell v6) (d7 : o7.data = .cell v7)
   (hus : IntsAre us ms) (hvs : IntsAre vs ns) (hm : Loads ms) (hF : 2 ≤ ms.length) (hrow : Row ms ns) (hns : ns.length ≤ 6) (hmm : mm ≤ ns.length)
   (hR : Rows led ws [[]])
   (l6 : lds ≠ L + 1 + 1 + 1 + 1 + 1 + 1) (l7 : lds ≠ L + 1 + 1 + 1 + 1 + 1 + 1 + 1) (t6 : ths ≠ L + 1 + 1 + 1 + 1 + 1 + 1) (t7 : ths ≠ L + 1 + 1 + 1 + 1 + 1 + 1 + 1) (f6 : Off (L + 1 + 1 + 1 + 1 + 1 + 1) led) (f7 : Off (L + 1 + 1 + 1 + 1 + 1 + 1 + 1) led)
   (hk : NumIs kv (wsum ms.sum.toNat ms (ns.take mm) (ns.take mm).length))
   (h : ∀ h' tk m' o6' o7' v6' v7', Fr h₀ L h' m' → o6'.data = .cell v6' → o7'.data = .cell v7' →
      News h₀ L h' ((L + 1 + 1, o2) :: (L + 1 + 1 + 1, o3) :: (L + 1 + 1 + 1 + 1, o4) :: (L + 1 + 1 + 1 + 1 + 1, o5) :: (L + 1 + 1 + 1 + 1 + 1 + 1, o6') :: (L + 1 + 1 + 1 + 1 + 1 + 1 + 1, o7') :: (lds, W.listOf us.toArray nl) :: (ths, W.listOf vs.toArray nt) :: led) → Q .next { s with heap := h', toks := tk })
   : wpAny (model prg w) A (exec (lawM.getD 3 (.Pass ⟨0, 0, 0, 0⟩)) (lawEnv L fa cd)) Q E s := by
  have kf : Named PySem.Challenge.rw_rs0025_01 hd.heap_39 := by (k_fill; exact named)
  clear kf
  dsimp only [kstB] at F1
  unfold lawEnv
  conv in lawScope => whnf
  conv in lawM.getD _ _ => whnf
  refine For_range (h₀ := h₀) (L := L) hh (by intro _; rfl) ?_
  iterate 15 (first | walk1 | (dsimp only; walk1))
  refine len_list (of_list (a := ths) (ws := vs) (n := nt) N (by simp)) (by have := hvs.length; simp; omega) ?_
  have hvl := hvs.length
  iterate 3 (first | walk1 | (dsimp only; walk1))
  · iterate 3 (first | walk1 | (dsimp only; walk1))
    rename_i h9 tk9 _ _ _ hr9 F9 N9 _
    rename IntsAre us _ => hus9
    rename IntsAre vs _ => hvs9
    exact t_rest (n := 2) (s := { s with heap := h9, toks := tk9 }) (m := m) X T hh hdp hun N9 F9 d2 d3 d4 d5 d6 d7 hus9 hvs9 hm hF hrow hns hmm hR l6 l7 t6 t7 f6 f7 hk (fun h' tk m' o6' o7' v6' v7' a1 a2 a3 a4 => h h' tk m' o6' o7' v6' v7' a1 a2 a3 a4) (by decide) hr9
  · iterate 3 (first | walk1 | (dsimp only; walk1))
    rename_i h9 tk9 _ _ _ hr9 F9 N9 _
    rename IntsAre us _ => hus9
    rename IntsAre vs _ => hvs9
    exact t_rest (n := 1) (s := { s with heap := h9, toks := tk9 }) (m := m) X T hh hdp hun N9 F9 d2 d3 d4 d5 d6 d7 hus9 hvs9 hm hF hrow hns hmm hR l6 l7 t6 t7 f6 f7 hk (fun h' tk m' o6' o7' v6' v7' a1 a2 a3 a4 => h h' tk m' o6' o7' v6' v7' a1 a2 a3 a4) (by decide) hr9
end Mine
end
section
open PySem PySem.W PyProof.Rows
namespace Mine
theorem modeb : True := by w_top on; exact trivial
theorem turnM {w : World} {A : Around} {s : Shared} {E : Value → Shared → Prop} {Q : Flow → Shared → Prop} {L fa lds ths : Addr} {cd : Value} {mean : ExcName → Option Value} {mg mb m : Str → Option Value} {h₀ : Heap} {us vs : List Value} {nl nt : Nat} {t2 t5 : Tok}
   {led : List (Addr × Obj)} {o2 o3 o4 o5 o6 o7 : Obj} {v6 v7 : Option Value} {ms ns : List Int} {mm : Nat}
   (X : (hd.heap_39 w.params).In h₀) (T : Top topProg lo mean mg mb h₀) (hh : A.handled = none) (hdp : A.depth < 700) (hun : A.units < 7000)
   (N : News h₀ L s.heap ((L + 1 + 1, o2) :: (L + 1 + 1 + 1, o3) :: (L + 1 + 1 + 1 + 1, o4) :: (L + 1 + 1 + 1 + 1 + 1, o5) :: (L + 1 + 1 + 1 + 1 + 1 + 1, o6) :: (L + 1 + 1 + 1 + 1 + 1 + 1 + 1, o7) :: (lds, W.listOf us.toArray nl) :: (ths, W.listOf vs.toArray nt) :: led))
   (F1 : Fr h₀ L s.heap m)
   (d2 : o2.data = .cell (some (.int (ms.length : Int) t2))) (d3 : o3.data = .cell (some (.ref lds))) (d4 : o4.data = .cell (some (.ref ths))) (d5 : o5.data = .cell (some (.int (mm : Int) t5))) (d6 : o6.data = .cell v6) (d7 : o7.data = .cell v7)
   (hus : IntsAre us ms) (hvs : IntsAre vs ns) (hm : Loads ms) (hF : 2 ≤ ms.length) (hrow : Row ms ns) (hns : ns.length ≤ 6) (hmm : mm ≤ ns.length)
   (l6 : lds ≠ L + 1 + 1 + 1 + 1 + 1 + 1) (l7 : lds ≠ L + 1 + 1 + 1 + 1 + 1 + 1 + 1) (t6 : ths ≠ L + 1 + 1 + 1 + 1 + 1 + 1) (t7 : ths ≠ L + 1 + 1 + 1 + 1 + 1 + 1 + 1) (f6 : Off (L + 1 + 1 + 1 + 1 + 1 + 1) led) (f7 : Off (L + 1 + 1 + 1 + 1 + 1 + 1 + 1) led)
   (h : ∀ h' tk m' o6' o7' v6' v7', Fr h₀ L h' m' → o6'.data = .cell v6' → o7'.data = .cell v7' →
      News h₀ L h' ((L + 1 + 1, o2) :: (L + 1 + 1 + 1, o3) :: (L + 1 + 1 + 1 + 1, o4) :: (L + 1 + 1 + 1 + 1 + 1, o5) :: (L + 1 + 1 + 1 + 1 + 1 + 1, o6') :: (L + 1 + 1 + 1 + 1 + 1 + 1 + 1, o7') :: (lds, W.listOf us.toArray nl) :: (ths, W.listOf vs.toArray nt) :: led) → Q .next { s with heap := h', toks := tk })
   : wpAny (model prg w) A (execs lawM (lawEnv L fa cd)) Q E s := by
  have kf : Named PySem.Challenge.rw_rs0025_01 hd.heap_39 := by (k_fill; exact named)
  clear kf
  unfold lawEnv
  conv in lawScope => whnf
  conv in lawM => whnf
  w_top on
  iterate 17 (first | walk1 | (dsimp only; walk1))
  rename Fr _ _ _ _ => F9
  rename News _ _ _ _ => N9
  rename IntsAre _ (List.take _ _) => I9
  rw [Int.toNat_natCast] at I9
  rename IntsAre us _ => hus9
  rename IntsAre vs _ => hvs9
  have hpl : (ns.take mm).length ≤ 6 := by have := List.length_take_le mm ns; omega
  have hpr := take_row hrow mm
  refine ⟨X.keeps F9.keep, ?_⟩
  refine call_wait F9 N9 X (topRead_of T) hh (by omega) (by omega) (of_list N9 (.head _)) I9 (of_list (a := lds) (ws := us) (n := nl) N9 (by simp)) hus9 (by omega) hm hpr (fun h1 tk1 kv F1 N1 hkv => ?_)
  clear F9 N9
  have hknown : NumIs kv (wsum ms.sum.toNat ms (ns.take mm) (ns.take mm).length) := by
    rcases hkv with ⟨e, t, rfl⟩ | ⟨_, t, rfl⟩
    · rw [e]; exact .inr ⟨0, t, rfl, rfl⟩
    · exact .inl ⟨t, rfl⟩
  replace N1 := news_sub N1 (fun p hp => .tail _ hp)
  clear I9
  iterate 11 (first | walk1 | (dsimp only; walk1))
  rename Fr _ _ _ _ => F2
  rename News _ _ _ _ => N2
  obtain ⟨hS0, hS6, hSn⟩ := sum_loads hm
  refine LSm.sum_ints F2 N2 hh (of_list (a := lds) (ws := us) (n := nl) N2 (by simp)) hus9 (fun h7 tk7 tq7 F3 N3 => ?_)
  clear F2 N2
  iterate 1 (first | walk1 | (dsimp only; walk1))
  refine pow_int_small (by omega) (by omega) (by omega) ?_
  rw [Int.toNat_natCast]
  iterate 15 (first | walk1 | (dsimp only; walk1))
  rename Fr _ _ _ _ => F9
  rename News _ _ _ _ => N9
  rename IntsAre _ (List.take _ _) => I9
  rw [Int.toNat_natCast] at I9
  refine ⟨X.keeps F9.keep, ?_⟩
  refine call_product F9 N9 X (topRead_of T) hh (by omega) (of_list N9 (.head _)) I9 (of_list (a := lds) (ws := us) (n := nl) N9 (by simp)) hus9 (by omega) hm hpr (fun h10 tk10 t10 F4 N4 => ?_)
  clear F9 N9
  replace N4 := news_sub N4 (fun p hp => .tail _ hp)
  have hlen : (ns.take mm).length = mm := by rw [List.length_take]; omega
  have hpb := prodL_bound hm hpr (by omega)
  have hp1 := hpb.1
  have hSk : (ms.sum ^ mm).natAbs = ms.sum.toNat ^ mm := by rw [Int.natAbs_pow, show ms.sum.natAbs = ms.sum.toNat by omega]
  have hS8 : ms.sum.toNat ^ mm ≤ 6 ^ 8 := Nat.le_trans (Nat.pow_le_pow_left hSn mm) (Nat.pow_le_pow_right (by decide) (by omega))
  refine Flt.div_ii_fits hh (by rw [hSk]; exact Nat.lt_of_le_of_lt hS8 (by decide +kernel)) (fun e => by omega) (fun _ _ => ?_)
  have hsg : (decide (ms.sum ^ mm < 0) != decide (prodL ms (ns.take mm) < 0)) = false := by
    have h1 : ¬ ms.sum ^ mm < 0 := by
      have : ms.sum ^ mm = ((ms.sum.toNat ^ mm : Nat) : Int) := by rw [Int.natCast_pow, Int.toNat_of_nonneg hS0]
      omega
    have h2 : ¬ prodL ms (ns.take mm) < 0 := by omega
    simp [h1, h2]
  have hfl : Float64.ofFrac (decide (ms.sum ^ mm < 0) != decide (prodL ms (ns.take mm) < 0)) (ms.sum ^ mm).natAbs (prodL ms (ns.take mm)).natAbs = fl (wt ms.sum.toNat ms (ns.take mm) (ns.take mm).length) := by
    rw [hsg, hSk, show (prodL ms (ns.take mm)).natAbs = (prodL ms (ns.take mm)).toNat by omega]
    have hwle := wt_le (S := ms.sum.toNat) (ms := ms) (ns := ns.take mm) hSn (show (ns.take mm).length ≤ 8 by omega)
    have hC : (6 : Nat) ^ 8 * 256 = 429981696 := rfl
    refine fl_ofFrac (by omega) (by omega) ?_
    have := wt_mul (S := ms.sum.toNat) (ms := ms) (ns := ns.take mm) (k := (ns.take mm).length) hm hpr (by omega)
    rw [List.take_length] at this
    rw [← this, hlen]
  rw [hfl]
  clear hfl hsg hS8 hSk hpb hp1 I9
  dsimp only
  iterate 2 (first | walk1 | (dsimp only; walk1))
  iterate 9 (first | walk1 | (dsimp only; walk1))
  rename Fr _ _ _ _ => F9
  rename News _ _ _ _ => N9
  rename_i l9 h8 l1 D0 h9 l2
  iterate 1 (first | walk1 | (dsimp only; walk1))
  rename Fr _ _ _ _ => F9
  rename News _ _ _ _ => N9
  rename IntsAre us _ => hus9
  rename IntsAre vs _ => hvs9
  dsimp only
  have c6 : (l9 : Nat) ≠ L + 1 + 1 + 1 + 1 + 1 + 1 := Nat.ne_of_gt l1.2.2.2.2.1
  have c7 : (l9 : Nat) ≠ L + 1 + 1 + 1 + 1 + 1 + 1 + 1 := Nat.ne_of_gt l1.2.2.2.2.2.1
  have hself : kstB (fun y => if y = Str.ofString "ways" then some (Value.ref D0) else if y = Str.ofString "worth" then some (Value.float (fl (wt ms.sum.toNat ms (ns.take mm) (ns.take mm).length)) tk10) else if y = Str.ofString "known" then some kv else m y)
      [(Str.ofString "ways", .ref D0), (Str.ofString "known", kv), (Str.ofString "worth", .float (fl (wt ms.sum.toNat ms (ns.take mm) (ns.take mm).length)) tk10)] = (fun y => if y = Str.ofString "ways" then some (Value.ref D0) else if y = Str.ofString "worth" then some (Value.float (fl (wt ms.sum.toNat ms (ns.take mm) (ns.take mm).length)) tk10) else if y = Str.ofString "known" then some kv else m y) := by
    refine kst_self fun p hp => ?_
    simp only [List.mem_cons, List.not_mem_nil, or_false] at hp
    rcases hp with rfl | rfl | rfl
    · rfl
    · rfl
    · rfl
  refine wpAny_execs_cons (for_t (Wa := D0) (us := us) (vs := vs) (nl := nl) (nt := nt) (ws := [.ref l9]) (nw := 0) (t3 := tk10) (kv := kv) (o6 := o6) (o7 := o7) (led := (l9, W.listOf ([] : List Value).toArray 0) :: led)
    (m := (fun y => if y = Str.ofString "ways" then some (Value.ref D0) else if y = Str.ofString "worth" then some (Value.float (fl (wt ms.sum.toNat ms (ns.take mm) (ns.take mm).length)) tk10) else if y = Str.ofString "known" then some kv else m y))
    X T hh hdp hun (news_sub N9 fun p hp => ?_) (by rw [hself]; exact F9) d2 d3 d4 d5 d6 d7 hus9 hvs9 hm hF hrow hns hmm (Rows.nil.snoc (.head _) IntsAre.nil) l6 l7 t6 t7 (fun p hp => ?_) (fun p hp => ?_) hknown (fun h11 tk11 m' o6' o7' v6' v7' a1 a2 a3 a4 => ?_))
  · simp only [List.mem_cons] at hp ⊢
    grind
  · rcases List.mem_cons.mp hp with rfl | hp
    · exact c6
    · exact f6 p hp
  · rcases List.mem_cons.mp hp with rfl | hp
    · exact c7
    · exact f7 p hp
  · refine wpAny_execs_nil ?_
    refine h h11 tk11 m' o6' o7' v6' v7' a1 a2 a3 (news_sub a4 fun p hp => ?_)
    simp only [List.mem_cons] at hp ⊢
    grind
end Mine
end
section
open PySem PySem.W PyProof.Rows
namespace Mine
theorem for_m {w : World} {A : Around} {s : Shared} {E : Value → Shared → Prop} {Q : Flow → Shared → Prop} {L fa lds ths : Addr} {cd : Value} {mean : ExcName → Option Value} {mg mb m : Str → Option Value} {h₀ : Heap} {us vs : List Value} {nl nt : Nat} {t2 : Tok}
   {o2 o3 o4 o5 o6 o7 : Obj} {v5 v6 v7 : Option Value} {ms ns : List Int}
   (X : (hd.heap_39 w.params).In h₀) (T : Top topProg lo mean mg mb h₀) (hh : A.handled = none) (hdp : A.depth < 700) (hun : A.units < 7000)
   (N : News h₀ L s.heap [(L + 1 + 1, o2), (L + 1 + 1 + 1, o3), (L + 1 + 1 + 1 + 1, o4), (L + 1 + 1 + 1 + 1 + 1, o5), (L + 1 + 1 + 1 + 1 + 1 + 1, o6), (L + 1 + 1 + 1 + 1 + 1 + 1 + 1, o7), (lds, W.listOf us.toArray nl), (ths, W.listOf vs.toArray nt)])
   (F1 : Fr h₀ L s.heap m)
   (d2 : o2.data = .cell (some (.int (ms.length : Int) t2))) (d3 : o3.data = .cell (some (.ref lds))) (d4 : o4.data = .cell (some (.ref ths))) (d5 : o5.data = .cell v5) (d6 : o6.data = .cell v6) (d7 : o7.data = .cell v7)
   (hus : IntsAre us ms) (hvs : IntsAre vs ns) (hm : Loads ms) (hF : 2 ≤ ms.length) (hrow : Row ms ns) (hns : ns.length ≤ 6)
   (l5 : lds ≠ L + 1 + 1 + 1 + 1 + 1) (l6 : lds ≠ L + 1 + 1 + 1 + 1 + 1 + 1) (l7 : lds ≠ L + 1 + 1 + 1 + 1 + 1 + 1 + 1) (t5 : ths ≠ L + 1 + 1 + 1 + 1 + 1) (t6 : ths ≠ L + 1 + 1 + 1 + 1 + 1 + 1) (t7 : ths ≠ L + 1 + 1 + 1 + 1 + 1 + 1 + 1)
   (h : ∀ h' tk m', Fr h₀ L h' m' → Q .next { s with heap := h', toks := tk })
   : wpAny (model prg w) A (exec (lawBody.getD 5 (.Pass ⟨0, 0, 0, 0⟩)) (lawEnv L fa cd)) Q E s := by
  have kf : Named PySem.Challenge.rw_rs0025_01 hd.heap_39 := by (k_fill; exact named)
  clear kf
  unfold lawEnv
  conv in lawScope => whnf
  conv in lawBody.getD _ _ => whnf
  w_top on
  refine For_range (h₀ := h₀) (L := L) hh (by intro _; rfl) ?_
  have hvl := hvs.length
  iterate 11 (first | walk1 | (dsimp only; walk1))
  refine len_list (of_list (a := ths) (ws := vs) (n := nt) N (by simp)) (by simp; omega) ?_
  iterate 4 (first | walk1 | (dsimp only; walk1))
  rename IsRange _ _ _ _ _ _ _ _ => hr9
  rename Fr _ _ _ _ => F9
  rename News _ _ _ _ => N9
  rename IntsAre us _ => hus9
  rename IntsAre vs _ => hvs9
  have hsz : Builtin.Range.rangeSize 0 ((ns.length : Int) + 1) 1 = ((ns.length + 1 : Nat) : Int) := by
    unfold Builtin.Range.rangeSize
    rw [if_pos (by decide)]
    split <;> omega
  refine ⟨_, 0, _, ns.length + 1, _, _, _, fun i m₁ led₁ => ∃ o5 o6 o7 v5 v6 v7, led₁ = [(L + 1 + 1, o2), (L + 1 + 1 + 1, o3), (L + 1 + 1 + 1 + 1, o4), (L + 1 + 1 + 1 + 1 + 1, o5), (L + 1 + 1 + 1 + 1 + 1 + 1, o6), (L + 1 + 1 + 1 + 1 + 1 + 1 + 1, o7), (lds, W.listOf us.toArray nl), (ths, W.listOf vs.toArray nt)] ∧ o5.data = .cell v5 ∧ o6.data = .cell v6 ∧ o7.data = .cell v7, _, _, rfl, hr9, small_one (by decide) (by decide) (by omega) (by omega), hsz, F9, N9, ⟨o5, o6, o7, v5, v6, v7, rfl, d5, d6, d7⟩, ?_, ?_⟩
  · rintro i t9 I oI m₁ led₁ h1 tk1 E' hi ⟨o5, o6, o7, v5, v6, v7, rfl, d5, d6, d7⟩ F N off
    refine assign_cell (c := L + 1 + 1 + 1 + 1 + 1) rfl rfl rfl F N (by simp) d5 (fun h2 o5' d5' F2 N2 => ?_)
    rw [Int.zero_add] at d5'
    have hI5 : I ≠ L + 1 + 1 + 1 + 1 + 1 := Ne.symm (off (L + 1 + 1 + 1 + 1 + 1, o5) (by simp))
    have N3 : News h₀ L h2 ((I, oI) :: [(L + 1 + 1, o2), (L + 1 + 1 + 1, o3), (L + 1 + 1 + 1 + 1, o4), (L + 1 + 1 + 1 + 1 + 1, o5'), (L + 1 + 1 + 1 + 1 + 1 + 1, o6), (L + 1 + 1 + 1 + 1 + 1 + 1 + 1, o7), (lds, W.listOf us.toArray nl), (ths, W.listOf vs.toArray nt)]) := by
      refine N2 _ fun p hp => ?_
      simp only [List.mem_cons, List.not_mem_nil, or_false] at hp
      rcases hp with rfl | rfl | rfl | rfl | rfl | rfl | rfl | rfl | rfl
      · exact .inr ⟨by simp, hI5⟩
      · exact .inr ⟨by simp, ne25 L⟩
      · exact .inr ⟨by simp, ne35 L⟩
      · exact .inr ⟨by simp, ne45 L⟩
      · exact .inl rfl
      · exact .inr ⟨by simp, ne65 L⟩
      · exact .inr ⟨by simp, ne75 L⟩
      · exact .inr ⟨by simp, l5⟩
      · exact .inr ⟨by simp, t5⟩
    have hI6 : I ≠ L + 1 + 1 + 1 + 1 + 1 + 1 := Ne.symm (off (L + 1 + 1 + 1 + 1 + 1 + 1, o6) (by simp))
    have hI7 : I ≠ L + 1 + 1 + 1 + 1 + 1 + 1 + 1 := Ne.symm (off (L + 1 + 1 + 1 + 1 + 1 + 1 + 1, o7) (by simp))
    refine turnM (lds := lds) (ths := ths) (us := us) (vs := vs) (nl := nl) (nt := nt) (o2 := o2) (o3 := o3) (o4 := o4) (o5 := o5') (o6 := o6) (o7 := o7) (led := [(I, oI)]) (mm := i) (ms := ms) (ns := ns) (m := m₁) X T hh hdp hun (news_sub N3 fun p hp => ?_) F2 d2 d3 d4 d5' d6 d7 hus9 hvs9 hm hF hrow hns (by omega) l6 l7 t6 t7 (fun p hp => ?_) (fun p hp => ?_) (fun h4 tk4 m' o6' o7' v6' v7' F4 d6' d7' N4 => ?_)
    · simp only [List.mem_cons, List.not_mem_nil, or_false] at hp ⊢
      grind
    · rw [List.mem_singleton.mp hp]; exact hI6
    · rw [List.mem_singleton.mp hp]; exact hI7
    · refine ⟨rfl, h4, tk4, m', [(L + 1 + 1, o2), (L + 1 + 1 + 1, o3), (L + 1 + 1 + 1 + 1, o4), (L + 1 + 1 + 1 + 1 + 1, o5'), (L + 1 + 1 + 1 + 1 + 1 + 1, o6'), (L + 1 + 1 + 1 + 1 + 1 + 1 + 1, o7'), (lds, W.listOf us.toArray nl), (ths, W.listOf vs.toArray nt)], rfl, F4, news_sub N4 fun p hp => ?_, fun p hp => ?_, o5', o6', o7', _, _, _, rfl, d5', d6', d7'⟩
      · simp only [List.mem_cons, List.not_mem_nil, or_false] at hp ⊢
        grind
      · simp only [List.mem_cons, List.not_mem_nil, or_false] at hp
        rcases hp with rfl | rfl | rfl | rfl | rfl | rfl | rfl | rfl
        · exact off (L + 1 + 1, o2) (by simp)
        · exact off (L + 1 + 1 + 1, o3) (by simp)
        · exact off (L + 1 + 1 + 1 + 1, o4) (by simp)
        · exact Ne.symm hI5
        · exact Ne.symm hI6
        · exact Ne.symm hI7
        · exact off (lds, W.listOf us.toArray nl) (by simp)
        · exact off (ths, W.listOf vs.toArray nt) (by simp)
  · rintro h1 tk1 m₁ led₁ - F N
    exact h h1 tk1 m₁ F
end Mine
end
section
open PySem PySem.W PyProof.Rows
namespace Mine
theorem drawn_st {w : World} {A : Around} {s : Shared} {E : Value → Shared → Prop} {Q : Flow → Shared → Prop} {L fa sc : Addr} {cd : Value} {mg mb m : Str → Option Value} {h₀ : Heap} {items : List Value} {ss : List Int}
   {led : List (Addr × Obj)} {o1 : Obj} {v1 : Option Value}
   (X : (hd.heap_39 w.params).In h₀) (T : TopRead topProg lo mg mb h₀) (hh : A.handled = none) (hdp : A.depth < 700)
   (N : News h₀ L s.heap ((L + 1, o1) :: led)) (F1 : Fr h₀ L s.heap (kstB m [(Str.ofString "script", .ref sc)])) (d1 : o1.data = .cell v1) (hl : h₀.IsList sc items.toArray) (hi : IntsAre items ss) (hlen : ss.length ≤ 63)
   (off : Off (L + 1) led)
   (h : ∀ h' tk Dr ds dd o1', Fr h₀ L h' (kstB m [(Str.ofString "script", .ref sc)]) → o1'.data = .cell (some (.ref Dr)) → IntsAre ds dd → dd.length = 11 →
      News h₀ L h' ((Dr, W.listOf ds.toArray 0) :: (L + 1, o1') :: led) → Off Dr ((L + 1, o1') :: led) → Q .next { s with heap := h', toks := tk })
   : wpAny (model prg w) A (exec (lawBody.getD 0 (.Pass ⟨0, 0, 0, 0⟩)) (lawEnv L fa cd)) Q E s := by
  have kf : Named PySem.Challenge.rw_rs0025_01 hd.heap_39 := by (k_fill; exact named)
  clear kf
  dsimp only [kstB] at F1
  unfold lawEnv
  conv in lawScope => whnf
  conv in lawBody.getD _ _ => whnf
  w_top on
  iterate 24 (first | walk1 | (dsimp only; walk1))
  iterate 2 (first | walk1 | (dsimp only; walk1))
  rename Fr _ _ _ _ => F9
  rename News _ _ _ _ => N9
  rename IntsAre _ (List.take _ _) => I9
  dsimp only
  rename_i D9 ws9 h9 hC9 hL9 l9
  obtain ⟨-, -, -, -, l1, l2⟩ := l9
  refine store_cell (c := L + 1) rfl rfl rfl F9 (news_sub N9 (led' := (D9, W.listOf ws9.toArray 0) :: (L + 1, o1) :: led) fun p hp => ?_) (by simp) d1 (fun h2 o1' d1' F2 N2 => ?_)
  · rcases List.mem_cons.mp hp with rfl | hp
    · exact .head _
    · exact .tail _ (.tail _ (.tail _ (.tail _ (.tail _ hp))))
  refine h h2 _ _ _ _ o1' F2 d1' I9 (by rw [hC9]; simp) (N2 _ fun p hp => ?_) (fun p hp => ?_)
  · simp only [List.mem_cons] at hp
    rcases hp with rfl | rfl | hp
    · exact .inr ⟨by simp, Nat.ne_of_gt l1⟩
    · exact .inl rfl
    · exact .inr ⟨by simp [hp], off p hp⟩
  · rcases List.mem_cons.mp hp with rfl | hp
    · exact Nat.ne_of_lt l1
    · exact Nat.ne_of_lt (ktn_ltOf l2 p hp)
end Mine
end
section
open PySem PySem.W PyProof.Rows
namespace Mine
theorem faces_st {w : World} {A : Around} {s : Shared} {E : Value → Shared → Prop} {Q : Flow → Shared → Prop} {L fa Dr : Addr} {cd : Value} {mg mb m : Str → Option Value} {h₀ : Heap} {ds : List Value} {dd : List Int} {nd : Nat}
   {led : List (Addr × Obj)} {o1 o2 : Obj} {v2 : Option Value}
   (X : (hd.heap_39 w.params).In h₀) (T : TopRead topProg lo mg mb h₀) (hh : A.handled = none) (hdp : A.depth < 700)
   (N : News h₀ L s.heap ((L + 1, o1) :: (L + 1 + 1, o2) :: (Dr, W.listOf ds.toArray nd) :: led)) (F1 : Fr h₀ L s.heap m) (d1 : o1.data = .cell (some (.ref Dr))) (d2 : o2.data = .cell v2) (hi : IntsAre ds dd) (hlen : dd.length = 11)
   (h : ∀ h' tk t2 o2' F, Fr h₀ L h' m → o2'.data = .cell (some (.int ((F : Nat) : Int) t2)) → 2 ≤ F → F ≤ 3 → (∀ led', (∀ p ∈ led', p = (L + 1 + 1, o2') ∨ (p ∈ ((L + 1, o1) :: (L + 1 + 1, o2) :: (Dr, W.listOf ds.toArray nd) :: led) ∧ p.1 ≠ L + 1 + 1)) → News h₀ L h' led') → Q .next { s with heap := h', toks := tk })
   : wpAny (model prg w) A (exec (lawBody.getD 1 (.Pass ⟨0, 0, 0, 0⟩)) (lawEnv L fa cd)) Q E s := by
  have kf : Named PySem.Challenge.rw_rs0025_01 hd.heap_39 := by (k_fill; exact named)
  clear kf
  unfold lawEnv
  conv in lawScope => whnf
  conv in lawBody.getD _ _ => whnf
  w_top on
  iterate 7 (first | walk1 | (dsimp only; walk1))
  refine item_ints (us := ds) (of_list (a := Dr) (ws := ds) (n := nd) N (by simp)) hi (by decide) (by omega) (by decide) (fun t => ?_)
  iterate 3 (first | walk1 | (dsimp only; walk1))
  have hmod : ∀ x : Int, x.fmod 2 = x % 2 := fun x => Int.fmod_eq_emod_of_nonneg x (by decide)
  rw [hmod]
  generalize (dd.getD (0 : Int).toNat 0) = x0
  have e : 2 + x0 % 2 = ((2 + x0 % 2).toNat : Int) := by omega
  rw [e]
  refine store_cell (c := L + 1 + 1) rfl rfl rfl F1 N (by simp) d2 (fun h2 o2' d2' F2 N2 => ?_)
  exact h h2 _ _ o2' _ F2 d2' (by omega) (by omega) N2
end Mine
end
section
open PySem PySem.W PyProof.Rows
namespace Mine
theorem loads_st {w : World} {A : Around} {s : Shared} {E : Value → Shared → Prop} {Q : Flow → Shared → Prop} {L fa Dr : Addr} {cd : Value} {mean : ExcName → Option Value} {mg mb m : Str → Option Value} {h₀ : Heap} {ds : List Value} {dd : List Int} {nd Fc : Nat}
   {led : List (Addr × Obj)} {o1 o2 o3 : Obj} {v3 : Option Value} {t2 : Tok}
   (X : (hd.heap_39 w.params).In h₀) (T : Top topProg lo mean mg mb h₀) (hh : A.handled = none) (hdp : A.depth < 700)
   (N : News h₀ L s.heap ((L + 1, o1) :: (L + 1 + 1, o2) :: (L + 1 + 1 + 1, o3) :: (Dr, W.listOf ds.toArray nd) :: led)) (F1 : Fr h₀ L s.heap m) (d1 : o1.data = .cell (some (.ref Dr))) (d2 : o2.data = .cell (some (.int (Fc : Int) t2))) (d3 : o3.data = .cell v3) (hi : IntsAre ds dd) (hlen : dd.length = 11) (hF : Fc ≤ 3)
   (h : ∀ h' tk lds o3' us ms, Fr h₀ L h' m → o3'.data = .cell (some (.ref lds)) → IntsAre us ms → ms.length = Fc → Loads ms → Off lds ((L + 1, o1) :: (L + 1 + 1, o2) :: (L + 1 + 1 + 1, o3) :: (Dr, W.listOf ds.toArray nd) :: led) →
      (∀ led', (∀ p ∈ led', p = (L + 1 + 1 + 1, o3') ∨ (p ∈ ((lds, LCg.lst us) :: (L + 1, o1) :: (L + 1 + 1, o2) :: (L + 1 + 1 + 1, o3) :: (Dr, W.listOf ds.toArray nd) :: led) ∧ p.1 ≠ L + 1 + 1 + 1)) → News h₀ L h' led') → Q .next { s with heap := h', toks := tk })
   : wpAny (model prg w) A (exec (lawBody.getD 2 (.Pass ⟨0, 0, 0, 0⟩)) (lawEnv L fa cd)) Q E s := by
  have kf : Named PySem.Challenge.rw_rs0025_01 hd.heap_39 := by (k_fill; exact named)
  clear kf
  unfold lawEnv
  conv in lawScope => whnf
  conv in lawBody.getD _ _ => whnf
  w_top on
  iterate 1 (first | walk1 | (dsimp only; walk1))
  refine LCg.ListComp_U (F₀ := F1) (by with_unfolding_all rfl) (by decide) (by rfl) (by decide) (by rfl) ?_
  iterate 7 (first | walk1 | (dsimp only; walk1))
  rename IsRange _ _ _ _ _ _ _ _ => hr9
  rename Fr _ _ _ _ => F9
  rename News _ _ _ _ => N9
  rename IntsAre ds _ => hi9
  refine LCg.CompSrc.range (n := Fc) hh F9 N9 hr9 (small_one (by decide) (by decide) (by omega) (by omega)) (by unfold Builtin.Range.rangeSize; rw [if_pos (by decide)]; split <;> omega) (by simp [sizeLine]; omega) (fun g => ?_)
  refine comp_inv (n := Fc) (fun i ys => ∃ ms, IntsAre ys ms ∧ ms.length = i ∧ ∀ m ∈ ms, m = 1 ∨ m = 2) trivial ?_ ?_ _ 0 [] (by simp) ⟨[], .nil, rfl, fun _ hm => absurd hm List.not_mem_nil⟩
  · rintro i v ys I oI C oC D m₂ h1 tk1 E' hi ⟨t9, rfl⟩ ⟨ms, hys, hml, hmm⟩ hC hx F1 N1
    rw [Int.zero_add] at hx
    iterate 10 (first | walk1 | (dsimp only; walk1))
    rename Fr _ _ _ _ => F2
    rename News _ _ _ _ => N2
    rename IntsAre ds _ => hi9
    dsimp only
    refine item_ints (us := ds) (of_list (a := Dr) (ws := ds) (n := nd) N2 (by simp)) hi9 (by omega) (by omega) (by omega) (fun t => ?_)
    iterate 5 (first | walk1 | (dsimp only; walk1))
    have hmod : ∀ x : Int, x.fmod 2 = x % 2 := fun x => Int.fmod_eq_emod_of_nonneg x (by decide)
    refine ⟨_, _, rfl, F2, N2, ms ++ [_], intsSnoc hys, by simp [hml], fun x hx => ?_⟩
    rcases List.mem_append.mp hx with hx | hx
    · exact hmm x hx
    · rw [List.mem_singleton.mp hx, hmod]; omega
  · rintro us ⟨ms, hus, hml, hmm⟩ lds h1 tk1 F1 N1 off1
    refine store_cell (c := L + 1 + 1 + 1) rfl rfl rfl F1 N1 (by simp) d3 (fun h2 o3' d3' F2 N2 => ?_)
    exact h h2 tk1 lds o3' us ms F2 d3' hus hml ⟨by omega, hmm⟩ (off_one off1) N2
end Mine
end
section
open PySem PySem.W PyProof.Rows
namespace Mine
theorem thrown_st {w : World} {A : Around} {s : Shared} {E : Value → Shared → Prop} {Q : Flow → Shared → Prop} {L fa Dr : Addr} {cd : Value} {mean : ExcName → Option Value} {mg mb m : Str → Option Value} {h₀ : Heap} {ds : List Value} {dd : List Int} {nd Fc : Nat}
   {led : List (Addr × Obj)} {o1 o2 o4 : Obj} {v4 : Option Value} {t2 : Tok}
   (X : (hd.heap_39 w.params).In h₀) (T : Top topProg lo mean mg mb h₀) (hh : A.handled = none) (hdp : A.depth < 700)
   (N : News h₀ L s.heap ((L + 1, o1) :: (L + 1 + 1, o2) :: (L + 1 + 1 + 1 + 1, o4) :: (Dr, W.listOf ds.toArray nd) :: led)) (F1 : Fr h₀ L s.heap m) (d1 : o1.data = .cell (some (.ref Dr))) (d2 : o2.data = .cell (some (.int (Fc : Int) t2))) (d4 : o4.data = .cell v4) (hi : IntsAre ds dd) (hlen : dd.length = 11) (hF : Fc ≤ 3) (hF2 : 2 ≤ Fc)
   (h : ∀ h' tk ths o4' vs ns, Fr h₀ L h' m → o4'.data = .cell (some (.ref ths)) → IntsAre vs ns → ns.length ≤ 6 → (∀ x ∈ ns, 0 ≤ x ∧ x < (Fc : Int)) → Off ths ((L + 1, o1) :: (L + 1 + 1, o2) :: (L + 1 + 1 + 1 + 1, o4) :: (Dr, W.listOf ds.toArray nd) :: led) →
      (∀ led', (∀ p ∈ led', p = (L + 1 + 1 + 1 + 1, o4') ∨ (p ∈ ((ths, LCg.lst vs) :: (L + 1, o1) :: (L + 1 + 1, o2) :: (L + 1 + 1 + 1 + 1, o4) :: (Dr, W.listOf ds.toArray nd) :: led) ∧ p.1 ≠ L + 1 + 1 + 1 + 1)) → News h₀ L h' led') → Q .next { s with heap := h', toks := tk })
   : wpAny (model prg w) A (exec (lawBody.getD 3 (.Pass ⟨0, 0, 0, 0⟩)) (lawEnv L fa cd)) Q E s := by
  have kf : Named PySem.Challenge.rw_rs0025_01 hd.heap_39 := by (k_fill; exact named)
  clear kf
  unfold lawEnv
  conv in lawScope => whnf
  conv in lawBody.getD _ _ => whnf
  w_top on
  iterate 1 (first | walk1 | (dsimp only; walk1))
  refine LCg.ListComp_U (F₀ := F1) (by with_unfolding_all rfl) (by decide) (by rfl) (by decide) (by rfl) ?_
  iterate 9 (first | walk1 | (dsimp only; walk1))
  refine item_ints (us := ds) (of_list (a := Dr) (ws := ds) (n := nd) N (by simp)) hi (by decide) (by omega) (by decide) (fun t => ?_)
  iterate 6 (first | walk1 | (dsimp only; walk1))
  rename IsRange _ _ _ _ _ _ _ _ => hr9
  rename Fr _ _ _ _ => F9
  rename News _ _ _ _ => N9
  rename IntsAre ds _ => hi9
  have hm7 : ∀ x : Int, x.fmod 7 = x % 7 := fun x => Int.fmod_eq_emod_of_nonneg x (by decide)
  rw [hm7] at hr9
  generalize (dd.getD (4 : Int).toNat 0 + 5) = x7 at hr9
  obtain ⟨n, hn⟩ : ∃ n : Nat, x7 % 7 = (n : Int) := ⟨(x7 % 7).toNat, by omega⟩
  have hn6 : n ≤ 6 := by omega
  rw [hn] at hr9
  clear hn hm7
  refine LCg.CompSrc.range (n := n) hh F9 N9 hr9 (small_one (by decide) (by decide) (by omega) (by omega)) range_size (by simp [sizeLine]; omega) (fun g => ?_)
  refine comp_inv (n := n) (fun i ys => ∃ ns, IntsAre ys ns ∧ ns.length = i ∧ ∀ x ∈ ns, 0 ≤ x ∧ x < (Fc : Int)) trivial ?_ ?_ _ 0 [] (by simp) ⟨[], .nil, rfl, fun _ hm => absurd hm List.not_mem_nil⟩
  · rintro i v ys I oI C oC D m₂ h1 tk1 E' hi ⟨t9, rfl⟩ ⟨ns, hys, hml, hmm⟩ hC hx F1 N1
    rw [Int.zero_add] at hx
    iterate 8 (first | walk1 | (dsimp only; walk1))
    rename Fr _ _ _ _ => F2
    rename News _ _ _ _ => N2
    rename IntsAre ds _ => hi9
    dsimp only
    refine item_ints (us := ds) (of_list (a := Dr) (ws := ds) (n := nd) N2 (by simp)) hi9 (by omega) (by omega) (by omega) (fun t => ?_)
    iterate 4 (first | walk1 | (dsimp only; walk1))
    refine ⟨_, _, rfl, F2, N2, ns ++ [_], intsSnoc hys, by simp [hml], fun x hx => ?_⟩
    rcases List.mem_append.mp hx with hx | hx
    · exact hmm x hx
    · rw [List.mem_singleton.mp hx]
      have h0 : (0 : Int) < (Fc : Int) := by omega
      exact ⟨Int.fmod_nonneg_of_pos _ h0, Int.fmod_lt_of_pos _ h0⟩
  · rintro vs ⟨ns, hvs, hml, hmm⟩ ths h1 tk1 F1 N1 off1
    refine store_cell (c := L + 1 + 1 + 1 + 1) rfl rfl rfl F1 N1 (by simp) d4 (fun h2 o4' d4' F2 N2 => ?_)
    exact h h2 tk1 ths o4' vs ns F2 d4' hvs (by omega) hmm (off_one off1) N2
end Mine
end
section
open PySem PySem.W PyProof.Rows PySem.Calls
namespace Mine
section
variable {prog : Program} {w : World} {A A₀ : Around} {E : Value → Shared → Prop} {s s' : Shared} {env : Env} {outer : List Env} {base g h h₀ : Heap} {L e : Addr} {m mg mb : Str → Option Value} {news : List (Addr × Obj)} {K : Frag} {p : Program} {loose : List Str} {mean : ExcName → Option Value}
theorem raise_own {x : Str} {C : Addr} {B newId initId : String} {bm : List Value} {np cpos pos : Pos} {Q : Flow → Shared → Prop} {e₀ : PySem.Expr} {rest : List PySem.Expr} (F : Fr h₀ L s.heap m) (hns : h₀.Ns mainGlobals mg) (O : OwnCls x C bm newId mg h₀) (FB : ExcBaseFacts B newId initId bm) (hh : A.handled = none)
    (h : wpAny (model prog w) A (spliced (backTo cpos (starEach (e₀ :: rest) env))) (fun vs s₂ => vs.length ≤ sizeLine ∧ (∀ b o, h₀.get? b = some o → s₂.heap.get? b = some o) ∧
      ∀ h' e, Heap.MadeExcOf s₂.heap h' e (.ref C) vs → E (.ref e) { s₂ with heap := h' }) E s)
    (hg : env.globals = mainGlobals) (hk : env.scope.kind = .function) (hx : env.kindOf x = some .globalImplicit)
    (he : starEach (e₀ :: rest) env = (false, eval e₀ env) :: starEach rest env := by rfl)
    (hplain : (backTo cpos (starEach rest env)).any (·.1) = false := by rfl) (hd : (x == ("__debug__" : Str)) = false := by decide) :
    wpAny (model prog w) A (exec (.Raise (some (.Call (.Name x np) (e₀ :: rest) [] cpos)) none pos) env) Q E s := by
  obtain ⟨tl, N, nm, q, bs, hdct, sn, sub, ab, col, dd, k0, k1, k2, k3, k5, mN, hC, hN, hni, T⟩ := O.obj
  have hst : (backTo cpos (starEach (e₀ :: rest) env)).any (·.1) = false := by
    rw [he]
    show (false || (backTo cpos (starEach rest env)).any (·.1)) = false
    rw [hplain]; rfl
  have hns' : s.heap.Ns env.globals mg := by rw [hg]; exact hns.keeps F.keep
  refine wpAny_Raise_call_subT (C := C) (nm := nm) (q := q) (N := N) (bs := bs) (bm := tl) (hdct := hdct) (sn := sn) (sub := sub) (ab := ab) (col := col) (dd := dd) (k0 := k0) (k1 := k1) (k2 := k2) (k3 := k3) (k5 := k5) FB (mN := mN) (T.hasType FB.hasBase) hh hst hni
    (Name_function_global hk hx (loadGlobal_global (env := env) hns' O.bound ⟨rfl, ?_⟩) hd)
  rw [he] at h ⊢
  refine evalArgs_plain (wpAny_mono h (fun vs s₂ h₂ => ?_) fun _ _ y => y)
  obtain ⟨h1, h2, h3⟩ := h₂
  exact ⟨rfl, h1, h2 _ _ hC, hN.keeps h2, T.keeps h2, h3⟩
theorem frames_of {env : Env} {outer : List Env} {b : Addr} (hm : b ∈ (env :: outer).filterMap (·.frame)) : env.frame = some b ∨ b ∈ outer.filterMap (·.frame) := by
  obtain ⟨e', he, hf⟩ := List.mem_filterMap.mp hm
  cases he with
  | head => exact .inl hf
  | tail _ he => exact .inr (List.mem_filterMap.mpr ⟨e', he, hf⟩)
theorem leave_own_any {M : Model} {cls : Value} {vs : List Value} {Q : Unit → Shared → Prop} (B : Below A base outer g) (hx : Heap.MadeExcOf h s'.heap e cls vs) (F : Fr g L h m) (N : News g L h news) (hf : env.frame = some L) (hk : env.scope.kind = .function)
    (hQ : ∀ h' t, RaisedS base g outer e cls t vs news h' → g.UpToSlots h' → Q () { s' with heap := h' }) :
    wpAny M (A.deeper env) (leaving env (.ref e)) Q E s' := by
  have B' := pushX B F hf hk
  have gL : g.get? L = none := kts_self F
  have keepB : base.StaysIn (hideAll h ((env :: outer).filterMap (·.frame))) := fun b o q => by
    refine hideAll_get _ (B'.stays b o q) fun hm => ?_
    have := (B'.frames.mem hm).1
    rw [q] at this; cases this
  have keepG : ∀ b o, g.get? b = some o → b ∉ outer.filterMap (·.frame) → (hideAll h ((env :: outer).filterMap (·.frame))).get? b = some o := fun b o q nm => by
    refine hideAll_get _ (F.keep b o q) fun hm => ?_
    rcases frames_of hm with z | z
    · have : b = L := Option.some.inj (z.symm.trans hf)
      rw [this, gL] at q; cases q
    · exact nm z
  have keepN : ∀ q ∈ news, (hideAll h ((env :: outer).filterMap (·.frame))).get? q.1 = some q.2 ∧ g.get? q.1 = none ∧ base.get? q.1 = none := fun q hq => by
    refine ⟨hideAll_get _ (N q hq).1 fun hm => ?_, (N q hq).2.2, fresh_of_stays B.stays (N q hq).2.2⟩
    rcases frames_of hm with z | z
    · exact (N q hq).2.1 (Option.some.inj (z.symm.trans hf))
    · obtain ⟨_, o, ho, _⟩ := B.frames.mem z
      rw [(N q hq).2.2] at ho; cases ho
  have hin : ∀ env' ∈ (env :: outer), ∀ b, env'.frame = some b → b ∈ (env :: outer).filterMap (·.frame) := fun env' he b hb => List.mem_filterMap.mpr ⟨env', he, hb⟩
  refine wpAny_leaves_madeW B'.stack hf (fun b o q => of_hideAll _ q) (funFrames_hide B'.frames hin) hx fun h' t x1 x2 x3 x4 => ?_
  exact hQ h' t ⟨⟨_, keepB, keepG, keepN, x1, x3⟩, x2⟩ (((Heap.UpToSlots.of_keeps F.keep).trans (Heap.UpToSlots.of_keeps hx.keeps)).trans x4)
theorem enterS {R : Result → Shared → Prop} {name qual : Str} {params : Arguments} {body : List Stmt} {scope : Scope} {dV kV doc pm cdv ct oc : Value} {an od : Option Addr} {osl : Array (Option Value)} {f : Addr} {args : Args} {binds : List (Str × Value)}
    (B : Below A₀ base [] h₀) (F : Fr h₀ L s.heap m) (X₀ : K.In h₀) (N : News h₀ L s.heap news) (T : Top p loose mean mg mb h₀) (hA : A.frames = some [env]) (hf : env.frame = some L) (hke : env.scope.kind = .function)
    (ho : K.lookup f = some ⟨oc, od, .func (fnOf name qual params body scope dV kV doc pm an cdv ct), osl⟩) (hcd : codeIn K cdv qual = true) (hroom : A.depth < recursionLimit)
    (hbind : BindsTo s (fnOf name qual params body scope dV kV doc pm an cdv ct) args binds) (hloc : ∀ y ∈ binds, scope.names.lookup y.1 = some .local)
    (hco : scope.isCoroutine = false) (hgen : scope.isGenerator = false) (hk : scope.kind = .function) (hcell : ∀ x ∈ scope.names, x.2 ≠ .cell)
    (h : ∀ g L' h₁, Fr h₀ L g m → Fr g L' h₁ (fun y => binds.reverse.lookup y) → News g L' h₁ news → Below A base [env] g → K.In g → Top p loose mean mg mb g → KtsDicts ([env].filterMap (·.frame)) g →
      wpAny (model prog w) (A.deeper (envOf qual scope L' f cdv)) (execs body (envOf qual scope L' f cdv))
        (fun fl s' => LeaveS0 ([env].filterMap (·.frame)) h₀ L m g R (match fl with | .ret v => v | _ => .none) s')
        (fun e s' => wpAny (model prog w) (A.deeper (envOf qual scope L' f cdv)) (leaving (envOf qual scope L' f cdv) e) (fun _ s'' => R (.error e) s'') (fun e' s'' => R (.error e') s'') s')
        { s with heap := h₁, toks := s.toks + binds.length }) : codeAny (model prog w) A (.call (.ref f) args) R s := by
  obtain ⟨FG, BG, st, -⟩ := groundX (R := R) B F N hA hf hke
  have hfs : ∀ b, b ∈ ([env].filterMap (·.frame)) → b = L := fun b hb => by
    rcases frames_of hb with z | z
    · exact Option.some.inj (z.symm.trans hf)
    · simp at z
  refine codeAny_call_def (fd := fnOf name qual params body scope dV kV doc pm an cdv ct) (body := body) (binds := binds) hroom ((X₀.keeps F.keep) _ _ ho) rfl (T.nolimit.keeps F.keep) (codeRec_of (X₀.keeps F.keep) hcd) rfl hbind hcell hloc (fun h₁ hns hk₁ => ?_) hco hgen hk
  obtain ⟨oL, es, ep, hL, hLd, hLk, hLf⟩ := FG.ns
  have D : KtsDicts ([env].filterMap (·.frame)) (hideAll s.heap (news.map (·.1))) := fun b hb => by
    rw [hfs b hb]; exact ⟨oL, es, ep, hL, hLd⟩
  have F1 : Fr (hideAll s.heap (news.map (·.1))) s.heap.objs.size h₁ (fun y => binds.reverse.lookup y) := ⟨hns, fun b o e => hk₁ b o (of_hideAll _ e), Nat.le_of_eq (hideAll_size _ _)⟩
  have N1 : News (hideAll s.heap (news.map (·.1))) s.heap.objs.size h₁ news := fun p hp => ⟨hk₁ _ _ (N p hp).1, Nat.ne_of_lt (Heap.lt_size (N p hp).1), hideAll_none _ (List.mem_map_of_mem hp)⟩
  refine wpAny_mono (h _ _ h₁ FG F1 N1 BG (X₀.keeps st) (T.keeps st) D) (fun fl s' hl => ?_) fun _ _ y => y
  obtain ⟨g', L', m', news', T', F', N', k⟩ := hl
  obtain ⟨sl, hs⟩ := T'.up hL
  refine k ⟨⟨_, es, ep, F'.keep _ _ hs, hLd, hLk, hLf⟩, fun b o e => F'.keep b o (T'.other b o (st b o e) fun q => ?_), F.above⟩ fun p hp => ⟨(N' p hp).1, fun q => ?_, ?_⟩
  · rw [hfs b q, kts_self F] at e; cases e
  · have := (N' p hp).2.2
    rw [q, hs] at this; cases this
  · cases q : h₀.get? p.1 with
    | none => rfl
    | some o =>
      have q1 := T'.up (st _ _ q)
      obtain ⟨sl', q2⟩ := q1
      have := (N' p hp).2.2
      rw [q2] at this; cases this
end
end Mine
end
section
open PySem PySem.W PyProof.Rows
namespace Mine
theorem fmean_none_refuses {w : World} {A₀ : Around} {s : Shared} {R : Result → Shared → Prop} {mean : ExcName → Option Value} {mg mb m : Str → Option Value} {base g : Heap} {L d : Addr} {env : Env} {outer : List Env} {news : List (Addr × Obj)}
   (B : Below A₀ base outer g) (F : Fr g L s.heap m) (X : (hd.heap_39 w.params).In g) (N : News g L s.heap news) (T : Top topProg lo mean mg mb g) (hf : env.frame = some L) (hke : env.scope.kind = .function) (hh : (A₀.deeper env).handled = none) (hdp : A₀.depth < 800)
   (hmd : (d, W.listOf ([] : List Value).toArray 0) ∈ news)
   (h : ∀ h' e t vs tk G news', Fr g L G m → RaisedS base G (env :: outer) e (.ref 52) t vs news' h' → G.UpToSlots h' → (∀ p ∈ news, p ∈ news') → R (.error (.ref e)) { s with heap := h', toks := tk })
   : codeAny (model prg w) (A₀.deeper env) (.call (.ref 63) ⟨[.ref d, .none], []⟩) R s := by
  have kf : Named PySem.Challenge.rw_rs0025_01 hd.heap_39 := by (k_fill; exact named)
  clear kf
  refine code_defC (binds := [("data", .ref d), ("weights", .none)]) B F X N T (Around.frames_deeper B.stack) hf hke rfl rfl (by show A₀.depth + 1 < _; simp [recursionLimit]; omega) ?_ rfl (by decide +kernel) ?_ rfl rfl rfl
  · first | exact BindsTo.of_eq rfl | exact binds_K (X.keeps F.keep) rfl (by k_is) rfl rfl rfl
  intro g' L' h₁ tk cells FG F' N' Y B' X' T' l1
  k_cells Y
  rename_i o' d9
  have N9 : News g' L' h₁ ((d, W.listOf ([] : List Value).toArray 0) :: (L' + 1, o') :: news) := by
    intro p hp
    simp only [List.mem_cons] at hp
    rcases hp with rfl | rfl | hp
    · exact N' _ (by simp [hmd])
    · exact N' _ (by simp)
    · exact N' _ (by simp [hp])
  clear N' N F
  show wpAny _ _ _ _ _ _
  k_fold
  w_top on
  iterate 9 (first | walk1 | (dsimp only; walk1))
  refine wpAny_Try_except ?_
  iterate 8 (first | walk1 | (dsimp only; walk1))
  refine len_list (of_list (ws := ([] : List Value)) N9 (.head _)) (by simp) ?_
  dsimp only
  refine store_cell (c := L' + 1) rfl rfl rfl F' N9 (by simp) d9 (fun h2 o2 d2 F2 N2 => ?_)
  replace N2 : News g' L' h2 ((d, W.listOf ([] : List Value).toArray 0) :: (L' + 1, o2) :: news) := by
    refine N2 _ fun p hp => ?_
    simp only [List.mem_cons] at hp
    rcases hp with rfl | rfl | hp
    · exact .inr ⟨by simp, Nat.ne_of_lt (Nat.lt_succ_of_lt (l1 _ hmd))⟩
    · exact .inl rfl
    · exact .inr ⟨by simp [hp], Nat.ne_of_lt (Nat.lt_succ_of_lt (l1 _ hp))⟩
  clear F' N9 d9 l1
  iterate 10 (first | walk1 | (dsimp only; walk1))
  refine call_fsum (xs := []) hh (of_list (ws := ([] : List Value)) N2 (.head _)) .nil (by decide) (fun h3 tk3 t3 k3 => ?_)
  replace F2 := frStays F2 k3
  replace N2 := newsStays N2 k3
  clear k3
  iterate 10 (first | walk1 | (dsimp only; walk1))
  rename Fr g' _ _ _ => F9
  rename News g' _ _ _ => N9
  refine Mine.raise_own F9 T'.g (own_of_in X' (topRead_of T') (by k_is) (by k_exc) : OwnCls _ 52 _ _ _ _) PySem.F.excBase_ValueError hh ?_ rfl rfl rfl
  refine spliced_more ?_
  iterate 2 (first | walk1 | (dsimp only; walk1))
  refine ⟨by simp [sizeLine], F9.keep, fun h4 e hx => ?_⟩
  show wpAny _ _ (leaving _ _) _ _ _
  refine leave_own_any B' hx F9 N9 rfl rfl (fun h5 t hS hU => ?_)
  exact h h5 e t _ _ g' _ FG hS hU fun p hp => .tail _ (.tail _ hp)
end Mine
end
section
open PySem PySem.W PyProof.Rows
namespace Mine
def Refuses (w : World) (mean : ExcName → Option Value) (mg mb : Str → Option Value) (v1 v2 : Value) (P : List (Addr × Obj) → Prop) : Prop :=
  ∀ (A₀ : Around) (s : Shared) (R : Result → Shared → Prop) (m : Str → Option Value) (base g : Heap) (L : Addr) (env : Env) (outer : List Env) (news : List (Addr × Obj)),
    Below A₀ base outer g → Fr g L s.heap m → (hd.heap_39 w.params).In g → News g L s.heap news → Top topProg lo mean mg mb g → env.frame = some L → env.scope.kind = .function → (A₀.deeper env).handled = none → A₀.depth < 800 → P news →
    (∀ h' e t vs tk G news', Fr g L G m → RaisedS base G (env :: outer) e (.ref 52) t vs news' h' → G.UpToSlots h' → (∀ p ∈ news, p ∈ news') → R (.error (.ref e)) { s with heap := h', toks := tk }) →
    codeAny (model prg w) (A₀.deeper env) (.call (.ref 63) ⟨[v1, v2], []⟩) R s
theorem mean_refuses {w : World} {s : Shared} {R : Result → Shared → Prop} {mean : ExcName → Option Value} {mg mb m : Str → Option Value} {h₀ : Heap} {L : Addr} {env : Env} {news : List (Addr × Obj)} {v1 v2 : Value} {P : List (Addr × Obj) → Prop}
   (H : Refuses w mean mg mb v1 v2 P) (B : Below callerA h₀ [] h₀) (X : (hd.heap_39 w.params).In h₀) (T : Top topProg lo mean mg mb h₀) (F : Fr h₀ L s.heap m) (N : News h₀ L s.heap news) (hf : env.frame = some L) (hke : env.scope.kind = .function) (hP : P news)
   (h : ∀ h' tk t, Fr h₀ L h' m → News h₀ L h' news → R (.ok (.ret (.str (Str.ofString "refused") t))) { s with heap := h', toks := tk })
   : codeAny (model prg w) (callerA.deeper env) (.call (.ref 91) ⟨[v1, v2], []⟩) R s := by
  have kf : Named PySem.Challenge.rw_rs0025_01 hd.heap_39 := by (k_fill; exact named)
  clear kf
  refine enterS (binds := [("waits", v1), ("weights", v2)]) B F X N T rfl hf hke rfl rfl (by show callerA.depth + 1 < _; decide) (BindsTo.of_eq rfl) (locs rfl) rfl rfl rfl (by decide) ?_
  intro g L' h₁ FG F1 N1 B1 X1 T1 D1
  show wpAny _ _ _ _ _ _
  k_fold
  w_top on
  iterate 2 (first | walk1 | (dsimp only; walk1))
  refine wpAny_Try_except ?_
  iterate 10 (first | walk1 | (dsimp only; walk1))
  refine ⟨X1.keeps F1.keep, ?_⟩
  refine wpAny_call (H (callerA.deeper env) _ _ _ h₀ g L' _ [env] news B1 F1 X1 N1 T1 rfl rfl rfl (by show callerA.depth + 1 < 800; decide) hP (fun h2 e t vs tk2 G news2 FG2 hS hU hsub => ?_))
  iterate 5 (first | walk1 | (dsimp only; walk1))
  rename KtsTurn _ _ _ => T9
  rename Fr _ _ _ _ => F9
  rename News _ _ _ news2 => N9
  show LeaveS0 _ _ _ _ _ _ _ _
  exact leaveS0_ F9 N9 T9 (fun Fa Na => h _ _ _ Fa (news_sub Na hsub))
end Mine
end
section
open PySem PySem.W PyProof.Rows
namespace Mine
theorem none_refuses {w : World} {mean : ExcName → Option Value} {mg mb : Str → Option Value} {d : Addr} : Refuses w mean mg mb (.ref d) .none (fun news => (d, W.listOf ([] : List Value).toArray 0) ∈ news) :=
  fun _ _ _ _ _ _ _ _ _ _ B F X N T hf hke hh hdp hP h => fmean_none_refuses B F X N T hf hke hh hdp hP h
theorem zeros_nums : ∀ {us : List Value} {as : List Int}, IntsAre us (as.map fun _ => (0 : Int)) → NumsAre us (as.map fun _ => (0 : Nat))
  | [], [], _ => .nil
  | _ :: _, _ :: _, .cons _ _ h => .cons (.inr ⟨0, _, rfl, rfl⟩) (zeros_nums h)
theorem zeros_sum : ∀ as : List Int, (as.map fun _ => (0 : Nat)).sum = 0
  | [] => rfl
  | _ :: r => by rw [List.map_cons, List.sum_cons, zeros_sum r]
theorem fmean_w_refuses {w : World} {A₀ : Around} {s : Shared} {R : Result → Shared → Prop} {mean : ExcName → Option Value} {mg mb m : Str → Option Value} {base g : Heap} {L d wl : Addr} {env : Env} {outer : List Env} {news : List (Addr × Obj)} {vs us : List Value} {as : List Int} {nd nw : Nat}
   (B : Below A₀ base outer g) (F : Fr g L s.heap m) (X : (hd.heap_39 w.params).In g) (N : News g L s.heap news) (T : Top topProg lo mean mg mb g) (hf : env.frame = some L) (hke : env.scope.kind = .function) (hh : (A₀.deeper env).handled = none) (hdp : A₀.depth < 800)
   (hmd : (d, W.listOf vs.toArray nd) ∈ news ∧ (wl, W.listOf us.toArray nw) ∈ news) (hvs : IntsAre vs as) (hus : IntsAre us (as.map fun _ => (0 : Int))) (hsm : ∀ x ∈ as, 0 ≤ x ∧ x ≤ 2)
   (h : ∀ h' e t vs tk G news', Fr g L G m → RaisedS base G (env :: outer) e (.ref 52) t vs news' h' → G.UpToSlots h' → (∀ p ∈ news, p ∈ news') → R (.error (.ref e)) { s with heap := h', toks := tk })
   : codeAny (model prg w) (A₀.deeper env) (.call (.ref 63) ⟨[.ref d, .ref wl], []⟩) R s := by
  have kf : Named PySem.Challenge.rw_rs0025_01 hd.heap_39 := by (k_fill; exact named)
  clear kf
  refine code_defC (binds := [("data", .ref d), ("weights", .ref wl)]) B F X N T (Around.frames_deeper B.stack) hf hke rfl rfl (by show A₀.depth + 1 < _; simp [recursionLimit]; omega) ?_ rfl (by decide +kernel) ?_ rfl rfl rfl
  · first | exact BindsTo.of_eq rfl | exact binds_K (X.keeps F.keep) rfl (by k_is) rfl rfl rfl
  intro g' L' h₁ tk cells FG F' N' Y B' X' T' l1
  k_cells Y
  rename_i o' d9
  have N9 : News g' L' h₁ ((d, W.listOf vs.toArray nd) :: (wl, W.listOf us.toArray nw) :: (L' + 1, o') :: news) := by
    intro p hp
    simp only [List.mem_cons] at hp
    rcases hp with rfl | rfl | rfl | hp
    · exact N' _ (by simp [hmd.1])
    · exact N' _ (by simp [hmd.2])
    · exact N' _ (by simp)
    · exact N' _ (by simp [hp])
  clear N' N F l1
  show wpAny _ _ _ _ _ _
  k_fold
  w_top on
  iterate 27 (first | walk1 | (dsimp only; walk1))
  rename Fr g' _ _ _ => F1
  rename News g' _ _ _ => N1
  refine IsiPair.tupleOf isi_list_tuple (of_list (a := wl) (ws := us) (n := nw) N1 (by simp)).typeIs (N1 _ (List.Mem.head _)).1 (fun tk2 => ?_)
  replace N1 := news_sub N1 (fun p hp => .tail _ hp)
  iterate 4 (first | walk1 | (dsimp only; walk1))
  refine wpAny_Try_except ?_
  iterate 10 (first | walk1 | (dsimp only; walk1))
  refine call_sumprodI hh (of_list (a := d) (ws := vs) (n := nd) N1 (by simp)) (of_list (a := wl) (ws := us) (n := nw) N1 (by simp)) hvs hus hsm (fun h3 tk3 t3 k3 => ?_)
  replace F1 := frStays F1 k3
  replace N1 := newsStays N1 k3
  clear k3
  iterate 11 (first | walk1 | (dsimp only; walk1))
  rename Fr g' _ _ _ => F2
  rename News g' _ _ _ => N2
  have hz := zeros_sum as
  refine call_fsum (xs := as.map fun _ => (0 : Nat)) hh (of_list (a := wl) (ws := us) (n := nw) N2 (by simp)) (zeros_nums hus) (by rw [hz]; decide) (fun h5 tk5 t5 k5 => ?_)
  rw [hz]
  replace F2 := frStays F2 k5
  replace N2 := newsStays N2 k5
  clear k5
  iterate 7 (first | walk1 | (dsimp only; walk1))
  have hz0 : Float64.isZero (fl 0) = true := by rw [fl_isZero (by decide)]; decide
  rw [hz0]
  iterate 3 (first | walk1 | (dsimp only; walk1))
  rename Fr g' _ _ _ => F9
  rename News g' _ _ _ => N9
  refine Mine.raise_own F9 T'.g (own_of_in X' (topRead_of T') (by k_is) (by k_exc) : OwnCls _ 52 _ _ _ _) PySem.F.excBase_ValueError hh ?_ rfl rfl rfl
  refine spliced_more ?_
  iterate 2 (first | walk1 | (dsimp only; walk1))
  refine ⟨by simp [sizeLine], F9.keep, fun h4 e hx => ?_⟩
  show wpAny _ _ (leaving _ _) _ _ _
  refine leave_own_any B' hx F9 N9 rfl rfl (fun h5 t hS hU => ?_)
  exact h h5 e t _ _ g' _ FG hS hU fun p hp => .tail _ (.tail _ (.tail _ hp))
theorem w_refuses {w : World} {mean : ExcName → Option Value} {mg mb : Str → Option Value} {d wl : Addr} {vs us : List Value} {as : List Int} {nd nw : Nat} (hvs : IntsAre vs as) (hus : IntsAre us (as.map fun _ => (0 : Int))) (hsm : ∀ x ∈ as, 0 ≤ x ∧ x ≤ 2) :
    Refuses w mean mg mb (.ref d) (.ref wl) (fun news => (d, W.listOf vs.toArray nd) ∈ news ∧ (wl, W.listOf us.toArray nw) ∈ news) :=
  fun _ _ _ _ _ _ _ _ _ _ B F X N T hf hke hh hdp hP h => fmean_w_refuses B F X N T hf hke hh hdp hP hvs hus hsm h
end Mine
end
section
open PySem PySem.W PyProof.Rows
namespace Mine
theorem refused_st {w : World} {s : Shared} {E : Value → Shared → Prop} {Q : Flow → Shared → Prop} {L fa lds : Addr} {cd : Value} {mean : ExcName → Option Value} {mg mb m : Str → Option Value} {h₀ : Heap} {us : List Value} {nl Fc : Nat}
   {led : List (Addr × Obj)} {o2 o3 : Obj} {t2 : Tok} {ms : List Int}
   (X : (hd.heap_39 w.params).In h₀) (T : Top topProg lo mean mg mb h₀) (B : Below callerA h₀ [] h₀)
   (N : News h₀ L s.heap ((L + 1 + 1, o2) :: (L + 1 + 1 + 1, o3) :: (lds, W.listOf us.toArray nl) :: led)) (F1 : Fr h₀ L s.heap m) (d2 : o2.data = .cell (some (.int (Fc : Int) t2))) (d3 : o3.data = .cell (some (.ref lds))) (hus : IntsAre us ms) (hm : Loads ms) (hF : ms.length = Fc)
   (h : ∀ h' tk, Fr h₀ L h' m → News h₀ L h' ((L + 1 + 1, o2) :: (L + 1 + 1 + 1, o3) :: (lds, W.listOf us.toArray nl) :: led) → Q .next { s with heap := h', toks := tk })
   : wpAny (model prg w) (callerA.deeper (lawEnv L fa cd)) (exec (lawBody.getD 4 (.Pass ⟨0, 0, 0, 0⟩)) (lawEnv L fa cd)) Q E s := by
  have kf : Named PySem.Challenge.rw_rs0025_01 hd.heap_39 := by (k_fill; exact named)
  clear kf
  unfold lawEnv
  conv in lawScope => whnf
  conv in lawBody.getD _ _ => whnf
  w_top on
  iterate 14 (first | walk1 | (dsimp only; walk1))
  rename Fr h₀ _ _ _ => F2
  rename News h₀ _ _ _ => N2
  refine ⟨X.keeps F2.keep, ?_⟩
  refine wpAny_call (mean_refuses none_refuses B X T F2 N2 rfl rfl (.head _) (fun h3 tk3 t3 F3 N3 => ?_))
  replace N3 := news_sub N3 (fun p hp => .tail _ hp)
  clear F2 N2
  dsimp only
  iterate 13 (first | walk1 | (dsimp only; walk1))
  rename Fr h₀ _ _ _ => F2
  rename News h₀ _ _ _ => N2
  refine ⟨X.keeps F2.keep, ?_⟩
  refine wpAny_call (mean_refuses (w_refuses (vs := []) (us := []) (as := []) (nd := 0) (nw := 0) .nil .nil (fun _ hx => absurd hx List.not_mem_nil)) B X T F2 N2 rfl rfl ⟨.tail _ (.head _), .head _⟩ (fun h4 tk4 t4 F4 N4 => ?_))
  replace N4 := news_sub N4 (fun p hp => .tail _ (.tail _ hp))
  clear F2 N2
  dsimp only
  iterate 14 (first | walk1 | (dsimp only; walk1))
  have hFc : Fc ≤ 3 := by have := hm.1; omega
  iterate 2 (first | walk1 | (dsimp only; walk1))
  rename Fr h₀ _ _ _ => F2
  rename News h₀ _ _ _ => N2
  rename IntsAre (List.replicate _ _).flatten _ => hz
  rename_i D n1 h5 s1 e1 e2 e3 l5
  have hzz : (List.replicate ((Fc : Int)).toNat [(0:Int)]).flatten = ms.map fun _ => (0 : Int) := by
    rw [← hF, List.flatten_replicate_singleton]; simp [List.map_const']
  rw [hzz] at hz
  clear hzz s1 e1 e2 e3 l5
  generalize (List.replicate ((Fc : Int)).toNat [Value.int 0 _]).flatten = zs at hz N2
  refine ⟨X.keeps F2.keep, ?_⟩
  refine wpAny_call (mean_refuses (w_refuses (vs := us) (us := zs) (as := ms) (nd := nl) (nw := 0) hus hz (fun x hx => by have := hm.2 x hx; omega)) B X T F2 N2 rfl rfl ⟨by simp, .head _⟩ (fun h6 tk6 t6 F6 N6 => ?_))
  replace N6 := news_sub N6 (fun p hp => .tail _ (.tail _ hp))
  clear F2 N2
  dsimp only
  iterate 9 (first | walk1 | (dsimp only; walk1))
  rename Fr h₀ _ _ _ => F2
  rename News h₀ _ _ _ => N2
  refine KMa.mul (x := 3) F2 N2 (of_list N2 (.head _)) (by decide) (by decide) ?z (rfl : (List.replicate (Int.toNat 3) [Value.str _ _]).flatten = [Value.str _ _, Value.str _ _, Value.str _ _]) ?h
  case z => show 1 * 3 ≤ 256; decide
  intro D6 h7 F7 N7 l7
  clear F2 N2 l7
  dsimp only
  iterate 5 (first | walk1 | (dsimp only; walk1))
  exact h h7 _ F7 (news_sub N7 (fun p hp => .tail _ (.tail _ (.tail _ hp))))
end Mine
end
section
open PySem PySem.W PyProof.Rows
namespace Mine
theorem ad12 (L : Nat) : L + 1 + 1 ≠ L + 1 := by omega
theorem ad13 (L : Nat) : L + 1 + 1 + 1 ≠ L + 1 := by omega
theorem ad14 (L : Nat) : L + 1 + 1 + 1 + 1 ≠ L + 1 := by omega
theorem ad15 (L : Nat) : L + 1 + 1 + 1 + 1 + 1 ≠ L + 1 := by omega
theorem ad16 (L : Nat) : L + 1 + 1 + 1 + 1 + 1 + 1 ≠ L + 1 := by omega
theorem ad17 (L : Nat) : L + 1 + 1 + 1 + 1 + 1 + 1 + 1 ≠ L + 1 := by omega
theorem ad23 (L : Nat) : L + 1 + 1 + 1 ≠ L + 1 + 1 := by omega
theorem ad24 (L : Nat) : L + 1 + 1 + 1 + 1 ≠ L + 1 + 1 := by omega
theorem ad34 (L : Nat) : L + 1 + 1 + 1 + 1 ≠ L + 1 + 1 + 1 := by omega
theorem off_cons {D a : Addr} {o : Obj} {l : List (Addr × Obj)} (h : a ≠ D) (hl : Off D l) : Off D ((a, o) :: l) := by
  intro p hp
  rcases List.mem_cons.1 hp with rfl | hp
  · exact h
  · exact hl p hp
theorem off_mem {D a : Addr} {o : Obj} {l : List (Addr × Obj)} (h : Off D l) (hm : (a, o) ∈ l) : a ≠ D := h (a, o) hm
theorem law_body {w : World} {s : Shared} {E : Value → Shared → Prop} {Q : Flow → Shared → Prop} {L fa sc : Addr} {cd : Value} {mean : ExcName → Option Value} {mg mb m : Str → Option Value} {h₀ : Heap} {items : List Value} {ss : List Int}
   {o1 o2 o3 o4 o5 o6 o7 : Obj} {v1 v2 v3 v4 v5 v6 v7 : Option Value}
   (X : (hd.heap_39 w.params).In h₀) (T : Top topProg lo mean mg mb h₀) (B : Below callerA h₀ [] h₀)
   (N : News h₀ L s.heap [(L + 1, o1), (L + 1 + 1, o2), (L + 1 + 1 + 1, o3), (L + 1 + 1 + 1 + 1, o4), (L + 1 + 1 + 1 + 1 + 1, o5), (L + 1 + 1 + 1 + 1 + 1 + 1, o6), (L + 1 + 1 + 1 + 1 + 1 + 1 + 1, o7)])
   (F1 : Fr h₀ L s.heap (kstB m [(Str.ofString "script", .ref sc)]))
   (d1 : o1.data = .cell v1) (d2 : o2.data = .cell v2) (d3 : o3.data = .cell v3) (d4 : o4.data = .cell v4) (d5 : o5.data = .cell v5) (d6 : o6.data = .cell v6) (d7 : o7.data = .cell v7)
   (hl : h₀.IsList sc items.toArray) (hi : IntsAre items ss) (hlen : ss.length ≤ 63)
   (h : ∀ h' tk m', Fr h₀ L h' m' → wpAny (model prg w) (callerA.deeper (lawEnv L fa cd)) (execs (lawBody.drop 6) (lawEnv L fa cd)) Q E { s with heap := h', toks := tk })
   : wpAny (model prg w) (callerA.deeper (lawEnv L fa cd)) (execs lawBody (lawEnv L fa cd)) Q E s := by
  have hb : lawBody = lawBody.getD 0 (.Pass ⟨0, 0, 0, 0⟩) :: lawBody.getD 1 (.Pass ⟨0, 0, 0, 0⟩) :: lawBody.getD 2 (.Pass ⟨0, 0, 0, 0⟩) :: lawBody.getD 3 (.Pass ⟨0, 0, 0, 0⟩) :: lawBody.getD 4 (.Pass ⟨0, 0, 0, 0⟩) :: lawBody.getD 5 (.Pass ⟨0, 0, 0, 0⟩) :: lawBody.drop 6 := rfl
  rw [hb]
  have o' : Off (L + 1) [(L + 1 + 1, o2), (L + 1 + 1 + 1, o3), (L + 1 + 1 + 1 + 1, o4), (L + 1 + 1 + 1 + 1 + 1, o5), (L + 1 + 1 + 1 + 1 + 1 + 1, o6), (L + 1 + 1 + 1 + 1 + 1 + 1 + 1, o7)] :=
    off_cons (ad12 L) (off_cons (ad13 L) (off_cons (ad14 L) (off_cons (ad15 L) (off_cons (ad16 L) (off_cons (ad17 L) off_nil)))))
  have hdp : (callerA.deeper (lawEnv L fa cd)).depth < 700 := by show callerA.depth + 1 < 700; decide
  have hun : (callerA.deeper (lawEnv L fa cd)).units < 7000 := by simp [Around.deeper, callerA]
  refine wpAny_execs_cons (drawn_st X (topRead_of T) rfl hdp N F1 d1 hl hi hlen o' (fun ha tka Dr ds dd o1' Fa da hds hdd Na offD => ?_))
  refine wpAny_execs_cons (faces_st (nd := 0) (led := [(L + 1 + 1 + 1, o3), (L + 1 + 1 + 1 + 1, o4), (L + 1 + 1 + 1 + 1 + 1, o5), (L + 1 + 1 + 1 + 1 + 1 + 1, o6), (L + 1 + 1 + 1 + 1 + 1 + 1 + 1, o7)]) X (topRead_of T) rfl hdp (news_sub Na (fun p hp => by simp only [List.mem_cons] at hp ⊢; grind)) Fa da d2 hds hdd (fun hb tkb t2 o2' Fc Fb db hF2 hF3 Nb => ?_))
  have n2 : Dr ≠ L + 1 + 1 := fun e => off_mem offD (.tail _ (.head _)) e.symm
  have n3 : Dr ≠ L + 1 + 1 + 1 := fun e => off_mem offD (.tail _ (.tail _ (.head _))) e.symm
  have n4 : Dr ≠ L + 1 + 1 + 1 + 1 := fun e => off_mem offD (.tail _ (.tail _ (.tail _ (.head _)))) e.symm
  replace Nb := Nb [(L + 1, o1'), (L + 1 + 1, o2'), (L + 1 + 1 + 1, o3), (Dr, W.listOf ds.toArray 0), (L + 1 + 1 + 1 + 1, o4), (L + 1 + 1 + 1 + 1 + 1, o5), (L + 1 + 1 + 1 + 1 + 1 + 1, o6), (L + 1 + 1 + 1 + 1 + 1 + 1 + 1, o7)]
    (List.forall_mem_cons.2 ⟨.inr ⟨by simp, (ad12 L).symm⟩, List.forall_mem_cons.2 ⟨.inl rfl, List.forall_mem_cons.2 ⟨.inr ⟨by simp, ad23 L⟩, List.forall_mem_cons.2 ⟨.inr ⟨by simp, n2⟩, List.forall_mem_cons.2 ⟨.inr ⟨by simp, ad24 L⟩,
      List.forall_mem_cons.2 ⟨.inr ⟨by simp, (ne25 L).symm⟩, List.forall_mem_cons.2 ⟨.inr ⟨by simp, (ne26 L).symm⟩, List.forall_mem_cons.2 ⟨.inr ⟨by simp, (ne27 L).symm⟩, fun _ hp => nomatch hp⟩⟩⟩⟩⟩⟩⟩⟩)
  refine wpAny_execs_cons (loads_st X T rfl hdp Nb Fb da db d3 hds hdd hF3 (fun hc tkc lds o3' us ms Fc' dc hus hlm hms offl Nc => ?_))
  have m2 : lds ≠ L + 1 + 1 := fun e => off_mem offl (.tail _ (.head _)) e.symm
  have m3 : lds ≠ L + 1 + 1 + 1 := fun e => off_mem offl (.tail _ (.tail _ (.head _))) e.symm
  have m4 : lds ≠ L + 1 + 1 + 1 + 1 := fun e => off_mem offl (.tail _ (.tail _ (.tail _ (.tail _ (.head _))))) e.symm
  have m5 : lds ≠ L + 1 + 1 + 1 + 1 + 1 := fun e => off_mem offl (.tail _ (.tail _ (.tail _ (.tail _ (.tail _ (.head _)))))) e.symm
  have m6 : lds ≠ L + 1 + 1 + 1 + 1 + 1 + 1 := fun e => off_mem offl (.tail _ (.tail _ (.tail _ (.tail _ (.tail _ (.tail _ (.head _))))))) e.symm
  have m7 : lds ≠ L + 1 + 1 + 1 + 1 + 1 + 1 + 1 := fun e => off_mem offl (.tail _ (.tail _ (.tail _ (.tail _ (.tail _ (.tail _ (.tail _ (.head _)))))))) e.symm
  replace Nc := Nc [(L + 1, o1'), (L + 1 + 1, o2'), (L + 1 + 1 + 1 + 1, o4), (Dr, W.listOf ds.toArray 0), (L + 1 + 1 + 1, o3'), (L + 1 + 1 + 1 + 1 + 1, o5), (L + 1 + 1 + 1 + 1 + 1 + 1, o6), (L + 1 + 1 + 1 + 1 + 1 + 1 + 1, o7), (lds, W.listOf us.toArray us.length)]
    (List.forall_mem_cons.2 ⟨.inr ⟨by simp, (ad13 L).symm⟩, List.forall_mem_cons.2 ⟨.inr ⟨by simp, (ad23 L).symm⟩, List.forall_mem_cons.2 ⟨.inr ⟨by simp, ad34 L⟩, List.forall_mem_cons.2 ⟨.inr ⟨by simp, n3⟩, List.forall_mem_cons.2 ⟨.inl rfl,
      List.forall_mem_cons.2 ⟨.inr ⟨by simp, (ne35 L).symm⟩, List.forall_mem_cons.2 ⟨.inr ⟨by simp, (ne36 L).symm⟩, List.forall_mem_cons.2 ⟨.inr ⟨by simp, (ne37 L).symm⟩, List.forall_mem_cons.2 ⟨.inr ⟨.head _, m3⟩, fun _ hp => nomatch hp⟩⟩⟩⟩⟩⟩⟩⟩⟩)
  refine wpAny_execs_cons (thrown_st X T rfl hdp Nc Fc' da db d4 hds hdd hF3 hF2 (fun hd' tkd ths o4' vs ns Fd dd' hvs hns hrow offt Nd => ?_))
  have k4 : ths ≠ L + 1 + 1 + 1 + 1 := fun e => off_mem offt (.tail _ (.tail _ (.head _))) e.symm
  have k5 : ths ≠ L + 1 + 1 + 1 + 1 + 1 := fun e => off_mem offt (.tail _ (.tail _ (.tail _ (.tail _ (.tail _ (.head _)))))) e.symm
  have k6 : ths ≠ L + 1 + 1 + 1 + 1 + 1 + 1 := fun e => off_mem offt (.tail _ (.tail _ (.tail _ (.tail _ (.tail _ (.tail _ (.head _))))))) e.symm
  have k7 : ths ≠ L + 1 + 1 + 1 + 1 + 1 + 1 + 1 := fun e => off_mem offt (.tail _ (.tail _ (.tail _ (.tail _ (.tail _ (.tail _ (.tail _ (.head _)))))))) e.symm
  replace Nd := Nd [(L + 1 + 1, o2'), (L + 1 + 1 + 1, o3'), (lds, W.listOf us.toArray us.length), (L + 1 + 1 + 1 + 1, o4'), (L + 1 + 1 + 1 + 1 + 1, o5), (L + 1 + 1 + 1 + 1 + 1 + 1, o6), (L + 1 + 1 + 1 + 1 + 1 + 1 + 1, o7), (ths, W.listOf vs.toArray vs.length)]
    (List.forall_mem_cons.2 ⟨.inr ⟨by simp, (ad24 L).symm⟩, List.forall_mem_cons.2 ⟨.inr ⟨by simp, (ad34 L).symm⟩, List.forall_mem_cons.2 ⟨.inr ⟨by simp, m4⟩, List.forall_mem_cons.2 ⟨.inl rfl,
      List.forall_mem_cons.2 ⟨.inr ⟨by simp, (ne45 L).symm⟩, List.forall_mem_cons.2 ⟨.inr ⟨by simp, (ne46 L).symm⟩, List.forall_mem_cons.2 ⟨.inr ⟨by simp, (ne47 L).symm⟩, List.forall_mem_cons.2 ⟨.inr ⟨.head _, k4⟩, fun _ hp => nomatch hp⟩⟩⟩⟩⟩⟩⟩⟩)
  subst hlm
  refine wpAny_execs_cons (refused_st X T B Nd Fd db dc hus hms rfl (fun he tke Fe Ne => ?_))
  refine wpAny_execs_cons (for_m (nl := us.length) (nt := vs.length) X T rfl hdp hun (news_sub Ne (List.forall_mem_cons.2 ⟨by simp, List.forall_mem_cons.2 ⟨by simp, List.forall_mem_cons.2 ⟨by simp, List.forall_mem_cons.2 ⟨by simp, List.forall_mem_cons.2 ⟨by simp, List.forall_mem_cons.2 ⟨by simp, List.forall_mem_cons.2 ⟨by simp, List.forall_mem_cons.2 ⟨by simp, fun _ hp => nomatch hp⟩⟩⟩⟩⟩⟩⟩⟩)) Fe db dc dd' d5 d6 d7 hus hvs hms hF2 hrow hns m5 m6 m7 k5 k6 k7 (fun hf tkf mf Ff => ?_))
  exact h hf tkf mf Ff
end Mine
end
section
open PySem PySem.W PyProof.Rows
namespace Mine
theorem nlt {a b k : Nat} (h : a ≤ b) : ¬ b + k < a := by omega
theorem law_ghost {w : World} {s : Shared} {E : Value → Shared → Prop} {Q : Flow → Shared → Prop} {L fa sc : Addr} {cd : Value} {mean : ExcName → Option Value} {mg mb m : Str → Option Value} {H : Heap} {items : List Value} {ss : List Int}
   {o1 o2 o3 o4 o5 o6 o7 : Obj} {v1 v2 v3 v4 v5 v6 v7 : Option Value}
   (X : (hd.heap_39 w.params).In (ghostOf H [(62, 58)])) (T : Top topProg lo mean mg mb (ghostOf H [(62, 58)])) (h58 : H.get? 58 = some (tabObj #[])) (hL : H.objs.size ≤ L)
   (N : News (ghostOf H [(62, 58)]) L s.heap [(L + 1 + 1 + 1 + 1 + 1 + 1 + 1, o7), (L + 1 + 1 + 1 + 1 + 1 + 1, o6), (L + 1 + 1 + 1 + 1 + 1, o5), (L + 1 + 1 + 1 + 1, o4), (L + 1 + 1 + 1, o3), (L + 1 + 1, o2), (L + 1, o1), (58, tabObj #[])])
   (F : Fr (ghostOf H [(62, 58)]) L s.heap m) (hm : m (Str.ofString "script") = some (.ref sc))
   (d1 : o1.data = .cell v1) (d2 : o2.data = .cell v2) (d3 : o3.data = .cell v3) (d4 : o4.data = .cell v4) (d5 : o5.data = .cell v5) (d6 : o6.data = .cell v6) (d7 : o7.data = .cell v7)
   (hl : (ghostOf H [(62, 58)]).IsList sc items.toArray) (hi : IntsAre items ss) (hlen : ¬ ((63 : Nat) : Int) < (ss.length : Int))
   (h : ∀ h' tk m', Fr H L h' m' → wpAny (model prg w) (callerA.deeper (lawEnv L fa cd)) (execs (lawBody.drop 6) (lawEnv L fa cd)) Q E { s with heap := h', toks := tk })
   : wpAny (model prg w) (callerA.deeper (lawEnv L fa cd)) (execs lawBody (lawEnv L fa cd)) Q E s := by
  have kg : ∀ b o, (ghostOf H [(62, 58)]).get? b = some o → H.get? b = some o := fun b o e => of_hideAll _ e
  have F1 : Fr H L s.heap m := by
    refine ⟨F.ns, fun b o e => ?_, hL⟩
    by_cases hb : b = 58
    · subst hb
      rw [h58] at e
      cases e
      exact (N (58, tabObj #[]) (by simp)).1
    · exact F.keep b o (ghost_ne e (by simpa using hb))
  have hn : ∀ k, H.get? (L + k) = none := fun k => by
    cases e : H.get? (L + k) with
    | none => rfl
    | some o => have := Heap.lt_size e; exact absurd this (nlt hL)
  have up : ∀ {k o}, (L + k, o) ∈ [(L + 1 + 1 + 1 + 1 + 1 + 1 + 1, o7), (L + 1 + 1 + 1 + 1 + 1 + 1, o6), (L + 1 + 1 + 1 + 1 + 1, o5), (L + 1 + 1 + 1 + 1, o4), (L + 1 + 1 + 1, o3), (L + 1 + 1, o2), (L + 1, o1), (58, tabObj #[])] →
      s.heap.get? (L + k, o).1 = some (L + k, o).2 ∧ (L + k, o).1 ≠ L ∧ H.get? (L + k, o).1 = none := fun hm => ⟨(N _ hm).1, (N _ hm).2.1, hn _⟩
  have N1 : News H L s.heap [(L + 1, o1), (L + 1 + 1, o2), (L + 1 + 1 + 1, o3), (L + 1 + 1 + 1 + 1, o4), (L + 1 + 1 + 1 + 1 + 1, o5), (L + 1 + 1 + 1 + 1 + 1 + 1, o6), (L + 1 + 1 + 1 + 1 + 1 + 1 + 1, o7)] :=
    List.forall_mem_cons.2 ⟨up (k := 1) (by simp), List.forall_mem_cons.2 ⟨up (k := 2) (.tail _ (.tail _ (.tail _ (.tail _ (.tail _ (.head _)))))), List.forall_mem_cons.2 ⟨up (k := 3) (.tail _ (.tail _ (.tail _ (.tail _ (.head _))))),
      List.forall_mem_cons.2 ⟨up (k := 4) (.tail _ (.tail _ (.tail _ (.head _)))), List.forall_mem_cons.2 ⟨up (k := 5) (.tail _ (.tail _ (.head _))), List.forall_mem_cons.2 ⟨up (k := 6) (.tail _ (.head _)), List.forall_mem_cons.2 ⟨up (k := 7) (.head _), fun _ hp => nomatch hp⟩⟩⟩⟩⟩⟩⟩
  have hk : kstB m [(Str.ofString "script", .ref sc)] = m := kst_self fun p hp => by
    rcases List.mem_singleton.1 hp with rfl
    exact hm
  refine law_body (X.keeps kg) (T.keeps kg) (below_caller _) N1 (by rw [hk]; exact F1) d1 d2 d3 d4 d5 d6 d7 (let ⟨o, e, r⟩ := hl; ⟨o, kg _ _ e, r⟩) hi (by omega) h
end Mine
end
section
open PySem PySem.W PyProof.Rows
namespace Mine
theorem law_last {w : World} {A : Around} {s : Shared} {E : Value → Shared → Prop} {Q : Flow → Shared → Prop} {L fa : Addr} {cd : Value} (h : Q (.ret (.bool true)) s) : wpAny (model prg w) A (execs (lawBody.drop 6) (lawEnv L fa cd)) Q E s := by
  conv in List.drop _ _ => whnf
  w_top on
  iterate 3 (first | walk1 | (dsimp only; walk1))
  exact h
theorem lawA : PySem.Challenge.rw_rs0025_01.Holds := by
  refine hd ?_
  k_go0
  rename News _ _ _ _ => N
  rename Fr _ _ _ _ => F
  rename Heap.IsList (ghostOf _ _) _ _ => hl
  rename IntsAre _ _ => hI
  rename Top topProg _ _ _ _ (ghostOf _ _) => T
  rename (hd.heap_39 _).In (ghostOf _ _) => X
  rename ¬ (_ < _) => hlen
  rename TabsAt _ _ => hT
  change wpAny (model prg _) (callerA.deeper (lawEnv _ _ _)) (execs lawBody (lawEnv _ _ _)) _ _ _
  refine law_ghost X T (hT (62, 58) (.head _)).2 (Nat.le_refl _) N F rfl (by assumption) (by assumption) (by assumption) (by assumption) (by assumption) (by assumption) (by assumption) hl hI hlen (fun h' tk' m' F' => ?_)
  refine law_last ?_
  refine ⟨goodW_bool (ghost_fr hT F') (by assumption) (raisesW_false ?_) ?_, ⟨⟨_, F'.keep 58 _ (hT (62, 58) (.head _)).2⟩, trivial⟩⟩
  · wrow_none_raised
  · wrow_post
end Mine
end
theorem PySem.Challenge.cw_rs0025_01_holds : PySem.Challenge.rw_rs0025_01.Holds := by
  exact Mine.lawA
