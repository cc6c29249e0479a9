import PyProof.Rows.All
import Wide.All
import OpenK.AllK
import Wide.FinOn
import PySem.Challenge.RW_ia0004_01
set_option Elab.async false
set_option maxRecDepth 100000
set_option maxHeartbeats 8000000
section
open PySem PySem.W PyProof.Rows
namespace Mine
open_top hd1 for PySem.Challenge.rw_ia0004_01
end Mine

end
section
open PySem PySem.W PySem.Spec PySem.Calls PyProof.Rows
namespace Mine

noncomputable def Done (g : Heap) (s : Shared) (post : Value → Heap → Prop) (v : Value) (s' : Shared) : Prop :=
  ∃ h' tk, s' = { s with heap := h', toks := tk } ∧ (∀ b o, g.get? b = some o → h'.get? b = some o) ∧ post v h'

theorem Done.mk' {g h' : Heap} {s : Shared} {post : Value → Heap → Prop} {v : Value} {L : Addr} {m : Str → Option Value} {tk : Nat}
    (F : Fr g L h' m) (hp : post v h') : Done g s post v { s with heap := h', toks := tk } := ⟨h', tk, rfl, F.keep, hp⟩

section
variable {prog : Program} {w : World} {A₀ A : Around} {s : Shared} {base h₀ : Heap} {outer : List Env} {L : Addr} {m : Str → Option Value} {env : Env} {mu : List (Addr × Obj)}
  {name qual : Str} {params : Arguments} {body : List Stmt} {scope : Scope} {cl : List (Str × Addr)} {dV kV doc pm cdv ct : Value} {an : Option Addr} {fo : Obj} {f : Addr} {args : List Value} {binds : List (Str × Value)}
  {Q E : Value → Shared → Prop} {post : Value → Heap → Prop}

theorem ground (B : Below A₀ base outer h₀) (F : Fr h₀ L s.heap m) (N : News h₀ L s.heap mu) (hA : A.frames = some (env :: outer)) (hf : env.frame = some L) (hke : env.scope.kind = .function) :
    Below A base (env :: outer) (hideAll s.heap (mu.map (·.1))) ∧ h₀.StaysIn (hideAll s.heap (mu.map (·.1))) := by
  obtain ⟨_, b, c, _⟩ := groundX (R := fun _ _ => True) B F N hA hf hke
  exact ⟨b, c⟩

theorem con_plain (B : Below A₀ base outer h₀) (F : Fr h₀ L s.heap m) (N : News h₀ L s.heap mu) (hlim : h₀.NoLimit) (hA : A.frames = some (env :: outer)) (hf : env.frame = some L) (hke : env.scope.kind = .function)
    (ho : s.heap.get? f = some fo) (hd : fo.data = .func (fnX name qual params body scope cl dV kV doc pm an cdv ct)) (hcd : s.heap.CodeRec cdv qual) (hroom : A.depth < recursionLimit)
    (hbind : BindsTo s (fnX name qual params body scope cl dV kV doc pm an cdv ct) ⟨args, []⟩ binds) (hloc : ∀ y ∈ binds, scope.names.lookup y.1 = some .local)
    (h : ∀ g L' h₁, (∀ b o, s.heap.get? b = some o → b ∉ mu.map (·.1) → g.get? b = some o) → Fr g L' h₁ (fun y => binds.reverse.lookup y) → News g L' h₁ mu → Below A base (env :: outer) g → (∀ p ∈ mu, p.1 < L') → h₀.StaysIn g → s.heap.objs.size ≤ L' →
      wpAny (model prog w) (A.deeper (envX qual scope L' f cdv cl)) (execs body (envX qual scope L' f cdv cl))
        (fun fl s' => Done g s post (match fl with | .ret v => v | _ => .none) s') (fun _ _ => False)
        { s with heap := h₁, toks := s.toks + binds.length })
    (hret : ∀ r h' tk', (∀ b o, s.heap.get? b = some o → b ∉ mu.map (·.1) → h'.get? b = some o) → post r h' → Q r { s with heap := h', toks := tk' })
    (hcell : ∀ x ∈ scope.names, x.2 ≠ .cell) (hco : scope.isCoroutine = false := by rfl) (hgen : scope.isGenerator = false := by rfl) (hk : scope.kind = .function := by rfl) :
    wpAny (model prog w) A (call (.ref f) args) Q E s := by
  obtain ⟨BG, st⟩ := ground B F N hA hf hke
  refine wpAny_call ?_
  refine codeAny_call_def (fd := fnX name qual params body scope cl dV kV doc pm an cdv ct) (body := body) (binds := binds) hroom ho hd (hlim.keeps F.keep) hcd rfl hbind hcell hloc (fun h₁ hns hk₁ => ?_) hco hgen hk
  refine wpAny_mono (h _ s.heap.objs.size h₁ (fun b o e hb => hideAll_get _ e hb) ⟨hns, fun b o e => hk₁ b o (of_hideAll _ e), Nat.le_of_eq (hideAll_size _ _)⟩
    (fun p hp => ⟨hk₁ _ _ (N p hp).1, Nat.ne_of_lt (Heap.lt_size (N p hp).1), hideAll_none _ (List.mem_map_of_mem hp)⟩) BG (fun p hp => Heap.lt_size (N p hp).1) st (Nat.le_refl _)) (fun fl s' hl => ?_) fun _ _ y => y.elim
  obtain ⟨h', tk, rfl, hk', hp⟩ := hl
  exact hret _ h' tk (fun b o e hb => hk' b o (hideAll_get _ e hb)) hp

theorem con_cells (B : Below A₀ base outer h₀) (F : Fr h₀ L s.heap m) (N : News h₀ L s.heap mu) (hlim : h₀.NoLimit) (hA : A.frames = some (env :: outer)) (hf : env.frame = some L) (hke : env.scope.kind = .function)
    (ho : s.heap.get? f = some fo) (hd : fo.data = .func (fnX name qual params body scope [] dV kV doc pm an cdv ct)) (hcd : s.heap.CodeRec cdv qual) (hroom : A.depth < recursionLimit)
    (hbind : BindsTo s (fnX name qual params body scope [] dV kV doc pm an cdv ct) ⟨args, []⟩ binds)
    (hkind : (binds.all fun y => scope.names.lookup y.1 == some .local || scope.names.lookup y.1 == some .cell) = true)
    (hnd : ((cellsFrom 0 scope.names []).map (·.1)).Nodup)
    (h : ∀ g L' h₁ tk cells, (∀ b o, s.heap.get? b = some o → b ∉ mu.map (·.1) → g.get? b = some o) → Fr g L' h₁ (bindL (envOfC qual scope L' f cdv).kindOf binds fun _ => none) → News g L' h₁ (cells ++ mu) →
      CellsAre (bindC (envOfC qual scope L' f cdv).kindOf binds fun _ => none) (cellsFrom (L' + 1) scope.names []) cells → Below A base (env :: outer) g → (∀ p ∈ mu, p.1 < L') → h₀.StaysIn g → s.heap.objs.size ≤ L' →
      wpAny (model prog w) (A.deeper (envOfC qual scope L' f cdv)) (execs body (envOfC qual scope L' f cdv))
        (fun fl s' => Done g s post (match fl with | .ret v => v | _ => .none) s') (fun _ _ => False)
        { s with heap := h₁, toks := tk })
    (hret : ∀ r h' tk', (∀ b o, s.heap.get? b = some o → b ∉ mu.map (·.1) → h'.get? b = some o) → post r h' → Q r { s with heap := h', toks := tk' })
    (hco : scope.isCoroutine = false := by rfl) (hgen : scope.isGenerator = false := by rfl) (hk : scope.kind = .function := by rfl) :
    wpAny (model prog w) A (call (.ref f) args) Q E s := by
  obtain ⟨BG, st⟩ := ground B F N hA hf hke
  refine wpAny_call ?_
  refine codeAny_call_function hroom ho hd hco hgen rfl hcd (hbind _ _ _ _ ?_)
  refine wpAny_newFunctionEnv_cells hk (kindsX hkind _) fun env' he s' x => ?_
  subst he
  refine ⟨(hlim.keeps F.keep).keeps x.toInCall.keep, codeAny_func ?_⟩
  obtain ⟨h₁, tk, rfl, _⟩ := x.done
  have hk₁ := x.toInCall.keep
  obtain ⟨cells, NC, Y⟩ := Cl.news (h₀ := s.heap) (Nat.le_refl _) fun n c hm => ⟨x.cell n c (lookup_of_mem_nodup (cellsFrom_names scope.names 0 (s.heap.objs.size + 1) [] [] rfl ▸ hnd) hm), x.above n c hm⟩
  refine wpAny_mono (h _ s.heap.objs.size h₁ tk cells (fun b o e hb => hideAll_get _ e hb) ⟨x.toInCall.ns, fun b o e => hk₁ b o (of_hideAll _ e), Nat.le_of_eq (hideAll_size _ _)⟩ (fun p hp => ?_) Y BG (fun p hp => Heap.lt_size (N p hp).1) st (Nat.le_refl _)) (fun fl s' hl => ?_) fun _ _ y => y.elim
  · rcases List.mem_append.mp hp with hp | hp
    · refine ⟨(NC p hp).1, (NC p hp).2.1, ?_⟩
      cases q : (hideAll s.heap (mu.map (·.1))).get? p.1 with
      | none => rfl
      | some o => have := of_hideAll _ q; rw [(NC p hp).2.2] at this; cases this
    · exact ⟨hk₁ _ _ (N p hp).1, Nat.ne_of_lt (Heap.lt_size (N p hp).1), hideAll_none _ (List.mem_map_of_mem hp)⟩
  · obtain ⟨h', tk', rfl, hk', hp⟩ := hl
    exact hret _ h' tk' (fun b o e hb => hk' b o (hideAll_get _ e hb)) hp

end
end Mine
namespace Mine
section
variable {prog : Program} {w : World} {A₀ A : Around} {s : Shared} {base h₀ : Heap} {outer : List Env} {L : Addr} {m mg mb : Str → Option Value} {env : Env} {mu : List (Addr × Obj)} {K : Frag} {p : Program} {loose : List Str} {mean : ExcName → Option Value}
  {name qual : Str} {params : Arguments} {body : List Stmt} {scope : Scope} {dV kV doc pm cdv ct oc : Value} {an od : Option Addr} {osl : Array (Option Value)} {f : Addr} {args : List Value} {binds : List (Str × Value)}
  {Q E : Value → Shared → Prop}

/-- Entering a def of the module: the callee's base is the whole heap less what it may change. -/
theorem con_def (post : Value → Heap → Prop) (B : Below A₀ base outer h₀) (F : Fr h₀ L s.heap m) (X₀ : K.In h₀) (N : News h₀ L s.heap mu) (T : Top p loose mean mg mb h₀) (hA : A.frames = some (env :: outer)) (hf : env.frame = some L) (hke : env.scope.kind = .function)
    (ho : K.lookup f = some ⟨oc, od, .func (fnOf name qual params body scope dV kV doc pm an cdv ct), osl⟩) (hcd : codeIn K cdv qual = true) (hroom : A.depth < recursionLimit)
    (hbind : BindsTo s (fnOf name qual params body scope dV kV doc pm an cdv ct) ⟨args, []⟩ binds) (hloc : ∀ y ∈ binds, scope.names.lookup y.1 = some .local)
    (h : ∀ g L' h₁, (∀ b o, s.heap.get? b = some o → b ∉ mu.map (·.1) → g.get? b = some o) → Fr g L' h₁ (fun y => binds.reverse.lookup y) → News g L' h₁ mu → Below A base (env :: outer) g → (∀ p ∈ mu, p.1 < L') → K.In g → Top p loose mean mg mb g → s.heap.objs.size ≤ L' →
      wpAny (model prog w) (A.deeper (envOf qual scope L' f cdv)) (execs body (envOf qual scope L' f cdv))
        (fun fl s' => Done g s post (match fl with | .ret v => v | _ => .none) s') (fun _ _ => False)
        { s with heap := h₁, toks := s.toks + binds.length })
    (hret : ∀ r h' tk', (∀ b o, s.heap.get? b = some o → b ∉ mu.map (·.1) → h'.get? b = some o) → post r h' → Q r { s with heap := h', toks := tk' })
    (hcell : ∀ x ∈ scope.names, x.2 ≠ .cell) (hco : scope.isCoroutine = false) (hgen : scope.isGenerator = false) (hk : scope.kind = .function) :
    wpAny (model prog w) A (call (.ref f) args) Q E s :=
  con_plain (post := post) (cl := []) B F N T.nolimit hA hf hke ((X₀.keeps F.keep) _ _ ho) rfl (codeRec_of (X₀.keeps F.keep) hcd) hroom hbind hloc
    (fun g L' h₁ e F' N' B' l st z => h g L' h₁ e F' N' B' l (X₀.keeps st) (T.keeps st) z) hret hcell hco hgen hk

theorem con_defC (post : Value → Heap → Prop) (B : Below A₀ base outer h₀) (F : Fr h₀ L s.heap m) (X₀ : K.In h₀) (N : News h₀ L s.heap mu) (T : Top p loose mean mg mb h₀) (hA : A.frames = some (env :: outer)) (hf : env.frame = some L) (hke : env.scope.kind = .function)
    (ho : K.lookup f = some ⟨oc, od, .func (fnOf name qual params body scope dV kV doc pm an cdv ct), osl⟩) (hcd : codeIn K cdv qual = true) (hroom : A.depth < recursionLimit)
    (hbind : BindsTo s (fnOf name qual params body scope dV kV doc pm an cdv ct) ⟨args, []⟩ binds)
    (hkind : (binds.all fun y => scope.names.lookup y.1 == some .local || scope.names.lookup y.1 == some .cell) = true)
    (hnd : ((cellsFrom 0 scope.names []).map (·.1)).Nodup)
    (h : ∀ g L' h₁ tk cells, (∀ b o, s.heap.get? b = some o → b ∉ mu.map (·.1) → g.get? b = some o) → Fr g L' h₁ (bindL (envOfC qual scope L' f cdv).kindOf binds fun _ => none) → News g L' h₁ (cells ++ mu) →
      CellsAre (bindC (envOfC qual scope L' f cdv).kindOf binds fun _ => none) (cellsFrom (L' + 1) scope.names []) cells → Below A base (env :: outer) g → (∀ p ∈ mu, p.1 < L') → K.In g → Top p loose mean mg mb g → s.heap.objs.size ≤ L' →
      wpAny (model prog w) (A.deeper (envOfC qual scope L' f cdv)) (execs body (envOfC qual scope L' f cdv))
        (fun fl s' => Done g s post (match fl with | .ret v => v | _ => .none) s') (fun _ _ => False)
        { s with heap := h₁, toks := tk })
    (hret : ∀ r h' tk', (∀ b o, s.heap.get? b = some o → b ∉ mu.map (·.1) → h'.get? b = some o) → post r h' → Q r { s with heap := h', toks := tk' })
    (hco : scope.isCoroutine = false) (hgen : scope.isGenerator = false) (hk : scope.kind = .function) :
    wpAny (model prog w) A (call (.ref f) args) Q E s :=
  con_cells (post := post) B F N T.nolimit hA hf hke ((X₀.keeps F.keep) _ _ ho) rfl (codeRec_of (X₀.keeps F.keep) hcd) hroom hbind hkind hnd
    (fun g L' h₁ tk cells e F' N' Y B' l st z => h g L' h₁ tk cells e F' N' Y B' l (X₀.keeps st) (T.keeps st) z) hret hco hgen hk
end

/-- `v < x` is the bool b, wherever the heap h stands. -/
noncomputable def LtIs (prog : Program) (w : World) (h : Heap) (v x : Value) (b : Bool) : Prop :=
  ∀ (A : Around) (Q E : Value → Shared → Prop) (s : Shared), (∀ b o, h.get? b = some o → s.heap.get? b = some o) → A.units + 64 < cLine → A.handled = none →
    Q (.bool b) s → wpAny (model prog w) A (compareOp .Lt v x) Q E s

noncomputable def bisGo (below : Nat → Bool) : Nat → Nat → Nat → Nat
  | 0, lo, _ => lo
  | f + 1, lo, hi => if lo < hi then (if below ((lo + hi) / 2) then bisGo below f ((lo + hi) / 2 + 1) hi else bisGo below f lo ((lo + hi) / 2)) else lo
noncomputable def bis (below : Nat → Bool) (n : Nat) : Nat := bisGo below n 0 n
theorem bisGo_fuel (below : Nat → Bool) : ∀ (f f' lo hi : Nat), hi ≤ lo + f → hi ≤ lo + f' → bisGo below f lo hi = bisGo below f' lo hi := by
  intro f
  induction f with
  | zero =>
    intro f' lo hi h1 _
    cases f' with
    | zero => rfl
    | succ f' => simp only [bisGo]; rw [if_neg (by omega)]
  | succ f ih =>
    intro f' lo hi h1 h2
    cases f' with
    | zero => simp only [bisGo]; rw [if_neg (by omega)]
    | succ f' =>
      simp only [bisGo]
      split
      · split
        · exact ih _ _ _ (by omega) (by omega)
        · exact ih _ _ _ (by omega) (by omega)
      · rfl
theorem bisGo_le (below : Nat → Bool) : ∀ (f lo hi : Nat), lo ≤ hi → bisGo below f lo hi ≤ hi := by
  intro f
  induction f with
  | zero => intro lo hi h; exact h
  | succ f ih =>
    intro lo hi h
    simp only [bisGo]
    split
    · split
      · exact ih _ _ (by omega)
      · exact Nat.le_trans (ih _ _ (by omega)) (by omega)
    · exact h
theorem bis_le (below : Nat → Bool) (n : Nat) : bis below n ≤ n := bisGo_le below n 0 n (Nat.zero_le _)
/-- where the loop stands: what is left gives what the whole gives -/
theorem bis_turn {below : Nat → Bool} {lo hi r : Nat} (h : bisGo below (hi - lo) lo hi = r) (hlt : lo < hi) :
    (below ((lo + hi) / 2) = true → bisGo below (hi - ((lo + hi) / 2 + 1)) ((lo + hi) / 2 + 1) hi = r) ∧ (below ((lo + hi) / 2) = false → bisGo below ((lo + hi) / 2 - lo) lo ((lo + hi) / 2) = r) := by
  obtain ⟨d, hd⟩ : ∃ d, hi - lo = d + 1 := ⟨hi - lo - 1, (Nat.sub_add_cancel (Nat.sub_pos_of_lt hlt)).symm⟩
  rw [hd] at h
  simp only [bisGo, if_pos hlt] at h
  constructor
  · intro hb
    rw [if_pos hb] at h
    rw [← h]; exact bisGo_fuel _ _ _ _ _ (by omega) (by omega)
  · intro hb
    rw [if_neg (by rw [hb]; exact Bool.false_ne_true)] at h
    rw [← h]; exact bisGo_fuel _ _ _ _ _ (by omega) (by omega)
theorem bis_end {below : Nat → Bool} {lo hi r : Nat} (h : bisGo below (hi - lo) lo hi = r) (hlt : ¬ lo < hi) : lo = r := by
  have : hi - lo = 0 := by omega
  rw [this] at h
  exact h
end Mine

namespace Mine
section
variable {prog : Program} {w : World} {A : Around} {E : Value → Shared → Prop} {s : Shared} {h₀ : Heap} {L : Addr} {m : Str → Option Value} {Q : Value → Shared → Prop}
theorem len_base {l : Addr} {vs : List Value} (F : Fr h₀ L s.heap m) (hl : h₀.IsList l vs.toArray) (hz : vs.length ≤ 16384) (h : Q (.int (vs.length : Int) (s.toks + 1)) { s with toks := s.toks + 1 + 1 }) :
    wpAny (model prog w) A (call (.builtin "len") [.ref l]) Q E s :=
  kun_lenL (hl.at fun o e => F.keep l o e) (by simp) (by omega) h
theorem item_base {value slice : PySem.Expr} {l : Addr} {vs : List Value} {k : Int} {u : Tok} {v : Value} (F : Fr h₀ L s.heap m) (hl : h₀.IsList l vs.toArray) (h0 : 0 ≤ k) (hhi : k < 2 ^ 63) (hx : vs[k.toNat]? = some v) (h : Q v s)
    (hs : subscripted slice false (.ref l) (.int k u) = operate [.ref l, .int k u] (getItem (.ref l) (.int k u)) := by with_unfolding_all rfl) :
    wpAny (model prog w) A (subscriptTail value slice (.ref l) (.int k u)) Q E s :=
  tail_any (hl.at fun o e => F.keep l o e).typeIs slot_list_getitem.lookup (wpAny_getItem_list (hl.at fun o e => F.keep l o e) h0 hhi (by simpa using hx) h) hs
end
end Mine
namespace Mine
theorem reads {h₀ h : Heap} {L : Addr} {m : Str → Option Value} (_F : Fr h₀ L h m) (x : Str) (n : Int) (e : ∃ t, m x = some (Value.int n t)) : ∃ t, m x = some (Value.int n t) := e
end Mine
namespace Mine
theorem half_nat (lo hi : Nat) : (((lo : Int) + (hi : Int)).fdiv 2) = (((lo + hi) / 2 : Nat) : Int) := by
  rw [Int.fdiv_eq_ediv_of_nonneg _ (by decide)]; rfl
end Mine
namespace Mine
section
variable {h₀ h h' : Heap} {L l : Addr} {m : Str → Option Value} {news news' : List (Addr × Obj)} {o o' : Obj}
theorem ext_F (F : Fr h₀ L h m) (e : ∀ b o, h.get? b = some o → h'.get? b = some o) : Fr h₀ L h' m := ⟨F.ns.keeps e, fun b o q => e _ _ (F.keep b o q), F.above⟩
theorem ext_N (N : News h₀ L h news) (e : ∀ b o, h.get? b = some o → h'.get? b = some o) : News h₀ L h' news := fun p hp => ⟨e _ _ (N p hp).1, (N p hp).2⟩
theorem after_one (N : News h₀ L h news) (U : Upd l o o' news news') : News h₀ L h [(l, o)] := by
  obtain ⟨pre, post, rfl, rfl, a, c⟩ := U.split
  intro p hp
  obtain rfl := List.mem_singleton.mp hp
  exact N _ (List.mem_append_right _ (.head _))
theorem after_F (F : Fr h₀ L h m) (N : News h₀ L h news) (U : Upd l o o' news news') (e : ∀ b o, h.get? b = some o → b ∉ [l] → h'.get? b = some o) : Fr h₀ L h' m := by
  have n := (after_one N U) _ (.head _)
  obtain ⟨oL, es, ep, hL, r⟩ := F.ns
  refine ⟨⟨oL, es, ep, e _ _ hL fun q => n.2.1 (List.mem_singleton.mp q).symm, r⟩, fun b x q => e _ _ (F.keep b x q) fun z => ?_, F.above⟩
  rw [List.mem_singleton.mp z, n.2.2] at q; cases q
theorem after_N (N : News h₀ L h news) (U : Upd l o o' news news') (e : ∀ b o, h.get? b = some o → b ∉ [l] → h'.get? b = some o) (ho : h'.get? l = some o') : News h₀ L h' news' := by
  obtain ⟨pre, post, rfl, rfl, a, c⟩ := U.split
  intro p hp
  rcases List.mem_append.mp hp with q | q
  · have n := N p (List.mem_append_left _ q)
    exact ⟨e _ _ n.1 fun z => a p q (List.mem_singleton.mp z), n.2⟩
  · rcases List.mem_cons.mp q with rfl | q
    · exact ⟨ho, (N (l, o) (List.mem_append_right _ (.head _))).2⟩
    · have n := N p (List.mem_append_right _ (.tail _ q))
      exact ⟨e _ _ n.1 fun z => c p q (List.mem_singleton.mp z), n.2⟩
theorem news_list {vs : List Value} {n : Nat} (N : News h₀ L h news) (hm : (l, PySem.W.listOf vs.toArray n) ∈ news) : h.IsList l vs.toArray := ⟨_, (N _ hm).1, rfl, n, rfl⟩
end
noncomputable def insAt {α : Type} (l : List α) (k : Nat) (x : α) : List α := l.take k ++ x :: l.drop k
theorem LtIs.mono {prog : Program} {w : World} {h h' : Heap} {v x : Value} {b : Bool} (H : LtIs prog w h v x b) (e : ∀ b o, h.get? b = some o → h'.get? b = some o) : LtIs prog w h' v x b :=
  fun A Q E s k hu hh q => H A Q E s (fun b o z => k _ _ (e _ _ z)) hu hh q
end Mine
namespace Mine
theorem keep_all {h₀ h g h' : Heap} {L L' : Addr} {mu : List (Addr × Obj)} {m' : Str → Option Value} (N : News h₀ L h mu) (hg : ∀ b o, h.get? b = some o → b ∉ mu.map (·.1) → g.get? b = some o) (F' : Fr g L' h' m') (N' : News g L' h' mu) :
    ∀ b o, h.get? b = some o → h'.get? b = some o := by
  intro b o e
  by_cases hb : b ∈ mu.map (·.1)
  · obtain ⟨p, hp, rfl⟩ := List.mem_map.mp hb
    rw [(N p hp).1] at e
    rw [(N' p hp).1, e]
  · exact F'.keep _ _ (hg _ _ e hb)
theorem insAt_kl {l : List Value} {k : Nat} {x : Value} (h : k ≤ l.length) : kl_ins l (k : Int) x = insAt l k x := by
  unfold kl_ins insAt
  rw [if_neg (by omega)]
  rw [show min (k : Int).toNat l.length = k by simp; omega]
end Mine
namespace Mine
theorem fits_small {k n : Nat} (h : k ≤ n) (hn : n ≤ 1000) : Builtin.List.listFitsIndex (k : Int) = true := by
  unfold Builtin.List.listFitsIndex
  have h1 : (k : Int) ≤ 1000 := by omega
  have h2 : (0 : Int) ≤ k := by omega
  simp only [Bool.and_eq_true, decide_eq_true_eq]
  constructor <;> omega
end Mine
namespace Mine
noncomputable def innerOf (K : Frag) (f : Addr) : Option (Str × Arguments × List Stmt × Scope × Pos) := match K.lookup f with
  | some ⟨_, _, .func fd, _⟩ => (match fd.body with
    | .stmts b => b.findSome? fun st => (match st with
      | .FunctionDef name params body _ _ _ scope _ _ pos => some (name, params, body, scope, pos)
      | _ => none)
    | _ => none)
  | _ => none
end Mine
namespace Mine
section
variable {M : Model} {A : Around} {E : Value → Shared → Prop} {s : Shared} {h₀ : Heap} {L a : Addr} {m : Str → Option Value} {cn : Str} {cs : Scope} {ccd : Value} {cl : List (Str × Addr)} {x : Str} {pos : Pos} {v : Value} {Q : Value → Shared → Prop} {c : Addr} {o : Obj}
theorem free_base (F : Fr h₀ L s.heap m) (hc : cl.lookup x = some c) (hg : h₀.get? c = some o) (hd : o.data = .cell (some v)) (h : Q v s)
    (hk : cs.kind = .function := by rfl) (hx : (envX cn cs L a ccd cl).kindOf x = some .free := by rfl) (hb : (x == ("__debug__" : Str)) = false := by decide) (hn : (x == ("__classdict__" : Str)) = false := by decide) :
    wpAny M A (eval (.Name x pos) (envX cn cs L a ccd cl)) Q E s := wpAny_Name (wpAny_loadName_free hk hx hc ⟨o, F.keep _ _ hg, hd⟩ h hn) hb
end
section
variable {prog : Program} {w : World} {A : Around} {E : Value → Shared → Prop} {s : Shared} {Q : Value → Shared → Prop} {t u : Tok}
theorem shr1 {lo hi : Nat} (h : Q (.int (((lo + hi) / 2 : Nat) : Int) s.toks) { s with toks := s.toks + 1 }) : wpAny (model prog w) A (binaryOp .RShift (.int ((lo : Int) + (hi : Int)) t) (.int 1 u)) Q E s := by
  refine rshift_int (by decide) ?_
  have : ((lo : Int) + (hi : Int)).fdiv (2 ^ (1 : Int).toNat) = (((lo + hi) / 2 : Nat) : Int) := half_nat lo hi
  rw [this]; exact h
theorem intBits_le {a : Int} {k : Nat} (h0 : 0 ≤ a) (h : a < 2 ^ k) : Builtin.Int.intBits a ≤ k := by
  unfold Builtin.Int.intBits
  split
  · exact Nat.zero_le _
  · rename_i hne
    have hne' : a ≠ 0 := by simpa using hne
    have hn : a.natAbs ≠ 0 := by omega
    have : a.natAbs < 2 ^ k := by
      have e : ((a.natAbs : Nat) : Int) = a := by omega
      have : ((a.natAbs : Nat) : Int) < ((2 ^ k : Nat) : Int) := by rw [e]; simpa using h
      exact_mod_cast this
    have := (Nat.log2_lt hn).mpr this
    omega
theorem shl_nat {a n : Int} {k j : Nat} (hn : n = (k : Int)) (h0 : 0 ≤ a) (h1 : a < 2 ^ j) (hj : j + k ≤ 1000) (h : Q (.int (a * 2 ^ k) s.toks) { s with toks := s.toks + 1 }) : wpAny (model prog w) A (binaryOp .LShift (.int a t) (.int n u)) Q E s := by
  subst hn
  refine lshift_int (by omega) ?_ (by simpa using h)
  have := intBits_le h0 h1
  omega
end
noncomputable def dval : List Int → Int
  | [] => 0
  | d :: r => d + 2 * dval r
theorem dval_append (a b : List Int) : dval (a ++ b) = dval a + 2 ^ a.length * dval b := by
  induction a with
  | nil => simp [dval]
  | cons d r ih =>
    simp only [List.cons_append, dval, ih, List.length_cons, Int.pow_succ]
    rw [Int.mul_add, Int.add_assoc, Int.mul_comm (2 ^ r.length) 2, Int.mul_assoc]
theorem dval_lt : ∀ (a : List Int), (∀ d ∈ a, 0 ≤ d ∧ d ≤ 1) → 0 ≤ dval a ∧ dval a < 2 ^ a.length
  | [], _ => ⟨Int.le_refl _, by decide⟩
  | d :: r, h => by
    obtain ⟨h1, h2⟩ := dval_lt r fun x hx => h x (.tail _ hx)
    obtain ⟨h3, h4⟩ := h d (.head _)
    simp only [dval, List.length_cons, Int.pow_succ]
    omega
noncomputable def seg (ns : List Int) (lo hi : Nat) : List Int := (ns.drop lo).take (hi - lo)
theorem seg_split {ns : List Int} {lo mid hi : Nat} (h1 : lo ≤ mid) (h2 : mid ≤ hi) : seg ns lo hi = seg ns lo mid ++ seg ns mid hi := by
  unfold seg
  rw [show hi - lo = (mid - lo) + (hi - mid) from by rw [Nat.add_comm]; exact (Nat.sub_add_sub_cancel h2 h1).symm, List.take_add, List.drop_drop, show lo + (mid - lo) = mid from Nat.add_sub_cancel' h1]
theorem seg_length {ns : List Int} {lo hi : Nat} (h : hi ≤ ns.length) : (seg ns lo hi).length = hi - lo := by
  unfold seg
  rw [List.length_take, List.length_drop]; exact Nat.min_eq_left (Nat.sub_le_sub_right h lo)
theorem seg_mem {ns : List Int} {lo hi : Nat} {d : Int} (h : d ∈ seg ns lo hi) : d ∈ ns := List.mem_of_mem_drop (List.mem_of_mem_take h)
theorem seg_one {ns : List Int} {lo : Nat} {d : Int} (h : ns[lo]? = some d) : dval (seg ns lo (lo + 1)) = d := by
  unfold seg
  obtain ⟨hl, rfl⟩ := List.getElem?_eq_some_iff.mp h
  rw [show lo + 1 - lo = 1 by omega, List.drop_eq_getElem_cons hl]
  show ns[lo] + 2 * dval (List.take 0 _) = _
  rw [List.take_zero]; simp [dval]
theorem seg_all (ns : List Int) : seg ns 0 ns.length = ns := by simp [seg]
theorem dval_split {ns : List Int} {lo mid hi : Nat} (h1 : lo ≤ mid) (h2 : mid ≤ hi) (h3 : hi ≤ ns.length) : dval (seg ns mid hi) * 2 ^ (mid - lo) + dval (seg ns lo mid) = dval (seg ns lo hi) := by
  rw [seg_split h1 h2, dval_append, seg_length (by omega), Int.mul_comm, Int.add_comm]
end Mine
namespace Mine
theorem dval_seg_lt {ns : List Int} {lo hi : Nat} (h : ∀ d ∈ ns, 0 ≤ d ∧ d ≤ 1) (hl : ns.length ≤ 64) (hh : hi ≤ ns.length) : 0 ≤ dval (seg ns lo hi) ∧ dval (seg ns lo hi) < 2 ^ 64 := by
  obtain ⟨a, b⟩ := dval_lt (seg ns lo hi) fun d hd => h d (seg_mem hd)
  refine ⟨a, Int.lt_of_lt_of_le b ?_⟩
  rw [seg_length hh]
  have : (2 : Nat) ^ (hi - lo) ≤ 2 ^ 64 := Nat.pow_le_pow_right (by decide) (by omega)
  exact_mod_cast this
end Mine
namespace Mine
theorem seg_last {ns : List Int} {lo hi : Nat} (h : lo < ns.length) (e : hi = lo + 1) : ns.getD ((lo : Int).toNat) 0 = dval (seg ns lo hi) := by
  subst e
  rw [seg_one (List.getElem?_eq_getElem h), Int.toNat_natCast, List.getD_eq_getElem?_getD, List.getElem?_eq_getElem h]; rfl
end Mine
namespace Mine
/-- the table of the defs within a def's code: nothing yet, or the one inner def's code -/
noncomputable def TabOk (line col : Int) (qual : Str) (ps : Array Value) (h : Heap) : Prop :=
  ps = #[] ∨ ∃ c', ps = #[rawInt line, rawInt col, .ref c'] ∧ h.CodeRec (.ref c') qual
theorem TabOk.keeps {line col : Int} {qual : Str} {ps : Array Value} {h h' : Heap} (x : TabOk line col qual ps h) (k : ∀ b o, h.get? b = some o → h'.get? b = some o) : TabOk line col qual ps h' :=
  x.imp id fun ⟨c', e, r⟩ => ⟨c', e, r.keeps k⟩
theorem truthy_base {prog : Program} {w : World} {A : Around} {E : Value → Shared → Prop} {s : Shared} {h₀ : Heap} {L : Addr} {m : Str → Option Value} {Q : Bool → Shared → Prop} {l : Addr} {vs : List Value} (F : Fr h₀ L s.heap m) (hl : h₀.IsList l vs.toArray) (hz : vs.length ≤ 16384)
    (h : Q (decide (0 < vs.length)) { s with toks := s.toks + 1 + 1 }) : wpAny (model prog w) A (truthy (.ref l)) Q E s := by
  refine wpAny_truthy_list (hl.at fun o e => F.keep l o e) (by simp; omega) ?_
  have : (!vs.toArray.isEmpty) = decide (0 < vs.length) := by cases vs <;> simp
  rw [this]; exact h
end Mine
namespace Mine
theorem CodeRec_up {h g : Heap} {c P : Addr} {i j : Int} {qual : Str} (x : h.CodeRec (.ref c) qual) (hg : ∀ b o, h.get? b = some o → b ∉ [P] → g.get? b = some o) (hP : h.get? P = some (tabObj #[rawInt i, rawInt j, .ref c])) : g.CodeRec (.ref c) qual := by
  obtain ⟨a, o, vs, t, e, ho, hd, hv⟩ := x
  cases e
  refine ⟨_, o, vs, t, rfl, hg _ _ ho (fun hm => ?_), hd, hv⟩
  rw [List.mem_singleton.mp hm, hP] at ho
  cases ho
  cases hd
  cases hv
end Mine
namespace Mine
noncomputable def bitsOf : Nat → Int → List Int
  | 0, _ => []
  | k + 1, x => x % 2 :: bitsOf k (x / 2)
theorem bitsOf_length : ∀ (k : Nat) (x : Int), (bitsOf k x).length = k
  | 0, _ => rfl
  | k + 1, x => by simp [bitsOf, bitsOf_length k]
theorem bitsOf_add : ∀ (j k : Nat) (x : Int), bitsOf (j + k) x = bitsOf j (x % 2 ^ j) ++ bitsOf k (x / 2 ^ j)
  | 0, k, x => by simp [bitsOf]
  | j + 1, k, x => by
    rw [show j + 1 + k = (j + k) + 1 by omega]
    simp only [bitsOf, List.cons_append]
    rw [bitsOf_add j k (x / 2)]
    have e1 : x % 2 ^ (j + 1) % 2 = x % 2 := by
      rw [Int.pow_succ, Int.mul_comm]
      exact Int.emod_emod_of_dvd x ⟨_, rfl⟩
    have e2 : x % 2 ^ (j + 1) / 2 = x / 2 % 2 ^ j := by
      have h0 : (0 : Int) < 2 ^ j := Int.pow_pos (by decide)
      rw [Int.pow_succ]
      have a1 := Int.mul_ediv_add_emod x (2 ^ j * 2)
      have a2 := Int.mul_ediv_add_emod (x / 2) (2 ^ j)
      have a3 : x / 2 / 2 ^ j = x / (2 ^ j * 2) := by rw [Int.mul_comm, Int.ediv_ediv_of_nonneg (by decide)]
      rw [a3] at a2
      generalize x / (2 ^ j * 2) = q at *
      generalize x % (2 ^ j * 2) = r at *
      generalize x / 2 % 2 ^ j = r2 at *
      rw [Int.mul_assoc, Int.mul_left_comm] at a1
      generalize (2 : Int) ^ j * q = z at *
      omega
    have e3 : x / 2 ^ (j + 1) = x / 2 / 2 ^ j := by rw [Int.ediv_ediv_of_nonneg (by decide), Int.pow_succ, Int.mul_comm]
    rw [e1, e2, e3]
noncomputable def blit (ds : List Int) (lo : Nat) (new : List Int) : List Int := ds.take lo ++ new ++ ds.drop (lo + new.length)
theorem blit_one {ds : List Int} {lo : Nat} {x : Int} (h : lo < ds.length) : ds.set lo x = blit ds lo [x] := by
  unfold blit
  rw [List.set_eq_take_append_cons_drop, if_pos h]; simp
theorem blit_length {ds new : List Int} {lo : Nat} (h : lo + new.length ≤ ds.length) : (blit ds lo new).length = ds.length := by
  unfold blit; simp only [List.length_append, List.length_take, List.length_drop]; rw [Nat.min_eq_left (Nat.le_trans (Nat.le_add_right _ _) h)]; exact Nat.add_sub_cancel' h
theorem blit_two {ds a b : List Int} {lo : Nat} (h : lo + a.length + b.length ≤ ds.length) : blit (blit ds lo a) (lo + a.length) b = blit ds lo (a ++ b) := by
  unfold blit
  have h1 : (ds.take lo ++ a).length = lo + a.length := by simp; omega
  rw [List.take_append_of_le_length (by rw [h1]; exact Nat.le_refl _), List.take_of_length_le (by rw [h1]; exact Nat.le_refl _)]
  rw [List.drop_append, List.drop_of_length_le (by rw [h1]; omega), List.nil_append, h1, List.drop_drop]
  simp only [List.append_assoc, List.length_append]
  rw [show lo + a.length + (lo + a.length + b.length - (lo + a.length)) = lo + (a.length + b.length) by omega]
theorem blit_all {ds new : List Int} (h : new.length = ds.length) : blit ds 0 new = new := by
  unfold blit; simp [h]
theorem xor_table : ∀ k : Nat, k < 7 → ∀ x : Nat, x < 64 → Builtin.bitXor (x : Int) ((x : Int) / 2 ^ k * 2 ^ k) = (x : Int) % 2 ^ k := by decide +kernel
section
variable {prog : Program} {w : World} {A : Around} {E : Value → Shared → Prop} {s : Shared} {Q : Value → Shared → Prop} {t u : Tok}
theorem shrk {x n : Int} {k : Nat} (hn : n = (k : Int)) (h : Q (.int (x / 2 ^ k) s.toks) { s with toks := s.toks + 1 }) : wpAny (model prog w) A (binaryOp .RShift (.int x t) (.int n u)) Q E s := by
  subst hn
  refine rshift_int (by omega) ?_
  rw [Int.toNat_natCast, Int.fdiv_eq_ediv_of_nonneg _ (Int.le_of_lt (Int.pow_pos (by decide)))]; exact h
theorem xor_low {x : Int} {k : Nat} (h0 : 0 ≤ x) (h1 : x < 64) (hk : k < 7) (h : Q (.int (x % 2 ^ k) s.toks) { s with toks := s.toks + 1 }) : wpAny (model prog w) A (binaryOp .BitXor (.int x t) (.int (x / 2 ^ k * 2 ^ k) u)) Q E s := by
  refine xor_int ?_
  have := xor_table k hk x.toNat (by omega)
  rw [show ((x.toNat : Nat) : Int) = x by omega] at this
  rw [this]; exact h
end
theorem bit_parts {x : Int} {j d : Nat} (h0 : 0 ≤ x) (h1 : x < 2 ^ d) (hj : j ≤ d) (hd : d ≤ 6) : 0 ≤ x % 2 ^ j ∧ x % 2 ^ j < 2 ^ j ∧ 0 ≤ x / 2 ^ j ∧ x / 2 ^ j < 2 ^ (d - j) ∧ x < 64 ∧ x / 2 ^ j < 2 ^ 6 := by
  have p : (0 : Int) < 2 ^ j := Int.pow_pos (by decide)
  have hx : x < 64 := by
    have : (2 : Nat) ^ d ≤ 2 ^ 6 := Nat.pow_le_pow_right (by decide) hd
    have : ((2 ^ d : Nat) : Int) ≤ ((2 ^ 6 : Nat) : Int) := by exact_mod_cast this
    simp at this
    omega
  have hq : 0 ≤ x / 2 ^ j := Int.ediv_nonneg h0 (Int.le_of_lt p)
  refine ⟨Int.emod_nonneg _ (by omega), Int.emod_lt_of_pos _ p, hq, ?_, hx, ?_⟩
  · refine Int.ediv_lt_of_lt_mul p ?_
    rw [← Int.pow_add, Nat.sub_add_cancel hj]; exact h1
  · refine Int.lt_of_le_of_lt (Int.ediv_le_self _ h0) hx
theorem after_go {h₀ h h' : Heap} {L l : Addr} {m : Str → Option Value} {news news' : List (Addr × Obj)} {o o' : Obj} {P : Prop} (F : Fr h₀ L h m) (N : News h₀ L h news) (U : Upd l o o' news news') (e : ∀ b o, h.get? b = some o → b ∉ [l] → h'.get? b = some o) (ho : h'.get? l = some o')
    (k : Fr h₀ L h' m → News h₀ L h' news' → P) : P := k (after_F F N U e) (after_N N U e ho)
theorem up_list {h g : Heap} {l b : Addr} {vs : Array Value} {n : Nat} {o : Obj} (hg : ∀ b o, h.get? b = some o → b ∉ [l] → g.get? b = some o) (hl : h.get? l = some (PySem.W.listOf vs n)) (hb : h.get? b = some o) (hne : ∀ vs n, o.data ≠ .seq vs n) : g.get? b = some o := by
  refine hg _ _ hb fun hm => ?_
  rw [List.mem_singleton.mp hm, hl] at hb
  cases hb
  exact hne _ _ rfl
theorem codeRec_upl {h g : Heap} {c l : Addr} {vs : Array Value} {n : Nat} {qual : Str} (x : h.CodeRec (.ref c) qual) (hg : ∀ b o, h.get? b = some o → b ∉ [l] → g.get? b = some o) (hl : h.get? l = some (PySem.W.listOf vs n)) : g.CodeRec (.ref c) qual := by
  obtain ⟨a, o, vs, t, e, ho, hd, hv⟩ := x
  cases e
  exact ⟨_, o, vs, t, rfl, up_list hg hl ho (by rw [hd]; intro _ _ e; cases e), hd, hv⟩
end Mine
namespace Mine
theorem set_bits {ds : List Int} {lo hi : Nat} {x : Int} (hl : lo < ds.length) (e : hi = lo + 1) (h0 : 0 ≤ x) (h1 : x < 2 ^ (hi - lo)) : ds.set ((lo : Int).toNat) x = blit ds lo (bitsOf (hi - lo) x) := by
  subst e
  rw [show lo + 1 - lo = 1 by omega] at h1 ⊢
  have : x % 2 = x := by omega
  rw [Int.toNat_natCast, blit_one hl]
  show blit ds lo [x] = blit ds lo [x % 2]
  rw [this]
theorem blit_bits {ds : List Int} {lo mid hi : Nat} {x : Int} (h1 : lo ≤ mid) (h2 : mid ≤ hi) (h3 : hi ≤ ds.length) :
    blit (blit ds lo (bitsOf (mid - lo) (x % 2 ^ (mid - lo)))) mid (bitsOf (hi - mid) (x / 2 ^ (mid - lo))) = blit ds lo (bitsOf (hi - lo) x) := by
  have e := blit_two (ds := ds) (a := bitsOf (mid - lo) (x % 2 ^ (mid - lo))) (b := bitsOf (hi - mid) (x / 2 ^ (mid - lo))) (lo := lo) (by simp only [bitsOf_length]; omega)
  rw [bitsOf_length, show lo + (mid - lo) = mid from Nat.add_sub_cancel' h1] at e
  rw [e, ← bitsOf_add, show mid - lo + (hi - mid) = hi - lo from by rw [Nat.add_comm]; exact Nat.sub_add_sub_cancel h2 h1]
end Mine
namespace Mine
theorem rep_one {α : Type} (v : α) : ∀ j : Nat, (List.replicate j [v]).flatten = List.replicate j v
  | 0 => rfl
  | j + 1 => by rw [List.replicate_succ, List.flatten_cons, rep_one v j]; rfl
theorem ints_rep (n : Int) (t : Tok) : ∀ j : Nat, IntsAre (List.replicate j (Value.int n t)) (List.replicate j n)
  | 0 => .nil
  | j + 1 => .cons n t (ints_rep n t j)
theorem mul_ints {prog : Program} {w : World} {A : Around} {E : Value → Shared → Prop} {s : Shared} {h₀ : Heap} {L : Addr} {m : Str → Option Value} {news : List (Addr × Obj)} {l : Addr} {k : Nat} {v x : Int} {t u : Tok} {Q : Value → Shared → Prop} {j : Nat}
    (F : Fr h₀ L s.heap m) (N : News h₀ L s.heap news) (hm : (l, PySem.W.listOf [Value.int v t].toArray k) ∈ news) (hx : x = (j : Int)) (hj : j ≤ 200)
    (h : ∀ D h', Fr h₀ L h' m → News h₀ L h' ((D, PySem.W.listOf (List.replicate j (Value.int v t)).toArray 0) :: news) → (∀ p ∈ news, p.1 < D) → IntsAre (List.replicate j (Value.int v t)) (List.replicate j v) → Q (.ref D) { s with heap := h' }) :
    wpAny (model prog w) A (binaryOp .Mult (.ref l) (.int x u)) Q E s := by
  subst hx
  exact KMa.mul (vs := [Value.int v t]) F N (news_list N hm) (by omega) (by omega) (by simp; omega) (by rw [Int.toNat_natCast]; exact rep_one _ _) fun D h' F' N' l1 => h D h' F' N' l1 (ints_rep _ _ _)
theorem bits_table : ∀ a : Nat, a < 64 → ((a : Int) < 2 ^ (Builtin.Int.intBits (a : Int)) ∧ Builtin.Int.intBits (a : Int) ≤ 6) ∧ (a = 0 ↔ Builtin.Int.intBits (a : Int) = 0) := by decide +kernel
theorem bits_of {a : Int} (h0 : 0 ≤ a) (h1 : a < 64) : a < 2 ^ (Builtin.Int.intBits a) ∧ Builtin.Int.intBits a ≤ 6 ∧ (a = 0 ↔ Builtin.Int.intBits a = 0) := by
  obtain ⟨⟨b1, b2⟩, b3⟩ := bits_table a.toNat (by omega)
  rw [show ((a.toNat : Nat) : Int) = a by omega] at b1 b2 b3
  exact ⟨b1, b2, by rw [← b3]; omega⟩
theorem len_news {prog : Program} {w : World} {A : Around} {E : Value → Shared → Prop} {s : Shared} {h₀ : Heap} {L : Addr} {news : List (Addr × Obj)} {Q : Value → Shared → Prop} {l : Addr} {vs : List Value} {n : Nat} (N : News h₀ L s.heap news) (hm : (l, PySem.W.listOf vs.toArray n) ∈ news) (hz : vs.length ≤ 16384)
    (h : Q (.int (vs.length : Int) (s.toks + 1)) { s with toks := s.toks + 1 + 1 }) : wpAny (model prog w) A (call (.builtin "len") [.ref l]) Q E s :=
  kun_lenL (news_list N hm) (by simp) (by omega) h
end Mine
namespace Mine
theorem blit_rep (k : Nat) (x : Int) : blit (List.replicate k 0) 0 (bitsOf (k - 0) x) = bitsOf k x := by
  rw [Nat.sub_zero]; exact blit_all (by simp [bitsOf_length])
end Mine
namespace Mine
noncomputable def posI (ns : List Int) (x : Int) : Nat := bis (fun k => decide (ns.getD k 0 < x)) ns.length
noncomputable def insI (ns : List Int) (x : Int) : List Int := insAt ns (posI ns x) x
theorem ints_some : ∀ {vs : List Value} {ns : List Int}, IntsAre vs ns → ∀ {k : Nat} {v : Value}, vs[k]? = some v → ∃ t, v = .int (ns.getD k 0) t
  | _, _, .nil, k, v, e => by simp at e
  | _, _, .cons n t h, 0, v, e => by simp at e; exact ⟨t, by rw [← e]; rfl⟩
  | _, _, .cons n t h, k + 1, v, e => by
    obtain ⟨t', e'⟩ := ints_some h (k := k) (v := v) (by simpa using e)
    exact ⟨t', by rw [e']; rfl⟩
theorem insAt_length {α : Type} (l : List α) (k : Nat) (x : α) : (insAt l k x).length = l.length + 1 := by
  unfold insAt; rw [List.length_append, List.length_cons, ← Nat.add_assoc, ← List.length_append, List.take_append_drop]
end Mine
namespace Mine
end Mine
namespace Mine
theorem keep_one {h h' : Heap} {P : Addr} {o : Obj} (e : ∀ b o, h.get? b = some o → b ∉ [P] → h'.get? b = some o) (h1 : h.get? P = some o) (h2 : h'.get? P = some o) : ∀ b o, h.get? b = some o → h'.get? b = some o := by
  intro b o' q
  by_cases hb : b = P
  · subst hb; rw [h1] at q; rw [h2, q]
  · exact e _ _ q (by simpa using hb)
/-- the code of a def, as a new object of the heap -/
noncomputable def CodeNew (h : Heap) (c : Addr) (qual : Str) : Prop := ∃ oc vs t, h.get? c = some oc ∧ oc.data = .fields vs ∧ vs[1]? = some (.str qual t)
theorem codeNew_news {h₀ h : Heap} {L c : Addr} {oc : Obj} {vs : Array Value} {qual : Str} {t : Tok} {news : List (Addr × Obj)} (N : News h₀ L h news) (hm : (c, oc) ∈ news) (hd : oc.data = .fields vs) (hv : vs[1]? = some (.str qual t)) : CodeNew h c qual := ⟨oc, vs, t, (N _ hm).1, hd, hv⟩
end Mine
namespace Mine
theorem after_new {h₀ h h' : Heap} {L P c9 : Addr} {m : Str → Option Value} {news news' : List (Addr × Obj)} {o o' : Obj} {qual : Str} {Pr : Prop} (F : Fr h₀ L h m) (N : News h₀ L h news) (U : Upd P o o' news news')
    (e : ∀ b o, h.get? b = some o → b ∉ [P] → h'.get? b = some o) (ho : h'.get? P = some o') (hz : h.objs.size ≤ c9) (hc : CodeNew h' c9 qual)
    (k : ∀ oc vs t, oc.data = .fields vs → vs[1]? = some (.str qual t) → Fr h₀ L h' m → News h₀ L h' ((c9, oc) :: news') → (∀ p ∈ news, p.1 < c9) → Pr) : Pr := by
  obtain ⟨oc, vs, t, g, d, v⟩ := hc
  have hL : L < c9 := Nat.lt_of_lt_of_le F.ns.lt hz
  refine k oc vs t d v (after_F F N U e) (fun p hp => ?_) (fun p hp => Nat.lt_of_lt_of_le (Heap.lt_size (N p hp).1) hz)
  rcases List.mem_cons.mp hp with rfl | hp
  · exact ⟨g, Nat.ne_of_gt hL, Heap.get?_none_of_le (Nat.le_trans F.above (Nat.le_of_lt hL))⟩
  · exact after_N N U e ho p hp
theorem after_list {h₀ h h' : Heap} {L l : Addr} {m : Str → Option Value} {news : List (Addr × Obj)} {o : Obj} {Pr : Prop} (F : Fr h₀ L h m) (N : News h₀ L h news)
    (e : ∀ b o, h.get? b = some o → h'.get? b = some o) (hz : h.objs.size ≤ l) (ho : h'.get? l = some o)
    (k : Fr h₀ L h' m → News h₀ L h' ((l, o) :: news) → (∀ p ∈ news, p.1 < l) → Pr) : Pr := by
  have hL : L < l := Nat.lt_of_lt_of_le F.ns.lt hz
  refine k (ext_F F e) (fun p hp => ?_) (fun p hp => Nat.lt_of_lt_of_le (Heap.lt_size (N p hp).1) hz)
  rcases List.mem_cons.mp hp with rfl | hp
  · exact ⟨ho, Nat.ne_of_gt hL, Heap.get?_none_of_le (Nat.le_trans F.above (Nat.le_of_lt hL))⟩
  · exact ext_N N e p hp
noncomputable def bitsOk (ns : List Int) : Prop := ∀ d ∈ ns, 0 ≤ d ∧ d ≤ 1
noncomputable def sfx (size : Nat) (row : List Int) : List Int := row.drop (row.length - size)
end Mine
namespace Mine
theorem news_sub {h₀ h : Heap} {L : Addr} {news news' : List (Addr × Obj)} (N : News h₀ L h news) (hs : ∀ p ∈ news', p ∈ news) : News h₀ L h news' := fun p hp => N p (hs p hp)
end Mine
namespace Mine
section
variable {prog : Program} {w : World} {A : Around} {E : Value → Shared → Prop} {Q : Flow → Shared → Prop} {s : Shared} {env : Env} {h₀ : Heap} {L : Addr}
end
end Mine
namespace Mine
theorem insI_length (ns : List Int) (x : Int) : (insI ns x).length = ns.length + 1 := insAt_length _ _ _
section
variable {prog : Program} {w : World} {A : Around} {E : Value → Shared → Prop} {s : Shared} {h₀ : Heap} {L l : Addr} {m : Str → Option Value} {news : List (Addr × Obj)} {value slice : PySem.Expr} {vs : List Value} {ns : List Int} {Q : Value → Shared → Prop}
theorem slice_ints {vl vu : Value} {lo hi : Option Int} {ms : List Int} (F : Fr h₀ L s.heap m) (N : News h₀ L s.heap news) (hl : s.heap.IsList l vs.toArray) (pl : IsPart vl lo) (pu : IsPart vu hi) (hm : IntsAre (slicePick vs.toArray lo hi none).toList ms) (hz : vs.length ≤ 16384)
    (h : ∀ D ws h', Fr h₀ L h' m → News h₀ L h' ((D, PySem.W.listOf (List.toArray ws) 0) :: news) → (∀ p ∈ news, p.1 < D) → IntsAre ws ms → Q (.ref D) { s with heap := h' })
    (hs : subscripted slice false (.ref l) (.ref s.heap.objs.size) = operate [.ref s.heap.objs.size, .ref l] (getItem (.ref l) (.ref s.heap.objs.size)) := by with_unfolding_all rfl) :
    wpAny (model prog w) A (subscriptTail value slice (.ref l) (.ref s.heap.objs.size)) Q E { s with heap := s.heap.push { cls := .type "slice", data := .fields #[vl, vu, .none] } } := by
  refine tail_any (Heap.IsList.typeIs (s := { s with heap := s.heap.push { cls := .type "slice", data := .fields #[vl, vu, .none] } }) (hl.push _)) list_getitem_lookup
    (wpAny_getItem_list_slice (hl.push _) (Heap.IsSliceOf.new ..) pl pu .none (by simp) ?_ (by rw [sizeLine_eq]; simp; omega)) hs
  have N1 := News.push (F.push { cls := .type "slice", data := .fields #[vl, vu, .none] }) (N.grown fun _ _ e => Heap.get?_push_of_some _ e) { cls := .type "list", data := .seq (slicePick vs.toArray lo hi none) }
  refine h _ (slicePick vs.toArray lo hi none).toList _ ((F.push _).push _) ?_ (fun p hp => Nat.lt_of_lt_of_le (Heap.lt_size (N p hp).1) (by rw [Heap.size_push]; omega)) hm
  rw [Array.toArray_toList]
  exact N1
theorem slice_to {x : Int} {t : Tok} {k : Nat} (hx : x = (k : Int)) (F : Fr h₀ L s.heap m) (N : News h₀ L s.heap news) (hl : s.heap.IsList l vs.toArray) (ii : IntsAre vs ns) (hz : vs.length ≤ 16384)
    (h : ∀ D ws h', Fr h₀ L h' m → News h₀ L h' ((D, PySem.W.listOf (List.toArray ws) 0) :: news) → (∀ p ∈ news, p.1 < D) → IntsAre ws (ns.take k) → Q (.ref D) { s with heap := h' })
    (hs : subscripted slice false (.ref l) (.ref s.heap.objs.size) = operate [.ref s.heap.objs.size, .ref l] (getItem (.ref l) (.ref s.heap.objs.size)) := by with_unfolding_all rfl) :
    wpAny (model prog w) A (subscriptTail value slice (.ref l) (.ref s.heap.objs.size)) Q E { s with heap := s.heap.push { cls := .type "slice", data := .fields #[.none, .int x t, .none] } } := by
  subst hx
  exact slice_ints F N hl .none (.int _ _) (kmk_upto ii (by omega)) hz h hs
end
end Mine
namespace Mine
end Mine
namespace Mine
end Mine
namespace Mine
end Mine
namespace Mine
noncomputable def whileOf (K : Frag) (f : Addr) : Option (Expr × List Stmt × Scope) := match K.lookup f with
  | some ⟨_, _, .func fd, _⟩ => (match fd.body with
    | .stmts b => b.findSome? fun st => (match st with
      | .While test body _ _ => some (test, body, fd.scope)
      | _ => none)
    | _ => none)
  | _ => none
end Mine
namespace Mine
end Mine
namespace Mine
end Mine
namespace Mine
noncomputable def forOf (K : Frag) (f : Addr) : Option (Expr × Expr × List Stmt × Scope) := match K.lookup f with
  | some ⟨_, _, .func fd, _⟩ => (match fd.body with
    | .stmts b => b.findSome? fun st => (match st with
      | .For target iter body _ _ => some (target, iter, body, fd.scope)
      | _ => none)
    | _ => none)
  | _ => none
end Mine
namespace Mine
theorem pow_nat {prog : Program} {w : World} {A : Around} {E : Value → Shared → Prop} {s : Shared} {Q : Value → Shared → Prop} {t u : Tok} {n : Int} {k : Nat} (hn : n = (k : Int)) (hk : k ≤ 1000) (h : Q (.int ((2 ^ k : Nat) : Int) s.toks) { s with toks := s.toks + 1 }) :
    wpAny (model prog w) A (binaryOp .Pow (.int 2 t) (.int n u)) Q E s := by
  subst hn
  refine pow_int_small (by omega) (by omega) (by decide) ?_
  rw [Int.toNat_natCast]
  simpa using h
theorem range_small_tab : ∀ n : Nat, n < 100 → Builtin.Range.small 0 (n : Int) 1 = true := by decide +kernel
theorem range_small {n m : Nat} (h : n ≤ m) (hm : m < 100 := by decide) : Builtin.Range.small 0 (n : Int) 1 = true := range_small_tab n (by omega)
theorem range_size {n : Nat} : Builtin.Range.rangeSize 0 (n : Int) 1 = (n : Int) := by
  unfold Builtin.Range.rangeSize; simp
  try omega
end Mine

end
section
open PySem PySem.W PySem.Spec PySem.Calls PyProof.Rows
namespace Mine
/-- The goal is put away while facts are taken apart: no motive repeats it. -/
theorem shut {G : Prop} (h : (G → False) → False) : G := Classical.byContradiction h
theorem sub_cons {α : Type} {p : α} {old new : List α} (h : p ∈ old) (r : ∀ q ∈ new, q ∈ old) : ∀ q ∈ p :: new, q ∈ old := List.forall_mem_cons.mpr ⟨h, r⟩
theorem all_cons {α : Type} {P : α → Prop} {p : α} {l : List α} (h : P p) (r : ∀ q ∈ l, P q) : ∀ q ∈ p :: l, P q := List.forall_mem_cons.mpr ⟨h, r⟩
/-- the middle, for the nested defs -/
theorem mid_le {lo hi : Nat} (h : lo < hi) : lo ≤ (lo + hi) / 2 := by omega
theorem mid_lt {lo hi : Nat} (h : lo < hi) : (lo + hi) / 2 < hi := by omega
theorem mid_gt {lo hi : Nat} (h : lo < hi) (n : (lo : Int) + 1 ≠ (hi : Int)) : lo < (lo + hi) / 2 := by omega
theorem mid_up {lo hi k : Nat} (h : lo < hi) (hk : hi - lo ≤ k + 1) (n : (lo : Int) + 1 ≠ (hi : Int)) : hi - (lo + hi) / 2 ≤ k :=
  Nat.sub_le_of_le_add (Nat.le_trans (Nat.le_add_of_sub_le hk) (by rw [Nat.add_right_comm]; exact Nat.add_le_add_left (mid_gt h n) k))
theorem mid_dn {lo hi k : Nat} (h : lo < hi) (hk : hi - lo ≤ k + 1) : (lo + hi) / 2 - lo ≤ k :=
  Nat.sub_le_of_le_add (Nat.le_of_lt_succ (Nat.lt_of_lt_of_le (mid_lt h) (by rw [Nat.succ_eq_add_one, Nat.add_right_comm]; exact Nat.le_add_of_sub_le hk)))
theorem mid_sub {lo hi : Nat} (h : lo < hi) : hi - (lo + hi) / 2 = hi - lo - ((lo + hi) / 2 - lo) := by rw [Nat.sub_sub, Nat.add_sub_cancel' (mid_le h)]
theorem mid_int {lo hi : Nat} (h : lo < hi) : (((lo + hi) / 2 : Nat) - (lo : Int)) * 1 = (((lo + hi) / 2 - lo : Nat) : Int) := by rw [Int.mul_one, Int.ofNat_sub (mid_le h)]
theorem mid_low {lo hi : Nat} (h : lo < hi) : (lo + hi) / 2 - lo ≤ hi - lo := Nat.sub_le_sub_right (Nat.le_of_lt (mid_lt h)) lo
theorem mid_high {lo hi : Nat} (h : lo < hi) : hi - (lo + hi) / 2 ≤ hi - lo := Nat.sub_le_sub_left (mid_le h) hi
theorem mid_in {lo hi n : Nat} (h : lo < hi) (hn : hi ≤ n) : (lo + hi) / 2 ≤ n := Nat.le_trans (Nat.le_of_lt (mid_lt h)) hn
theorem mid_len {lo hi n : Nat} (h : lo < hi) (hn : hi ≤ n) : lo + ((lo + hi) / 2 - lo) ≤ n := by rw [Nat.add_sub_cancel' (mid_le h)]; exact mid_in h hn
theorem mid_small {lo hi n c : Nat} (h : lo < hi) (hn : hi ≤ n) (h64 : n ≤ 64) (hc : c ≤ 64) : c + ((lo + hi) / 2 - lo) ≤ 1000 :=
  Nat.le_trans (Nat.add_le_add hc (Nat.le_trans (Nat.sub_le _ _) (Nat.le_trans (mid_in h hn) h64))) (by decide)
theorem mid_64 {lo hi n : Nat} (h : lo < hi) (hn : hi ≤ n) (h64 : n ≤ 64) : (((lo + hi) / 2 : Nat) - (lo : Int)) < 2 ^ 64 :=
  Int.lt_of_le_of_lt (Int.sub_le_self _ (Int.natCast_nonneg lo)) (Int.lt_of_le_of_lt (Int.ofNat_le.mpr (Nat.le_trans (mid_in h hn) h64)) (by decide))
theorem lt_four {L W : Nat} (h : L < W) (n4 : L + 4 ≠ W) (n3 : L + 3 ≠ W) (n2 : L + 2 ≠ W) (n1 : L + 1 ≠ W) : L + 4 < W :=
  Nat.lt_of_le_of_ne (Nat.lt_of_le_of_ne (Nat.lt_of_le_of_ne (Nat.lt_of_le_of_ne h n1) n2) n3) n4
theorem clamp_five (n : Nat) : (if (if (n : Int) < 5 then (n : Int) else 5) > 1 then (if (n : Int) < 5 then (n : Int) else 5) else 1) = ((max 1 (min 5 n) : Nat) : Int) := by
  match n with
  | 0 => rfl
  | 1 => rfl
  | 2 => rfl
  | 3 => rfl
  | 4 => rfl
  | n + 5 =>
    rw [Nat.min_eq_left (Nat.le_add_left 5 n), if_neg (show ¬ ((n + 5 : Nat) : Int) < 5 from Int.not_lt.mpr (Int.ofNat_le.mpr (Nat.le_add_left 5 n)))]
    rfl
theorem clamp_one (n : Nat) (h : 1 ≤ n) : (if (n : Int) - 1 > 1 then (n : Int) - 1 else 1) = ((max 1 (n - 1) : Nat) : Int) := by
  match n, h with
  | 1, _ => rfl
  | 2, _ => rfl
  | n + 3, _ =>
    rw [show ((n + 3 : Nat) : Int) - 1 = ((n + 2 : Nat) : Int) from Int.add_sub_cancel ((n + 2 : Nat) : Int) 1, if_pos (show ((n + 2 : Nat) : Int) > 1 from Int.ofNat_lt.mpr (Nat.le_add_left 2 n)), Nat.add_sub_assoc (by decide) n, Nat.max_eq_right (Nat.le_add_left 1 (n + 1))]
theorem sub_step {n i : Nat} (h : i < n) : n + 1 - (i + 1) < n + 1 - i := by rw [Nat.add_sub_add_right, Nat.succ_sub (Nat.le_of_lt h)]; exact Nat.lt_succ_self _
theorem cut_sum {lo mid hi : Nat} (h1 : lo ≤ mid) (h2 : mid ≤ hi) : mid - lo + (hi - mid) = hi - lo := by rw [Nat.add_comm]; exact Nat.sub_add_sub_cancel h2 h1
theorem fits_63 {i n : Nat} (h : i < n) (hn : n ≤ 5) : (i : Int) < 2 ^ 63 := Int.lt_of_lt_of_le (Int.ofNat_lt.mpr (Nat.lt_of_lt_of_le h hn)) (by decide)
end Mine

end
section
open PySem
namespace Mine
/-- an item of the heap of law 01: weight, tag, members -/
structure It where
  w : Int
  tag : Int
  mem : List Int
deriving DecidableEq
noncomputable def ltIt (a b : It) : Bool := decide (a.w < b.w) || (decide (a.w = b.w) && decide (a.tag < b.tag))
noncomputable def it0 : It := ⟨0, 0, []⟩
noncomputable def posH (l : List It) (x : It) : Nat := bis (fun k => ltIt (l.getD k it0) x) l.length
noncomputable def insH (l : List It) (x : It) : List It := insAt l (posH l x) x
noncomputable def bumpOne (ds : List Int) (k : Int) : List Int := ds.set k.toNat (ds.getD k.toNat 0 + 1)
noncomputable def bump (ds : List Int) (ks : List Int) : List Int := ks.foldl bumpOne ds
noncomputable def startGo : Nat → List Int → List It → List It
  | _, [], o => o
  | k, w :: r, o => startGo (k + 1) r (insH o ⟨w, (k : Int), [(k : Int)]⟩)
noncomputable def start (ns : List Int) : List It := startGo 0 ns []
structure HSt where
  order : List It
  ds : List Int
  cost : Int
noncomputable def hTurn (a b : It) (r : List It) (ds : List Int) (cost : Int) : HSt := ⟨insH r ⟨a.w + b.w, 100 + (cost + a.w + b.w), a.mem ++ b.mem⟩, bump ds (a.mem ++ b.mem), cost + a.w + b.w⟩
noncomputable def hRun : Nat → HSt → HSt
  | 0, s => s
  | f + 1, ⟨order, ds, cost⟩ => match order with
    | a :: b :: r => hRun f (hTurn a b r ds cost)
    | _ => ⟨order, ds, cost⟩
noncomputable def huf (ns : List Int) : List Int × Int := let s := hRun ns.length ⟨start ns, List.replicate ns.length 0, 0⟩; (s.ds, s.cost)

-- the place that bisect finds
theorem bisGo_place {below : Nat → Bool} {n : Nat} (mono : ∀ i j, i ≤ j → j < n → below j = true → below i = true) : ∀ (f lo hi : Nat), hi ≤ lo + f → lo ≤ hi → hi ≤ n → (∀ i, i < lo → below i = true) → (∀ i, hi ≤ i → i < n → below i = false) →
    (∀ i, i < bisGo below f lo hi → below i = true) ∧ (∀ i, bisGo below f lo hi ≤ i → i < n → below i = false) := by
  intro f
  induction f with
  | zero => intro lo hi h1 h2 _ hl hh; exact ⟨hl, by have : hi = lo := by omega
                                                     subst this; exact hh⟩
  | succ f ih =>
    intro lo hi h1 h2 h3 hl hh
    simp only [bisGo]
    split
    · rename_i hlt
      split
      · rename_i hb
        refine ih _ _ (by omega) (by omega) h3 (fun i hi' => ?_) hh
        exact mono i ((lo + hi) / 2) (by omega) (by omega) hb
      · rename_i hb
        refine ih _ _ (by omega) (by omega) (by omega) hl (fun i hi' hin => ?_)
        cases hbi : below i with
        | false => rfl
        | true => exact absurd (mono _ i hi' hin hbi) hb
    · have : hi = lo := by omega
      subst this
      exact ⟨hl, hh⟩
theorem bis_place {below : Nat → Bool} {n : Nat} (mono : ∀ i j, i ≤ j → j < n → below j = true → below i = true) : (∀ i, i < bis below n → below i = true) ∧ (∀ i, bis below n ≤ i → i < n → below i = false) :=
  bisGo_place mono n 0 n (by omega) (by omega) (Nat.le_refl _) (fun i h => absurd h (by omega)) (fun i h h' => absurd h' (by omega))

noncomputable def LeIt (a b : It) : Prop := a.w < b.w ∨ (a.w = b.w ∧ a.tag ≤ b.tag)
theorem ltIt_iff {a b : It} : ltIt a b = true ↔ a.w < b.w ∨ (a.w = b.w ∧ a.tag < b.tag) := by
  unfold ltIt; simp
theorem LeIt.of_lt {a b : It} (h : ltIt a b = true) : LeIt a b := by
  rw [ltIt_iff] at h
  rcases h with h | ⟨h, h'⟩
  · exact .inl h
  · exact .inr ⟨h, by omega⟩
theorem LeIt.of_not {a b : It} (h : ltIt a b = false) : LeIt b a := by
  unfold LeIt
  have : ¬ (a.w < b.w ∨ (a.w = b.w ∧ a.tag < b.tag)) := fun q => by rw [ltIt_iff.mpr q] at h; cases h
  omega
theorem LeIt.trans {a b c : It} (h : LeIt a b) (h' : LeIt b c) : LeIt a c := by
  unfold LeIt at *
  rcases h with p | ⟨e, t⟩
  · rcases h' with q | ⟨e', _⟩
    · exact .inl (Int.lt_trans p q)
    · exact .inl (e' ▸ p)
  · rcases h' with q | ⟨e', t'⟩
    · exact .inl (e ▸ q)
    · exact .inr ⟨e.trans e', Int.le_trans t t'⟩
theorem lt_of_le {a b c : It} (h : LeIt a b) (h' : ltIt b c = true) : ltIt a c = true := by
  rw [ltIt_iff] at *; unfold LeIt at h
  rcases h with p | ⟨e, t⟩
  · rcases h' with q | ⟨e', _⟩
    · exact .inl (Int.lt_trans p q)
    · exact .inl (e' ▸ p)
  · rcases h' with q | ⟨e', t'⟩
    · exact .inl (e ▸ q)
    · exact .inr ⟨e.trans e', Int.lt_of_le_of_lt t t'⟩

theorem getD_it {l : List It} {i : Nat} (h : i < l.length) : l.getD i it0 = l[i] := by
  rw [List.getD_eq_getElem?_getD, List.getElem?_eq_getElem h]; rfl
theorem insH_place {l : List It} {x : It} (hs : l.Pairwise LeIt) : (∀ a ∈ l.take (posH l x), ltIt a x = true) ∧ (∀ a ∈ l.drop (posH l x), ltIt a x = false) := by
  have mono : ∀ i j, i ≤ j → j < l.length → (fun k => ltIt (l.getD k it0) x) j = true → (fun k => ltIt (l.getD k it0) x) i = true := by
    intro i j hij hj h
    simp only at h ⊢
    rcases Nat.lt_or_eq_of_le hij with hlt | rfl
    · rw [getD_it hj] at h
      rw [getD_it (by omega)]
      exact lt_of_le (List.pairwise_iff_getElem.mp hs i j (by omega) hj hlt) h
    · exact h
  obtain ⟨h1, h2⟩ := bis_place mono
  constructor
  · intro a ha
    obtain ⟨i, hi, rfl⟩ := List.getElem_of_mem ha
    rw [List.length_take] at hi
    rw [List.getElem_take]
    have := h1 i (by have : posH l x = bis (fun k => ltIt (l.getD k it0) x) l.length := rfl
                     omega)
    rw [getD_it (by omega)] at this
    exact this
  · intro a ha
    obtain ⟨i, hi, rfl⟩ := List.getElem_of_mem ha
    rw [List.length_drop] at hi
    rw [List.getElem_drop]
    have := h2 (posH l x + i) (Nat.le_add_right _ _) (by omega)
    rw [getD_it (by omega)] at this
    exact this
theorem insH_sorted {l : List It} {x : It} (hs : l.Pairwise LeIt) : (insH l x).Pairwise LeIt := by
  obtain ⟨h1, h2⟩ := insH_place (x := x) hs
  unfold insH insAt
  have hs' : (l.take (posH l x) ++ l.drop (posH l x)).Pairwise LeIt := by rw [List.take_append_drop]; exact hs
  rw [List.pairwise_append] at hs' ⊢
  refine ⟨hs'.1, List.pairwise_cons.mpr ⟨fun b hb => LeIt.of_not (h2 b hb), hs'.2.1⟩, fun a ha b hb => ?_⟩
  rcases List.mem_cons.mp hb with rfl | hb
  · exact LeIt.of_lt (h1 a ha)
  · exact hs'.2.2 a ha b hb
theorem insH_perm (l : List It) (x : It) : (insH l x).Perm (x :: l) := by
  unfold insH insAt
  refine (List.perm_middle).trans (List.Perm.cons x ?_)
  rw [List.take_append_drop]
theorem insH_length (l : List It) (x : It) : (insH l x).length = l.length + 1 := insAt_length _ _ _
-- behind all that weigh no more
noncomputable def insA : List It → It → List It
  | [], y => [y]
  | x :: r, y => if x.w ≤ y.w then x :: insA r y else y :: x :: r
theorem insA_split {y : It} : ∀ {p q : List It}, (∀ a ∈ p, a.w ≤ y.w) → (∀ a ∈ q, ¬ a.w ≤ y.w) → insA (p ++ q) y = p ++ y :: q
  | [], [], _, _ => rfl
  | [], b :: q, _, h => by
    simp only [List.nil_append, insA]
    rw [if_neg (h b (.head _))]
  | a :: p, q, h, h' => by
    simp only [List.cons_append, insA]
    rw [if_pos (h a (.head _)), insA_split (fun b hb => h b (.tail _ hb)) h']
theorem insH_A {l : List It} {x : It} (hs : l.Pairwise LeIt) (ht : ∀ a ∈ l, a.tag < x.tag) : insH l x = insA l x := by
  obtain ⟨h1, h2⟩ := insH_place (x := x) hs
  unfold insH insAt
  rw [← insA_split (y := x) (p := l.take (posH l x)) (q := l.drop (posH l x)) (fun a ha => ?_) (fun a ha => ?_), List.take_append_drop]
  · have := ltIt_iff.mp (h1 a ha); omega
  · have h := h2 a ha
    have h3 := ht a (List.mem_of_mem_drop ha)
    intro hle
    have : ltIt a x = true := ltIt_iff.mpr (by omega)
    rw [this] at h; cases h
end Mine

end
section
open PySem
namespace Mine
noncomputable def noTag (x : It) : It := ⟨x.w, 0, x.mem⟩
noncomputable def rel (f : Int → Int) (x : It) : It := ⟨x.w, x.tag, x.mem.map f⟩
/-- the merges: members of each, and what they weigh in all -/
noncomputable def trA : Nat → List It → List (List Int) × Int
  | 0, _ => ([], 0)
  | f + 1, a :: b :: r => ((a.mem ++ b.mem) :: (trA f (insA r ⟨a.w + b.w, 0, a.mem ++ b.mem⟩)).1, a.w + b.w + (trA f (insA r ⟨a.w + b.w, 0, a.mem ++ b.mem⟩)).2)
  | _ + 1, [_] => ([], 0)
  | _ + 1, [] => ([], 0)
theorem insA_map {g : It → It} (hg : ∀ x, (g x).w = x.w) (y : It) : ∀ l : List It, insA (l.map g) (g y) = (insA l y).map g
  | [] => rfl
  | x :: r => by
    simp only [List.map_cons, insA, hg]
    split
    · rw [List.map_cons, insA_map hg y r]
    · rfl
theorem trA_rel (f : Int → Int) : ∀ (n : Nat) (o : List It), trA n (o.map (rel f)) = ((trA n o).1.map (List.map f), (trA n o).2)
  | 0, _ => rfl
  | n + 1, [] => rfl
  | n + 1, [_] => rfl
  | n + 1, a :: b :: r => by
    simp only [trA, List.map_cons]
    have e : (⟨(rel f a).w + (rel f b).w, 0, (rel f a).mem ++ (rel f b).mem⟩ : It) = rel f ⟨a.w + b.w, 0, a.mem ++ b.mem⟩ := by simp [rel]
    rw [e, insA_map (g := rel f) (fun _ => rfl), trA_rel f n]
    simp [rel]
theorem insA_noTag (l : List It) (y : It) : (insA l y).map noTag = insA (l.map noTag) (noTag y) := (insA_map (g := noTag) (fun _ => rfl) y l).symm
theorem insA_perm (y : It) : ∀ l : List It, (insA l y).Perm (y :: l)
  | [] => .refl _
  | x :: r => by
    simp only [insA]
    split
    · exact ((insA_perm y r).cons x).trans (List.Perm.swap y x r)
    · exact .refl _
theorem hRun_tr : ∀ (n : Nat) (o : List It) (ds : List Int) (cost : Int), o.Pairwise LeIt → (∀ x ∈ o, x.tag ≤ 100 + cost ∧ 1 ≤ x.w) → 0 ≤ cost →
    (hRun n ⟨o, ds, cost⟩).ds = (trA n (o.map noTag)).1.foldl bump ds ∧ (hRun n ⟨o, ds, cost⟩).cost = cost + (trA n (o.map noTag)).2
  | 0, _, _, _, _, _, _ => ⟨rfl, by simp [hRun, trA]⟩
  | n + 1, [], ds, cost, _, _, _ => ⟨rfl, by simp [hRun, trA]⟩
  | n + 1, [a], ds, cost, _, _, _ => ⟨rfl, by simp [hRun, trA]⟩
  | n + 1, a :: b :: r, ds, cost, hs, ht, hc => by
    have ha := ht a (.head _)
    have hb := ht b (.tail _ (.head _))
    have hsr : r.Pairwise LeIt := (List.pairwise_cons.mp (List.pairwise_cons.mp hs).2).2
    have e : insH r ⟨a.w + b.w, 100 + (cost + a.w + b.w), a.mem ++ b.mem⟩ = insA r ⟨a.w + b.w, 100 + (cost + a.w + b.w), a.mem ++ b.mem⟩ :=
      insH_A hsr fun x hx => by have := ht x (.tail _ (.tail _ hx)); show x.tag < 100 + (cost + a.w + b.w); omega
    have ih := hRun_tr n (insA r ⟨a.w + b.w, 100 + (cost + a.w + b.w), a.mem ++ b.mem⟩) (bump ds (a.mem ++ b.mem)) (cost + a.w + b.w) (e ▸ insH_sorted hsr) (fun x hx => by
      rcases List.mem_cons.mp ((insA_perm _ r).mem_iff.mp hx) with rfl | hx
      · exact ⟨by show 100 + (cost + a.w + b.w) ≤ _; omega, by show 1 ≤ a.w + b.w; omega⟩
      · have := ht x (.tail _ (.tail _ hx)); omega) (by omega)
    rw [insA_noTag] at ih
    simp only [hRun, hTurn, e, trA, List.map_cons]
    rw [ih.1, ih.2]
    refine ⟨rfl, ?_⟩
    show _ = cost + (a.w + b.w + _)
    have e2 : noTag ⟨a.w + b.w, 100 + (cost + a.w + b.w), a.mem ++ b.mem⟩ = ⟨(noTag a).w + (noTag b).w, 0, (noTag a).mem ++ (noTag b).mem⟩ := rfl
    rw [e2]
    omega
-- what the start lays
noncomputable def itemOf (ns : List Int) (k : Nat) : It := ⟨ns.getD k 0, (k : Int), [(k : Int)]⟩
theorem insAt_map {α β : Type} (f : α → β) (l : List α) (k : Nat) (x : α) : insAt (l.map f) k (f x) = (insAt l k x).map f := by
  unfold insAt; simp
theorem insAt_perm {α : Type} (l : List α) (k : Nat) (x : α) : (insAt l k x).Perm (x :: l) := by
  unfold insAt
  refine (List.perm_middle).trans (List.Perm.cons x ?_)
  rw [List.take_append_drop]
theorem startGo_is (ns : List Int) : ∀ (r : List Int) (k : Nat) (p : List Nat), ns.drop k = r → p.Perm (List.range k) → (p.map (itemOf ns)).Pairwise LeIt →
    ∃ q : List Nat, startGo k r (p.map (itemOf ns)) = q.map (itemOf ns) ∧ q.Perm (List.range (k + r.length)) ∧ (q.map (itemOf ns)).Pairwise LeIt
  | [], k, p, _, hp, hs => ⟨p, rfl, hp, hs⟩
  | w :: r, k, p, hd, hp, hs => by
    have hk : k < ns.length := by
      rcases Nat.lt_or_ge k ns.length with h | h
      · exact h
      · rw [List.drop_eq_nil_of_le h] at hd; cases hd
    rw [List.drop_eq_getElem_cons hk] at hd
    obtain ⟨hw, hr⟩ := List.cons.inj hd
    have ei : (⟨w, (k : Int), [(k : Int)]⟩ : It) = itemOf ns k := by
      unfold itemOf; rw [List.getD_eq_getElem?_getD, List.getElem?_eq_getElem hk, ← hw]; rfl
    simp only [startGo, ei]
    have e : insH (p.map (itemOf ns)) (itemOf ns k) = (insAt p (posH (p.map (itemOf ns)) (itemOf ns k)) k).map (itemOf ns) := insAt_map _ _ _ _
    have hs' := insH_sorted (x := itemOf ns k) hs
    rw [e] at hs' ⊢
    obtain ⟨q, h1, h2, h3⟩ := startGo_is ns r (k + 1) _ hr ((insAt_perm p _ k).trans (by rw [List.range_succ]; exact (hp.cons k).trans (List.perm_append_singleton k _).symm)) hs'
    exact ⟨q, h1, by rw [List.length_cons, show k + (r.length + 1) = k + 1 + r.length by omega]; exact h2, h3⟩
theorem start_is (ns : List Int) : ∃ p : List Nat, start ns = p.map (itemOf ns) ∧ p.Perm (List.range ns.length) ∧ (p.map (itemOf ns)).Pairwise LeIt := by
  obtain ⟨q, h1, h2, h3⟩ := startGo_is ns ns 0 [] rfl (.refl _) .nil
  exact ⟨q, h1, by simpa using h2, h3⟩
-- what is counted
theorem bumpOne_get {ds : List Int} {k : Int} (hk : 0 ≤ k) {i : Nat} (hi : i < ds.length) : (bumpOne ds k).getD i 0 = ds.getD i 0 + (if (i : Int) = k then 1 else 0) := by
  unfold bumpOne
  simp only [List.getD_eq_getElem?_getD, List.getElem?_set]
  by_cases h : k.toNat = i
  · subst h
    rw [if_pos rfl, if_pos (by omega), if_pos (by omega)]; rfl
  · rw [if_neg h, if_neg (by omega)]; omega
theorem bumpOne_length (ds : List Int) (k : Int) : (bumpOne ds k).length = ds.length := by simp [bumpOne]
theorem bump_get : ∀ (ks : List Int) (ds : List Int), (∀ k ∈ ks, 0 ≤ k) → (bump ds ks).length = ds.length ∧ ∀ i : Nat, i < ds.length → (bump ds ks).getD i 0 = ds.getD i 0 + (ks.count (i : Int) : Int)
  | [], ds, _ => ⟨rfl, fun i _ => by simp [bump]⟩
  | k :: r, ds, h => by
    obtain ⟨h1, h2⟩ := bump_get r (bumpOne ds k) fun x hx => h x (.tail _ hx)
    have e : bump ds (k :: r) = bump (bumpOne ds k) r := rfl
    rw [bumpOne_length] at h1 h2
    refine ⟨by rw [e, h1], fun i hi => ?_⟩
    rw [e, h2 i hi, bumpOne_get (h k (.head _)) hi, List.count_cons]
    by_cases q : (i : Int) = k
    · simp [q]; omega
    · rw [if_neg q]
      have : (k == (i : Int)) = false := by simpa using fun z => q z.symm
      simp [this]
theorem bumps_get : ∀ (tr : List (List Int)) (ds : List Int), (∀ ks ∈ tr, ∀ k ∈ ks, 0 ≤ k) → (tr.foldl bump ds).length = ds.length ∧ ∀ i : Nat, i < ds.length → (tr.foldl bump ds).getD i 0 = ds.getD i 0 + (tr.flatten.count (i : Int) : Int)
  | [], ds, _ => ⟨rfl, fun i _ => by simp⟩
  | ks :: r, ds, h => by
    obtain ⟨a1, a2⟩ := bump_get ks ds (h ks (.head _))
    obtain ⟨h1, h2⟩ := bumps_get r (bump ds ks) fun x hx => h x (.tail _ hx)
    rw [a1] at h1 h2
    refine ⟨h1, fun i hi => ?_⟩
    rw [List.foldl_cons, h2 i hi, a2 i hi, List.flatten_cons, List.count_append]
    omega
theorem count_map_inj {f : Int → Int} {x : Int} : ∀ l : List Int, (∀ y ∈ l, f y = f x → y = x) → (l.map f).count (f x) = l.count x
  | [], _ => rfl
  | y :: r, h => by
    rw [List.map_cons, List.count_cons, List.count_cons, count_map_inj r fun z hz => h z (.tail _ hz)]
    by_cases q : y = x
    · simp [q]
    · have h1 : (f y == f x) = false := by simpa using fun z => q (h y (.head _) z)
      have h2 : (y == x) = false := by simpa using q
      simp [h1, h2]
end Mine

end
section
open PySem
namespace Mine
theorem perm_sum {l l' : List Int} (h : l.Perm l') : l.sum = l'.sum := by
  induction h with
  | nil => rfl
  | cons x _ ih => simp [ih]
  | swap x y l => simp; omega
  | trans _ _ a b => exact a.trans b
noncomputable def rowsP : Nat → Nat → List (List Int)
  | 0, _ => [[]]
  | m + 1, D => (List.range D).flatMap fun (d : Nat) => (rowsP m D).map fun r => ((1 : Int) + (d : Int)) :: r
noncomputable def kraft (D : Nat) (r : List Int) : Int := (r.map fun d => (2 : Int) ^ ((D : Int) - d).toNat).sum
noncomputable def fillP (m D : Nat) : List (List Int) := if m = 1 then [[0]] else (rowsP m D).filter fun r => kraft D r == 2 ^ D
noncomputable def dotP (ns r : List Int) : Int := ((List.range ns.length).map fun k => ns.getD k 0 * r.getD k 0).sum
theorem mem_rowsP : ∀ (m D : Nat) (r : List Int), r ∈ rowsP m D ↔ r.length = m ∧ ∀ d ∈ r, 1 ≤ d ∧ d ≤ (D : Int)
  | 0, D, r => by
    simp only [rowsP, List.mem_singleton]
    constructor
    · rintro rfl; exact ⟨rfl, fun _ h => nomatch h⟩
    · rintro ⟨h, _⟩; exact List.length_eq_zero_iff.mp h
  | m + 1, D, r => by
    simp only [rowsP, List.mem_flatMap, List.mem_range, List.mem_map]
    constructor
    · rintro ⟨d, hd, r', hr', rfl⟩
      obtain ⟨h1, h2⟩ := (mem_rowsP m D r').mp hr'
      refine ⟨by simp [h1], fun x hx => ?_⟩
      rcases List.mem_cons.mp hx with rfl | hx
      · omega
      · exact h2 x hx
    · rintro ⟨h1, h2⟩
      match r, h1 with
      | x :: r', h1 =>
        have hx := h2 x (.head _)
        refine ⟨(x - 1).toNat, by omega, r', (mem_rowsP m D r').mpr ⟨by simpa using h1, fun y hy => h2 y (.tail _ hy)⟩, ?_⟩
        rw [show (1 : Int) + ((x - 1).toNat : Int) = x by omega]
theorem map_getD_range {α : Type} (r : List α) (z : α) : (List.range r.length).map (fun k => r.getD k z) = r := by
  apply List.ext_getElem
  · simp
  · intro i h1 h2
    simp only [List.getElem_map, List.getElem_range]
    rw [List.getD_eq_getElem?_getD, List.getElem?_eq_getElem h2]; rfl
theorem fill_perm {m D : Nat} {r : List Int} {p : List Nat} (hp : p.Perm (List.range m)) (hr : r ∈ fillP m D) : p.map (fun k => r.getD k 0) ∈ fillP m D := by
  by_cases h1 : m = 1
  · subst h1
    have hp1 : p = [0] := List.perm_singleton.mp hp
    unfold fillP at hr ⊢
    rw [if_pos rfl] at hr ⊢
    rw [List.mem_singleton.mp hr, hp1]; decide
  · unfold fillP at hr ⊢
    rw [if_neg h1] at hr ⊢
    obtain ⟨h2, h3⟩ := List.mem_filter.mp hr
    obtain ⟨h4, h5⟩ := (mem_rowsP m D r).mp h2
    have hperm : (p.map fun k => r.getD k 0).Perm r := by
      have := hp.map fun k => r.getD k 0
      rw [← h4, map_getD_range] at this; exact this
    refine List.mem_filter.mpr ⟨(mem_rowsP m D _).mpr ⟨hperm.length_eq.trans h4, fun d hd => h5 d (hperm.mem_iff.mp hd)⟩, ?_⟩
    unfold kraft at h3 ⊢
    rw [perm_sum (hperm.map _)]; exact h3
-- the cases
noncomputable def posO (as : List Int) : List It := as.zipIdx.map fun x => ⟨x.1, 0, [(x.2 : Int)]⟩
noncomputable def gsOf : Nat → List (List Int)
  | 1 => [[0]]
  | 2 => [[1, 1]]
  | 3 => [[2, 2, 1]]
  | 4 => [[3, 3, 2, 1], [2, 2, 2, 2]]
  | 5 => [[4, 4, 3, 2, 1], [3, 3, 2, 2, 2], [3, 3, 3, 3, 1]]
  | _ => []
noncomputable def dot2 (as gs : List Int) : Int := (List.zipWith (· * ·) as gs).sum
structure LeafOk (n : Nat) (as gs : List Int) : Prop where
  g : gs ∈ gsOf n
  cnt : ∀ i : Nat, i < n → ((trA n (posO as)).1.flatten.count (i : Int) : Int) = gs.getD i 0
  cost : (trA n (posO as)).2 = dot2 as gs
  low : ∀ ks ∈ (trA n (posO as)).1, ∀ k ∈ ks, 0 ≤ k ∧ k < (n : Int)
  best : n ≤ 4 → ∀ r ∈ fillP n (max 1 (n - 1)), dot2 as gs ≤ dot2 as r
theorem fill_1 : fillP 1 (max 1 (1 - 1)) = [[0]] := by decide +kernel
theorem fill_2 : fillP 2 (max 1 (2 - 1)) = [[1, 1]] := by decide +kernel
theorem fill_3 : fillP 3 (max 1 (3 - 1)) = [[1, 2, 2], [2, 1, 2], [2, 2, 1]] := by decide +kernel
theorem fill_4 : fillP 4 (max 1 (4 - 1)) = [[1, 2, 3, 3], [1, 3, 2, 3], [1, 3, 3, 2], [2, 1, 3, 3], [2, 2, 2, 2], [2, 3, 1, 3], [2, 3, 3, 1], [3, 1, 2, 3], [3, 1, 3, 2], [3, 2, 1, 3], [3, 2, 3, 1], [3, 3, 1, 2], [3, 3, 2, 1]] := by decide +kernel
theorem leaf1 (a : Int) : LeafOk 1 [a] [0] := by
  constructor
  · decide
  · simp only [posO, trA, List.zipIdx, List.map, List.flatten]; decide
  · simp [posO, trA, dot2]
  · simp [posO, trA]
  · intro _ r hr; rw [fill_1] at hr; rw [List.mem_singleton.mp hr]; exact Int.le_refl _
theorem leaf2 (a b : Int) : LeafOk 2 [a, b] [1, 1] := by
  constructor
  · decide
  · simp only [posO, trA, insA, List.zipIdx, List.map, List.cons_append, List.nil_append, List.flatten]; decide
  · simp [posO, trA, dot2, insA]
  · simp [posO, trA, insA]
  · intro _ r hr; rw [fill_2] at hr; rw [List.mem_singleton.mp hr]; exact Int.le_refl _
theorem leaf3 {a b c : Int} (h0 : 1 ≤ a) (h1 : a ≤ b) (h2 : b ≤ c) : LeafOk 3 [a, b, c] [2, 2, 1] := by
  have best : 3 ≤ 4 → ∀ r ∈ fillP 3 (max 1 (3 - 1)), dot2 [a, b, c] [2, 2, 1] ≤ dot2 [a, b, c] r := by
    intro _ r hr
    rw [fill_3] at hr
    simp only [List.mem_cons, List.not_mem_nil, or_false] at hr
    rcases hr with rfl | rfl | rfl <;> (simp only [dot2, List.zipWith, List.sum_cons, List.sum_nil]; omega)
  by_cases q : c ≤ a + b
  all_goals
    refine ⟨by decide, ?_, ?_, ?_, best⟩
    · simp only [posO, trA, insA, q, if_true, if_false, List.zipIdx, List.map, List.cons_append, List.nil_append, List.flatten]; decide
    · simp only [posO, trA, insA, q, if_true, if_false, List.zipIdx, List.map, List.cons_append, List.nil_append, List.flatten, dot2, List.zipWith, List.sum_cons, List.sum_nil]; omega
    · simp [posO, trA, insA, q]
theorem trA_ite {c : Prop} [Decidable c] (n : Nat) (x y : List It) : trA n (if c then x else y) = if c then trA n x else trA n y := by split <;> rfl
theorem insA_ite {c : Prop} [Decidable c] (z : It) (x y : List It) : insA (if c then x else y) z = if c then insA x z else insA y z := by split <;> rfl
theorem cons_ite {c : Prop} [Decidable c] (z : It) (x y : List It) : z :: (if c then x else y) = if c then z :: x else z :: y := by split <;> rfl
structure Leaf4 (a b c d : Int) (t : List (List Int) × Int) (gs : List Int) : Prop where
  g : gs ∈ gsOf 4
  cnt : ∀ i : Nat, i < 4 → (t.1.flatten.count (i : Int) : Int) = gs.getD i 0
  cost : t.2 = dot2 [a, b, c, d] gs
  low : ∀ ks ∈ t.1, ∀ k ∈ ks, 0 ≤ k ∧ k < (4 : Int)
  best : ∀ r ∈ fillP 4 (max 1 (4 - 1)), dot2 [a, b, c, d] gs ≤ dot2 [a, b, c, d] r
theorem leaf4 {a b c d : Int} (h0 : 1 ≤ a) (h1 : a ≤ b) (h2 : b ≤ c) (h3 : c ≤ d) : ∃ gs, LeafOk 4 [a, b, c, d] gs := by
  suffices H : ∃ gs, Leaf4 a b c d (trA 4 (posO [a, b, c, d])) gs by
    obtain ⟨gs, x⟩ := H
    exact ⟨gs, x.g, x.cnt, x.cost, x.low, fun _ => x.best⟩
  simp only [posO, List.zipIdx, List.map]
  simp only [trA, insA, List.cons_append, List.nil_append, Nat.zero_add, Nat.reduceAdd, trA_ite, insA_ite, cons_ite]
  repeat' split
  all_goals first
    | (exfalso; omega)
    | (refine ⟨[3, 3, 2, 1], by decide, by (dsimp only; decide), by (simp only [dot2, List.zipWith, List.sum_cons, List.sum_nil]; omega), by (dsimp only; decide), ?_⟩
       intro r hr; rw [fill_4] at hr; simp only [List.mem_cons, List.not_mem_nil, or_false] at hr
       rcases hr with rfl | rfl | rfl | rfl | rfl | rfl | rfl | rfl | rfl | rfl | rfl | rfl | rfl <;> (simp only [dot2, List.zipWith, List.sum_cons, List.sum_nil]; omega))
    | (refine ⟨[2, 2, 2, 2], by decide, by (dsimp only; decide), by (simp only [dot2, List.zipWith, List.sum_cons, List.sum_nil]; omega), by (dsimp only; decide), ?_⟩
       intro r hr; rw [fill_4] at hr; simp only [List.mem_cons, List.not_mem_nil, or_false] at hr
       rcases hr with rfl | rfl | rfl | rfl | rfl | rfl | rfl | rfl | rfl | rfl | rfl | rfl | rfl <;> (simp only [dot2, List.zipWith, List.sum_cons, List.sum_nil]; omega))
structure Leaf5 (a b c d e : Int) (t : List (List Int) × Int) (gs : List Int) : Prop where
  g : gs ∈ gsOf 5
  cnt : ∀ i : Nat, i < 5 → (t.1.flatten.count (i : Int) : Int) = gs.getD i 0
  cost : t.2 = dot2 [a, b, c, d, e] gs
  low : ∀ ks ∈ t.1, ∀ k ∈ ks, 0 ≤ k ∧ k < (5 : Int)
theorem leaf5 {a b c d e : Int} (h0 : 1 ≤ a) (h1 : a ≤ b) (h2 : b ≤ c) (h3 : c ≤ d) (h4 : d ≤ e) : ∃ gs, LeafOk 5 [a, b, c, d, e] gs := by
  suffices H : ∃ gs, Leaf5 a b c d e (trA 5 (posO [a, b, c, d, e])) gs by
    obtain ⟨gs, x⟩ := H
    exact ⟨gs, x.g, x.cnt, x.cost, x.low, fun q => absurd q (by decide)⟩
  simp only [posO, List.zipIdx, List.map]
  simp only [trA, insA, List.cons_append, List.nil_append, Nat.zero_add, Nat.reduceAdd, trA_ite, insA_ite, cons_ite]
  repeat' split
  all_goals first
    | (exfalso; omega)
    | exact ⟨[4, 4, 3, 2, 1], by decide, by (dsimp only; decide), by (simp only [dot2, List.zipWith, List.sum_cons, List.sum_nil]; omega), by (dsimp only; decide)⟩
    | exact ⟨[3, 3, 2, 2, 2], by decide, by (dsimp only; decide), by (simp only [dot2, List.zipWith, List.sum_cons, List.sum_nil]; omega), by (dsimp only; decide)⟩
    | exact ⟨[3, 3, 3, 3, 1], by decide, by (dsimp only; decide), by (simp only [dot2, List.zipWith, List.sum_cons, List.sum_nil]; omega), by (dsimp only; decide)⟩
end Mine

end
section
open PySem
namespace Mine
theorem fill_perm' {m D : Nat} {r r' : List Int} (h : r'.Perm r) (hr : r ∈ fillP m D) : r' ∈ fillP m D := by
  unfold fillP at hr ⊢
  by_cases h1 : m = 1
  · rw [if_pos h1] at hr ⊢
    rw [List.mem_singleton.mp hr] at h
    rw [List.perm_singleton.mp h]; exact List.mem_singleton.mpr rfl
  · rw [if_neg h1] at hr ⊢
    obtain ⟨h2, h3⟩ := List.mem_filter.mp hr
    obtain ⟨h4, h5⟩ := (mem_rowsP m D r).mp h2
    refine List.mem_filter.mpr ⟨(mem_rowsP m D _).mpr ⟨h.length_eq.trans h4, fun d hd => h5 d (h.mem_iff.mp hd)⟩, ?_⟩
    unfold kraft at h3 ⊢
    rw [perm_sum (h.map _)]; exact h3
theorem gs_fill : ∀ n : Nat, n < 5 → ∀ gs ∈ gsOf n, gs ∈ fillP n (max 1 (n - 1)) := by decide +kernel
theorem gs_len : ∀ n : Nat, n < 6 → ∀ gs ∈ gsOf n, gs.length = n := by decide +kernel
theorem gs_down : ∀ n : Nat, n < 6 → ∀ gs ∈ gsOf n, ∀ i : Nat, i < 5 → ∀ j : Nat, j < 5 → i < j → j < n → gs.getD j 0 ≤ gs.getD i 0 := by decide +kernel
theorem leaf_all {as : List Int} (hs : as.Pairwise (· ≤ ·)) (h1 : 1 ≤ as.length) (h5 : as.length ≤ 5) (hw : ∀ w ∈ as, 1 ≤ w) : ∃ gs, LeafOk as.length as gs := by
  match as, h1, h5 with
  | [a], _, _ => exact ⟨_, leaf1 a⟩
  | [a, b], _, _ => exact ⟨_, leaf2 a b⟩
  | [a, b, c], _, _ =>
    simp only [List.pairwise_cons, List.mem_cons, List.not_mem_nil, or_false, forall_eq_or_imp, forall_eq] at hs hw
    exact ⟨_, leaf3 hw.1 hs.1.1 hs.2.1⟩
  | [a, b, c, d], _, _ =>
    simp only [List.pairwise_cons, List.mem_cons, List.not_mem_nil, or_false, forall_eq_or_imp, forall_eq] at hs hw
    exact leaf4 hw.1 hs.1.1 hs.2.1.1 hs.2.2.1
  | [a, b, c, d, e], _, _ =>
    simp only [List.pairwise_cons, List.mem_cons, List.not_mem_nil, or_false, forall_eq_or_imp, forall_eq] at hs hw
    exact leaf5 hw.1 hs.1.1 hs.2.1.1 hs.2.2.1.1 hs.2.2.2.1
structure HufOk (ns ds : List Int) (cost : Int) : Prop where
  len : ds.length = ns.length
  gs : ∃ gs ∈ gsOf ns.length, ds.Perm gs
  hcost : cost = dotP ns ds
  mono : ∀ j k : Nat, j < ns.length → k < ns.length → ns.getD j 0 > ns.getD k 0 → ¬ ds.getD j 0 > ds.getD k 0
  best : ns.length ≤ 4 → (∀ r ∈ fillP ns.length (max 1 (ns.length - 1)), cost ≤ dotP ns r) ∧ ∃ r ∈ fillP ns.length (max 1 (ns.length - 1)), cost = dotP ns r
theorem dot_map (f g : Nat → Int) : ∀ p : List Nat, dot2 (p.map f) (p.map g) = (p.map fun k => f k * g k).sum
  | [] => rfl
  | k :: r => by
    have := dot_map f g r
    simp only [dot2] at this ⊢
    simp [this]
theorem pos_rel (ns : List Int) (f : Int → Int) : ∀ (p : List Nat) (k : Nat), (∀ i, i < p.length → f ((k + i : Nat) : Int) = ((p.getD i 0 : Nat) : Int)) →
    (p.map (itemOf ns)).map noTag = (((p.map fun k => ns.getD k 0).zipIdx k).map fun x => (⟨x.1, 0, [(x.2 : Int)]⟩ : It)).map (rel f)
  | [], _, _ => rfl
  | x :: r, k, h => by
    have h0 := h 0 (by simp)
    simp only [Nat.add_zero, List.getD_cons_zero] at h0
    simp only [List.map_cons, List.zipIdx_cons]
    rw [pos_rel ns f r (k + 1) fun i hi => by
      have := h (i + 1) (by simpa using hi)
      rw [show k + 1 + i = k + (i + 1) by omega, this]; rfl]
    congr 1
    simp [noTag, itemOf, rel, h0]
theorem getD_mem {p : List Nat} {i : Nat} (h : i < p.length) : p.getD i 0 ∈ p := by
  rw [List.getD_eq_getElem?_getD, List.getElem?_eq_getElem h]; exact List.getElem_mem h
theorem huf_good {ns : List Int} (h1 : 1 ≤ ns.length) (h5 : ns.length ≤ 5) (hw : ∀ w ∈ ns, 1 ≤ w) : HufOk ns (huf ns).1 (huf ns).2 := by
  obtain ⟨p, hst, hp, hs⟩ := start_is ns
  have hpl : p.length = ns.length := by rw [hp.length_eq]; simp
  have hlt : ∀ k ∈ p, k < ns.length := fun k hk => List.mem_range.mp (hp.mem_iff.mp hk)
  have hnd : p.Nodup := hp.nodup_iff.mpr List.nodup_range
  have hwk : ∀ k, k < ns.length → 1 ≤ ns.getD k 0 := fun k hk => by
    rw [List.getD_eq_getElem?_getD, List.getElem?_eq_getElem hk]; exact hw _ (List.getElem_mem hk)
  -- the sorted weights
  have has : (p.map fun k => ns.getD k 0).Pairwise (· ≤ ·) := by
    rw [List.pairwise_map] at hs ⊢
    exact hs.imp fun {a b} h => by unfold LeIt itemOf at h; simp only at h; omega
  obtain ⟨gs, ok⟩ := leaf_all has (by simp; omega) (by simp; omega) (fun w hw' => by
    obtain ⟨k, hk, rfl⟩ := List.mem_map.mp hw'
    exact hwk k (hlt k hk))
  rw [show (p.map fun k => ns.getD k 0).length = ns.length by simp [hpl]] at ok
  -- the run
  have hf : ∀ i, i < p.length → (fun x : Int => ((p.getD x.toNat 0 : Nat) : Int)) ((0 + i : Nat) : Int) = ((p.getD i 0 : Nat) : Int) := fun i _ => by simp
  have hrel := pos_rel ns (fun x : Int => ((p.getD x.toNat 0 : Nat) : Int)) p 0 hf
  have hrun := hRun_tr ns.length (p.map (itemOf ns)) (List.replicate ns.length 0) 0 hs (fun x hx => by
    obtain ⟨k, hk, rfl⟩ := List.mem_map.mp hx
    have := hlt k hk
    have := hwk k this
    unfold itemOf; simp only; omega) (Int.le_refl _)
  rw [hrel] at hrun
  rw [show (((p.map fun k => ns.getD k 0).zipIdx 0).map fun x => (⟨x.1, 0, [(x.2 : Int)]⟩ : It)) = posO (p.map fun k => ns.getD k 0) from rfl, trA_rel] at hrun
  rw [← hst] at hrun
  obtain ⟨hds, hcost⟩ := hrun
  have hds' : (huf ns).1 = _ := hds
  have hcost' : (huf ns).2 = _ := hcost
  generalize (huf ns).1 = ds at hds' ⊢
  generalize (huf ns).2 = cost at hcost' ⊢
  clear hds hcost
  simp only [Int.zero_add] at hcost' hds'
  -- the depths
  have hget := bumps_get ((trA ns.length (posO (p.map fun k => ns.getD k 0))).1.map (List.map fun x : Int => ((p.getD x.toNat 0 : Nat) : Int))) (List.replicate ns.length 0) (fun ks hks k hk => by
    obtain ⟨ks', _, rfl⟩ := List.mem_map.mp hks
    obtain ⟨x, _, rfl⟩ := List.mem_map.mp hk
    omega)
  rw [← hds'] at hget
  obtain ⟨hlen, hget⟩ := hget
  rw [List.length_replicate] at hlen hget
  have hg : ∀ i, i < ns.length → ds.getD (p.getD i 0) 0 = gs.getD i 0 := by
    intro i hi
    have hpi := hlt _ (getD_mem (p := p) (i := i) (by omega))
    rw [hget _ hpi, ← ok.cnt i hi]
    have e0 : (List.replicate ns.length (0 : Int)).getD (p.getD i 0) 0 = 0 := by
      rw [List.getD_eq_getElem?_getD, List.getElem?_replicate]; split <;> rfl
    rw [e0, Int.zero_add, ← List.map_flatten]
    have := count_map_inj (f := fun x : Int => ((p.getD x.toNat 0 : Nat) : Int)) (x := (i : Int)) (trA ns.length (posO (p.map fun k => ns.getD k 0))).1.flatten (fun y hy he => by
      obtain ⟨ks, hks, hy⟩ := List.mem_flatten.mp hy
      have hb := ok.low ks hks y hy
      simp only [Int.toNat_natCast] at he
      have he' : p.getD y.toNat 0 = p.getD i 0 := by exact_mod_cast he
      rw [List.getD_eq_getElem?_getD, List.getD_eq_getElem?_getD, List.getElem?_eq_getElem (show y.toNat < p.length by omega), List.getElem?_eq_getElem (show i < p.length by omega)] at he'
      have he2 : p[y.toNat]'(by omega) = p[i]'(by omega) := he'
      rcases Nat.lt_trichotomy y.toNat i with h | h | h
      · exact absurd he2 (List.pairwise_iff_getElem.mp hnd _ _ (by omega) (by omega) h)
      · omega
      · exact absurd he2.symm (List.pairwise_iff_getElem.mp hnd _ _ (by omega) (by omega) h))
    simp only [Int.toNat_natCast] at this
    rw [this]
  have hgl : gs.length = ns.length := gs_len _ (by omega) gs ok.g
  have hmap : (p.map fun k => ds.getD k 0) = gs := by
    apply List.ext_getElem
    · simp [hpl, hgl]
    · intro i a b
      have := hg i (by omega)
      rw [List.getD_eq_getElem?_getD (l := p), List.getElem?_eq_getElem (show i < p.length by omega), List.getD_eq_getElem?_getD (l := gs), List.getElem?_eq_getElem b] at this
      simpa using this
  have hrange : ∀ f : Nat → Int, ((List.range ns.length).map f).sum = (p.map f).sum := fun f => (perm_sum (hp.map f)).symm
  have hc : cost = dotP ns ds := by
    rw [hcost', ok.cost, ← hmap, dot_map, dotP, hrange]
  have hperm : ds.Perm gs := by
    have := hp.map fun k => ds.getD k 0
    rw [hmap, ← hlen, map_getD_range] at this
    exact this.symm
  refine ⟨hlen, ⟨gs, ok.g, hperm⟩, hc, fun j k hj hk hjk hd => ?_, fun h4 => ⟨fun r hr => ?_, ds, fill_perm' hperm (gs_fill _ (by omega) gs ok.g), hc⟩⟩
  · obtain ⟨i, hi, rfl⟩ := List.getElem_of_mem (hp.mem_iff.mpr (List.mem_range.mpr hj))
    obtain ⟨i', hi', rfl⟩ := List.getElem_of_mem (hp.mem_iff.mpr (List.mem_range.mpr hk))
    have e1 := hg i (by omega)
    have e2 := hg i' (by omega)
    rw [List.getD_eq_getElem?_getD (l := p), List.getElem?_eq_getElem hi] at e1
    rw [List.getD_eq_getElem?_getD (l := p), List.getElem?_eq_getElem hi'] at e2
    simp only [Option.getD_some] at e1 e2
    have hlt' : i' < i := by
      rcases Nat.lt_or_ge i' i with h | h
      · exact h
      · rcases Nat.lt_or_eq_of_le h with h | h
        · have := List.pairwise_iff_getElem.mp has i i' (by simpa using hi) (by simpa using hi') h
          simp only [List.getElem_map] at this
          omega
        · subst h; omega
    have := gs_down _ (by omega) gs ok.g i' (by omega) i (by omega) hlt' (by omega)
    omega
  · rw [hcost', ok.cost]
    have := ok.best h4 _ (fill_perm hp hr)
    rw [dot_map (fun k => ns.getD k 0) (fun k => r.getD k 0)] at this
    rw [dotP, hrange]; exact this
end Mine

end
section
open PySem
namespace Mine
structure HufP (n : Nat) (fin : HSt) (order : List It) (ds : List Int) (cost : Int) : Prop where
  run : hRun order.length ⟨order, ds, cost⟩ = fin
  len : order.length ≤ n
  dl : ds.length = n
  tags : ∀ x ∈ order, x.tag ≤ 100 + cost ∧ 1 ≤ x.w ∧ x.mem ≠ [] ∧ ∀ k ∈ x.mem, 0 ≤ k ∧ k < (n : Int)
  c0 : 0 ≤ cost
  ml : (order.map fun x => x.mem.length).sum ≤ n
theorem nat_perm_sum {l l' : List Nat} (h : l.Perm l') : l.sum = l'.sum := by
  induction h with
  | nil => rfl
  | cons x _ ih => simp [ih]
  | swap x y l => simp; omega
  | trans _ _ a b => exact a.trans b
theorem bump_length' (ds ks : List Int) : (bump ds ks).length = ds.length := by
  unfold bump
  induction ks generalizing ds with
  | nil => rfl
  | cons k r ih => rw [List.foldl_cons, ih, bumpOne_length]
theorem HufP.turn {n : Nat} {fin : HSt} {x y : It} {ro : List It} {ds : List Int} {cost : Int} (h : HufP n fin (x :: y :: ro) ds cost) :
    HufP n fin (insH ro ⟨x.w + y.w, 100 + (cost + x.w + y.w), x.mem ++ y.mem⟩) (bump ds (x.mem ++ y.mem)) (cost + x.w + y.w) := by
  have hx := h.tags x (.head _)
  have hy := h.tags y (.tail _ (.head _))
  have hl := h.len
  have hc := h.c0
  refine ⟨?_, ?_, ?_, ?_, by omega, ?_⟩
  · rw [insH_length]
    have := h.run
    simp only [List.length_cons, hRun, hTurn] at this
    exact this
  · rw [insH_length]; simp at hl; omega
  · rw [bump_length']; exact h.dl
  · intro z hz
    rcases List.mem_cons.mp ((insH_perm _ _).mem_iff.mp hz) with rfl | hz
    · refine ⟨Int.le_refl _, by show 1 ≤ x.w + y.w; omega, by simp [hx.2.2.1], fun k hk => ?_⟩
      rcases List.mem_append.mp hk with hk | hk
      · exact hx.2.2.2 k hk
      · exact hy.2.2.2 k hk
    · have := h.tags z (.tail _ (.tail _ hz))
      exact ⟨by omega, this.2⟩
  · have := h.ml
    rw [nat_perm_sum ((insH_perm ro ⟨x.w + y.w, 100 + (cost + x.w + y.w), x.mem ++ y.mem⟩).map fun x => x.mem.length)]
    simp only [List.map_cons, List.sum_cons, List.length_append] at this ⊢
    omega
theorem HufP.done {n : Nat} {fin : HSt} {order : List It} {ds : List Int} {cost : Int} (h : HufP n fin order ds cost) (hl : order.length ≤ 1) : fin = ⟨order, ds, cost⟩ := by
  rw [← h.run]
  match order, hl with
  | [], _ => rfl
  | [a], _ => rfl
/-- the first k items, laid in order -/
noncomputable def startN (ns : List Int) (k : Nat) : List It := startGo 0 (ns.take k) []
theorem startGo_snoc (w : Int) : ∀ (r : List Int) (k : Nat) (o : List It), startGo k (r ++ [w]) o = insH (startGo k r o) ⟨w, ((k + r.length : Nat) : Int), [((k + r.length : Nat) : Int)]⟩
  | [], k, o => rfl
  | v :: r, k, o => by
    simp only [List.cons_append, startGo]
    rw [startGo_snoc w r (k + 1)]
    rw [List.length_cons, show k + 1 + r.length = k + (r.length + 1) by omega]
theorem startN_succ {ns : List Int} {k : Nat} {w : Int} (h : ns[k]? = some w) : startN ns (k + 1) = insH (startN ns k) ⟨w, (k : Int), [(k : Int)]⟩ := by
  obtain ⟨hk, _⟩ := List.getElem?_eq_some_iff.mp h
  unfold startN
  rw [List.take_add_one, h]
  show startGo 0 (ns.take k ++ [w]) [] = _
  rw [startGo_snoc, List.length_take, Nat.min_eq_left (Nat.le_of_lt hk), Nat.zero_add]
theorem startN_all (ns : List Int) : startN ns ns.length = start ns := by unfold startN start; rw [List.take_length]
theorem startN_facts (ns : List Int) : ∀ k : Nat, k ≤ ns.length → (startN ns k).length = k ∧ (∀ y ∈ startN ns k, 0 ≤ y.tag ∧ y.tag < (k : Int) ∧ y.mem = [y.tag] ∧ y.w ∈ ns) ∧ ((startN ns k).map fun x => x.mem.length).sum = k
  | 0, _ => ⟨rfl, fun _ h => (nomatch h), rfl⟩
  | k + 1, h => by
    obtain ⟨h1, h2, h3⟩ := startN_facts ns k (by omega)
    rw [startN_succ (List.getElem?_eq_getElem (show k < ns.length by omega))]
    refine ⟨by rw [insH_length, h1], fun y hy => ?_, ?_⟩
    · rcases List.mem_cons.mp ((insH_perm _ _).mem_iff.mp hy) with rfl | hy
      · exact ⟨by show (0 : Int) ≤ (k : Int); omega, by show (k : Int) < _; omega, rfl, List.getElem_mem _⟩
      · obtain ⟨a, b, c, d⟩ := h2 y hy
        exact ⟨a, by omega, c, d⟩
    · rw [nat_perm_sum ((insH_perm _ _).map fun x => x.mem.length)]
      simp [h3]; omega
theorem hufP_start {ns : List Int} (hw : ∀ w ∈ ns, 1 ≤ w) (h5 : ns.length ≤ 5) : HufP ns.length (hRun ns.length ⟨start ns, List.replicate ns.length 0, 0⟩) (start ns) (List.replicate ns.length 0) 0 := by
  obtain ⟨h1, h2, h3⟩ := startN_facts ns ns.length (Nat.le_refl _)
  rw [startN_all] at h1 h2 h3
  refine ⟨by rw [h1], by omega, by simp, fun x hx => ?_, Int.le_refl _, by omega⟩
  obtain ⟨a, b, c, d⟩ := h2 x hx
  refine ⟨by omega, hw _ d, by rw [c]; simp, fun k hk => ?_⟩
  rw [c] at hk
  rw [List.mem_singleton.mp hk]; exact ⟨a, b⟩
end Mine

end
section
open PySem PySem.W PySem.Spec PySem.Calls PyProof.Rows
namespace Mine
section
variable {prog : Program} {w : World} {A : Around} {E : Value → Shared → Prop} {s : Shared} {Q : Value → Shared → Prop}
theorem lt_tup_tree {a b : Addr} {oa ob : Obj} {w1 w2 g1 g2 : Int} {t1 t2 u1 u2 : Tok} {m1 m2 : Value} {na nb : Nat} {P : Fin → Shared → Prop} {A : Around}
    (ha : s.heap.get? a = some oa) (da : oa.data = .seq #[.int w1 t1, .int g1 u1, m1] na) (hb : s.heap.get? b = some ob) (cb : ob.cls = .type "tuple") (db : ob.data = .seq #[.int w2 t2, .int g2 u2, m2] nb)
    (hne : ¬ (w1 = w2 ∧ g1 = g2)) (h : P (.done (.ret (.bool (decide (w1 < w2) || (decide (w1 = w2) && decide (g1 < g2)))))) s) :
    wpAny (model prog w) A (Builtin.«tuple.__lt__» ⟨[.ref a, .ref b], []⟩) P E s := by
  show wpAny _ _ (isInstance (.ref b) (.type "tuple") >>= _) _ _ s
  refine wpAny_bind (wpAny_isInstance (show s.TypeIs (.ref b) "tuple" from ⟨ob, hb, cb⟩) isSubtype_tuple_tuple ?_)
  simp only [Bool.not_true, Bool.false_eq_true, if_false]
  refine wpAny_bind (wpAny_tupleItemsOf ha da ?_)
  refine wpAny_bind (wpAny_tupleItemsOf hb db ?_)
  refine wpAny_bind ?_
  simp only [List.zip_cons_cons, List.zip_nil_right, List.forIn_cons]
  refine wpAny_bind (wpAny_bind (wpAny_eqBool_int ?_))
  by_cases hw : w1 = w2
  · subst hw
    simp only [beq_self_eq_true, Bool.not_true, Bool.false_eq_true, if_false]
    refine wpAny_pure ?_
    refine wpAny_bind (wpAny_bind (wpAny_eqBool_int ?_))
    have hg : ¬ g1 = g2 := fun e => hne ⟨rfl, e⟩
    have e : (g1 == g2) = false := by simpa using hg
    rw [e]
    simp only [Bool.not_false, if_true]
    refine wpAny_bind (wpAny_rule (wpAny_bind (PyProof.Rows.lt_int (wpAny_bind (wpAny_pure (wpAny_pure (wpAny_pure (wpAny_pure ?_))))))))
    simpa using h
  · have e : (w1 == w2) = false := by simpa using hw
    rw [e]
    simp only [Bool.not_false, if_true]
    refine wpAny_bind (wpAny_rule (wpAny_bind (PyProof.Rows.lt_int (wpAny_bind (wpAny_pure (wpAny_pure (wpAny_pure (wpAny_pure ?_))))))))
    simpa [hw] using h
theorem lt_tup {a b : Addr} {oa ob : Obj} {w1 w2 g1 g2 : Int} {t1 t2 u1 u2 : Tok} {m1 m2 : Value} {na nb : Nat} (hu : A.units < cLine)
    (ha : s.heap.get? a = some oa) (ca : oa.cls = .type "tuple") (da : oa.data = .seq #[.int w1 t1, .int g1 u1, m1] na) (hb : s.heap.get? b = some ob) (cb : ob.cls = .type "tuple") (db : ob.data = .seq #[.int w2 t2, .int g2 u2, m2] nb)
    (hne : ¬ (w1 = w2 ∧ g1 = g2)) (h : Q (.bool (decide (w1 < w2) || (decide (w1 = w2) && decide (g1 < g2)))) s) :
    wpAny (model prog w) A (compareOp .Lt (.ref a) (.ref b)) Q E s := by
  refine cmp_ofLt ?_
  exact wpAny_richCompare_same_room (op := .Lt) (show s.TypeIs (.ref a) "tuple" from ⟨oa, ha, ca⟩) (show s.TypeIs (.ref b) "tuple" from ⟨ob, hb, cb⟩) F.slot_tuple_lt
    (wpAny_call_entry F.slot_tuple_lt (show s.TypeIs (.ref a) "tuple" from ⟨oa, ha, ca⟩) F.entry_tuple_lt (lt_tup_tree ha da hb cb db hne ⟨_, rfl, (fun e => nomatch e), h⟩) (F.args_tuple_lt_2 _ _)) hu
end
end Mine

end
section
open PySem PySem.W PySem.Spec PySem.Calls PyProof.Rows
namespace Mine
noncomputable abbrev tupO (vs : Array Value) : Obj := { cls := .type "tuple", data := .seq vs }
noncomputable def ItIn (own : List (Addr × Obj)) (v : Value) (x : It) : Prop :=
  ∃ T M us tw tg, v = .ref T ∧ (T, tupO [Value.int x.w tw, Value.int x.tag tg, Value.ref M].toArray) ∈ own ∧ (M, tupO us.toArray) ∈ own ∧ IntsAre us x.mem
inductive ItsIn (own : List (Addr × Obj)) : List Value → List It → Prop
  | nil : ItsIn own [] []
  | cons {v : Value} {x : It} {vs : List Value} {xs : List It} : ItIn own v x → ItsIn own vs xs → ItsIn own (v :: vs) (x :: xs)
theorem ItIn.mono {own own' : List (Addr × Obj)} {v : Value} {x : It} (h : ItIn own v x) (hs : ∀ p ∈ own, p ∈ own') : ItIn own' v x := by
  refine shut fun hG => ?_
  obtain ⟨T, M, us, tw, tg, e, h1, h2, h3⟩ := h
  refine hG ?_
  clear hG
  exact ⟨T, M, us, tw, tg, e, hs _ h1, hs _ h2, h3⟩
theorem ItsIn.mono {own own' : List (Addr × Obj)} {vs : List Value} {xs : List It} (h : ItsIn own vs xs) (hs : ∀ p ∈ own, p ∈ own') : ItsIn own' vs xs := by
  induction h with
  | nil => exact .nil
  | cons a _ ih => exact .cons (a.mono hs) ih
theorem ItsIn.length {own : List (Addr × Obj)} {vs : List Value} {xs : List It} (h : ItsIn own vs xs) : vs.length = xs.length := by
  induction h with
  | nil => rfl
  | cons _ _ ih => simp [ih]
theorem ItsIn.ins {own : List (Addr × Obj)} {vs : List Value} {xs : List It} (h : ItsIn own vs xs) {v : Value} {x : It} (hx : ItIn own v x) (k : Nat) : ItsIn own (insAt vs k v) (insAt xs k x) := by
  unfold insAt
  induction h generalizing k with
  | nil => simpa using ItsIn.cons hx .nil
  | cons a r ih =>
    cases k with
    | zero => exact .cons hx (.cons a r)
    | succ k => exact .cons a (ih k)
theorem ItsIn.get {own : List (Addr × Obj)} {vs : List Value} {xs : List It} (h : ItsIn own vs xs) : ∀ {k : Nat} {u : Value}, vs[k]? = some u → ItIn own u (xs.getD k it0) ∧ xs.getD k it0 ∈ xs := by
  induction h with
  | nil => intro k u e; simp at e
  | cons a r ih =>
    intro k u e
    cases k with
    | zero => simp at e; subst e; exact ⟨a, .head _⟩
    | succ k =>
      obtain ⟨h1, h2⟩ := ih (k := k) (u := u) (by simpa using e)
      exact ⟨h1, .tail _ h2⟩
theorem its_lt {prog : Program} {w : World} {h₀ h : Heap} {L : Addr} {news own : List (Addr × Obj)} {vs : List Value} {xs : List It} {v : Value} {x : It} (N : News h₀ L h news) (hs : ∀ p ∈ own, p ∈ news) (hI : ItsIn own vs xs) (hx : ItIn own v x)
    (hne : ∀ y ∈ xs, y.tag < x.tag) : ∀ k u, vs[k]? = some u → LtIs prog w h u v ((fun k => ltIt (xs.getD k it0) x) k) := by
  intro k u e A Q E s hk hu hh hq
  refine shut fun hG => ?_
  obtain ⟨⟨T, M, us, tw, tg, rfl, g1, _, _⟩, hm⟩ := hI.get e
  refine hG ?_
  clear hG
  refine shut fun hG => ?_
  obtain ⟨T', M', us', tw', tg', rfl, g1', _, _⟩ := hx
  refine hG ?_
  clear hG
  have := hne _ hm
  exact lt_tup (by omega) (hk _ _ (N _ (hs _ g1)).1) rfl rfl (hk _ _ (N _ (hs _ g1')).1) rfl rfl (fun q => by omega) hq
-- a loop over written items, by what stands between its turns
section
variable {prog : Program} {w : World} {A : Around} {E : Value → Shared → Prop} {s : Shared} {env : Env} {h₀ : Heap} {target : Expr} {body : List Stmt} {Q : Flow → Shared → Prop}
theorem items_run {ws : List (Addr × String)} {keep : List (Addr × Obj)} {xs : List Itm} {m₀ : Str → Option Value} {news : List (Addr × Obj)} (St : Nat → (Str → Option Value) → List (Addr × Obj) → Prop) (h0 : St 0 m₀ news)
    (step : ∀ i a m nx v h tk, xs[i]? = some a → St i m nx → a.Is v h → Fr h₀ env.locals h m → AllObj ws (fun its => News h₀ env.locals h (its ++ nx) →
      wpAny (model prog w) A (assign target env v) (fun _ s₂ => wpAny (model prog w) A (execs body env) (UnrPostW h₀ env.locals { s with heap := h, toks := tk } its (fun m' n' => SubL keep n' ∧ St (i + 1) m' n') Q) E s₂) E { s with heap := h, toks := tk }))
    (fin : ∀ m nx h tk, St xs.length m nx → Fr h₀ env.locals h m → News h₀ env.locals h nx → Q .next { s with heap := h, toks := tk }) :
    ItemsRest prog w A E h₀ env target body Q s ws keep xs m₀ news := by
  suffices H : ∀ (r : List Itm) (i : Nat) m nx, xs.drop i = r → i + r.length = xs.length → St i m nx → ItemsRest prog w A E h₀ env target body Q s ws keep r m nx from H xs 0 m₀ news rfl (by omega) h0
  intro r
  induction r with
  | nil =>
    intro i m nx hd hl hS h tk F N
    exact fin m nx h tk (by rw [← hl]; exact hS) F N
  | cons a r ih =>
    intro i m nx hd hl hS v h tk hv F
    have hi : i < xs.length := by simp at hl; omega
    rw [List.drop_eq_getElem_cons hi] at hd
    obtain ⟨ha, hr⟩ := List.cons.inj hd
    have st := step i a m nx v h tk (by rw [List.getElem?_eq_getElem hi, ha]) hS hv F
    clear hv
    have all : ∀ {ws : List (Addr × String)} {k k' : List (Addr × Obj) → Prop}, (∀ its, k its → k' its) → AllObj ws k → AllObj ws k' := by
      intro ws
      induction ws with
      | nil => intro k k' hk h; exact hk _ h
      | cons w r ih => intro k k' hk h o ho; exact ih (fun its => hk _) (h o ho)
    refine all (fun its h1 N1 => wpAny_mono (h1 N1) (fun _ s₂ h2 => wpAny_mono h2 (fun f s₃ p => ?_) fun _ _ e => e) fun _ _ e => e) st
    have go : UnrEndW h₀ env.locals { s with heap := h, toks := tk } its (fun m' n' => SubL keep n' ∧ St (i + 1) m' n') s₃ →
        UnrEndW h₀ env.locals { s with heap := h, toks := tk } its (fun m' n' => SubL keep n' ∧ ItemsRest prog w A E h₀ env target body Q s ws keep r m' n') s₃ := by
      intro hq1
      refine shut fun hG => ?_
      obtain ⟨h', tk', m', n', e', F', N', off, hk, hS'⟩ := hq1
      refine hG ?_
      clear hG
      exact ⟨h', tk', m', n', e', F', N', off, hk, ih (i + 1) m' n' hr (by simp at hl; omega) hS'⟩
    cases f with
    | ret v => exact p
    | brk => exact p
    | next => exact go p
    | cont => exact go p
end
end Mine
namespace Mine
theorem mem_tail1 {α : Type} {a b : α} {l : List α} (h : a ∈ l) : a ∈ b :: l := .tail _ h
/-- a list of items is laid: O its address, own the tuples -/
noncomputable def StGo (h₀ : Heap) (L : Addr) (s : Shared) (m₀ : Str → Option Value) (led : List Value → List (Addr × Obj) → List (Addr × Obj)) (offs : List Addr) (own : List (Addr × Obj)) (order : List It) (fl : Flow) (s' : Shared) : Prop :=
  fl = .next ∧ ∃ h' tk m' vs' own', s' = { s with heap := h', toks := tk } ∧ Fr h₀ L h' m' ∧ News h₀ L h' (led vs' own') ∧ ItsIn own' vs' order ∧ (∀ p ∈ own', p.1 ∉ offs) ∧ (∀ p ∈ own, p ∈ own') ∧ ∀ z, z ≠ Str.ofString "k" → z ≠ Str.ofString "weight" → m' z = m₀ z
end Mine
namespace Mine
theorem pick_two {a b : Value} {r : List Value} : (slicePick (a :: b :: r).toArray (some 2) none none).toList = r := by
  have e : sliceBounds (some 2) none none (a :: b :: r).toArray.size = (((2 : Nat) : Int), (((a :: b :: r).toArray.size : Nat) : Int), 1) := by
    simp only [sliceBounds, Option.getD_none, show (1 : Int) > 0 by decide, if_true, if_neg (show ¬ ((2 : Int) < 0) by decide)]
    congr 1
    have : 2 ≤ (a :: b :: r).toArray.size := by simp
    omega
  rw [kmk_pick_nat _ e]
  simp
/-- a turn of the while: what it leaves -/
noncomputable def HufGo (h₀ : Heap) (L : Addr) (s : Shared) (m₀ : Str → Option Value) (led : List Value → List (Addr × Obj) → List (Addr × Obj)) (offs : List Addr) (own : List (Addr × Obj)) (order : List It) (cost : Int) (fl : Flow) (s' : Shared) : Prop :=
  fl = .next ∧ ∃ h' tk m' vs' own' tc, s' = { s with heap := h', toks := tk } ∧ Fr h₀ L h' m' ∧ News h₀ L h' (led vs' own') ∧ ItsIn own' vs' order ∧ (∀ p ∈ own', p.1 ∉ offs) ∧ (∀ p ∈ own, p ∈ own') ∧ m' (Str.ofString "cost") = some (.int cost tc) ∧ ∀ z, z ≠ Str.ofString "cost" → m' z = m₀ z
end Mine
namespace Mine
theorem fr_but_k {h₀ h : Heap} {L : Addr} {m m₀ : Str → Option Value} {x : Str} (F : Fr h₀ L h m) (hm : ∀ z, z ≠ x → m z = m₀ z) : Fr h₀ L h (fun z => if z = x then m z else m₀ z) := by
  have e : (fun z => if z = x then m z else m₀ z) = m := by
    funext z
    by_cases h : z = x
    · simp [h]
    · simp only [if_neg h]; exact (hm z h).symm
  rw [e]; exact F
theorem bump_snoc (ds ks : List Int) (k : Int) : bump ds (ks ++ [k]) = bumpOne (bump ds ks) k := by simp [bump]
theorem bump_length (ds ks : List Int) : (bump ds ks).length = ds.length := by
  unfold bump
  induction ks generalizing ds with
  | nil => rfl
  | cons k r ih => rw [List.foldl_cons, ih, bumpOne_length]
theorem ints_at {vs : List Value} {ns : List Int} (h : IntsAre vs ns) {i : Nat} {v : Value} (e : vs[i]? = some v) : ∃ k t, ns[i]? = some k ∧ v = .int k t := by
  induction h generalizing i with
  | nil => simp at e
  | cons n t _ ih =>
    cases i with
    | zero => simp at e; exact ⟨n, t, rfl, e.symm⟩
    | succ i => exact ih (by simpa using e)
/-- a turn of the while, from the for on -/
noncomputable def HufGoB (h₀ : Heap) (L : Addr) (s : Shared) (m₀ : Str → Option Value) (ex : List Str) (led : List Value → List Value → Nat → List (Addr × Obj) → List (Addr × Obj)) (offs : List Addr) (own : List (Addr × Obj)) (order : List It) (ds : List Int) (cost : Int) (fl : Flow) (s' : Shared) : Prop :=
  fl = .next ∧ ∃ h' tk m' vs' vsD' nD' own' tc, s' = { s with heap := h', toks := tk } ∧ Fr h₀ L h' m' ∧ News h₀ L h' (led vs' vsD' nD' own') ∧ ItsIn own' vs' order ∧ IntsAre vsD' ds ∧ (∀ p ∈ own', p.1 ∉ offs) ∧ (∀ p ∈ own, p ∈ own') ∧ m' (Str.ofString "cost") = some (.int cost tc) ∧ ∀ z, z ∉ ex → m' z = m₀ z
end Mine
namespace Mine
section
variable {prog : Program} {w : World} {A : Around} {E : Value → Shared → Prop} {s : Shared} {h₀ : Heap} {L : Addr} {m : Str → Option Value} {news : List (Addr × Obj)}
theorem newList_L {vs : List Value} {Q : Value → Shared → Prop} (F : Fr h₀ L s.heap m) (N : News h₀ L s.heap news)
    (h : ∀ l h', Fr h₀ L h' m → News h₀ L h' ((l, listOf vs.toArray 0) :: news) → (∀ p ∈ news, p.1 < l) → @LT.lt Nat _ L l → Q (.ref l) { s with heap := h' }) (hsz : vs.length ≤ 1000) : wpAny (model prog w) A (newList vs) Q E s :=
  newList_N F N (fun h' F' N' => h _ h' F' N' (fun p hp => Heap.lt_size (N p hp).1) F.ns.lt) (by rw [sizeLine_eq]; omega)
end
end Mine

end
section
open PySem PySem.W PySem.Spec PySem.Calls PyProof.Rows
namespace Mine
section
variable {prog : Program} {w : World} {A : Around} {E : Value → Shared → Prop} {s : Shared} {env : Env} {h₀ : Heap} {x : Str} {body : List Stmt} {Q : Flow → Shared → Prop}
end
noncomputable def bodyOf (K : Frag) (f : Addr) : Option (List Stmt × Scope) := match K.lookup f with
  | some ⟨_, _, .func fd, _⟩ => (match fd.body with
    | .stmts b => some (b, fd.scope)
    | _ => none)
  | _ => none
noncomputable def LawEnd (h₀ : Heap) (L : Addr) (tabs : List (Addr × Addr)) (s : Shared) (fl : Flow) (s' : Shared) : Prop :=
  fl = .ret (.bool true) ∧ ∃ h' tk m', s' = { s with heap := h', toks := tk } ∧ Fr h₀ L h' m' ∧ GrownAll tabs h'
end Mine

end
section
open PySem PySem.W PySem.Spec PySem.Calls PyProof.Rows
namespace Mine
section
variable {prog : Program} {w : World} {A : Around} {E : Value → Shared → Prop} {s : Shared} {Q : Value → Shared → Prop}
theorem ne_ints_false {a b : Addr} {vs us : List Value} {ns ms : List Int} (e : ns = ms) (hl : s.heap.IsList a vs.toArray) (hi : IntsAre vs ns) (hl' : s.heap.IsList b us.toArray) (hi' : IntsAre us ms) (hu : A.units + 64 < cLine)
    (h : Q (.bool false) s) : wpAny (model prog w) A (compareOp .NotEq (.ref a) (.ref b)) Q E s := by
  refine ne_intsK hl hi hl' hi' hu ?_
  rw [decide_eq_true e]; exact h
end
noncomputable def LoopGo (h₀ : Heap) (L : Addr) (s : Shared) (led : Obj → List (Addr × Obj)) (fl : Flow) (s' : Shared) : Prop :=
  fl = .next ∧ ∃ h' tk m' oE', s' = { s with heap := h', toks := tk } ∧ Fr h₀ L h' m' ∧ (∃ v, oE'.data = .cell v) ∧ News h₀ L h' (led oE')
theorem news_seq {h₀ h : Heap} {L l : Addr} {news : List (Addr × Obj)} {its : Array Value} {n : Nat} (N : News h₀ L h news) (hm : (l, ({ cls := .type "list", data := .seq its n } : Obj)) ∈ news) : h.IsList l its := ⟨_, (N _ hm).1, rfl, n, rfl⟩
end Mine
namespace Mine
section
variable {prog : Program} {w : World} {A : Around} {E : Value → Shared → Prop} {s : Shared} {Q : Value → Shared → Prop} {t u : Tok}
end
end Mine
namespace Mine
section
variable {prog : Program} {w : World} {A : Around} {E : Value → Shared → Prop} {s : Shared} {Q : Value → Shared → Prop} {t u : Tok}
theorem len_is {h₀ : Heap} {L : Addr} {news : List (Addr × Obj)} {l : Addr} {its : Array Value} {n k : Nat} (N : News h₀ L s.heap news) (hm : (l, ({ cls := .type "list", data := .seq its n } : Obj)) ∈ news) (hk : its.size = k) (hz : k ≤ 16384)
    (h : Q (.int (k : Int) (s.toks + 1)) { s with toks := s.toks + 1 + 1 }) : wpAny (model prog w) A (call (.builtin "len") [.ref l]) Q E s := by
  subst hk
  exact kun_lenL (news_seq N hm) (by simp) (by omega) h
end
/-- a call has made a list and a code -/
theorem after_newl {h₀ h h' : Heap} {L P c9 l : Addr} {m : Str → Option Value} {news news' : List (Addr × Obj)} {o o' ol : Obj} {qual : Str} {Pr : Prop} (F : Fr h₀ L h m) (N : News h₀ L h news) (U : Upd P o o' news news')
    (e : ∀ b o, h.get? b = some o → b ∉ [P] → h'.get? b = some o) (ho : h'.get? P = some o') (hz : h.objs.size ≤ c9) (hc : CodeNew h' c9 qual) (hl : h.objs.size ≤ l) (gl : h'.get? l = some ol)
    (k : ∀ oc vs t, oc.data = .fields vs → vs[1]? = some (.str qual t) → Fr h₀ L h' m → News h₀ L h' ((l, ol) :: (c9, oc) :: news') → (∀ p ∈ news, p.1 < c9) → (∀ p ∈ news, p.1 < l) → Pr) : Pr :=
  after_new F N U e ho hz hc fun oc vs t d v F' N' lc => k oc vs t d v F' (fun p hp => by
    have hL : L < l := Nat.lt_of_lt_of_le F.ns.lt hl
    rcases List.mem_cons.mp hp with rfl | hp
    · exact ⟨gl, Nat.ne_of_gt hL, Heap.get?_none_of_le (Nat.le_trans F.above (Nat.le_of_lt hL))⟩
    · exact N' p hp) lc fun p hp => Nat.lt_of_lt_of_le (Heap.lt_size (N p hp).1) hl
end Mine
namespace Mine
section
variable {prog : Program} {w : World} {A : Around} {E : Value → Shared → Prop} {s : Shared} {Q : Value → Shared → Prop} {t u : Tok}
end
theorem fr_at {h₀ h : Heap} {L : Addr} {f : Str → Option Value} {x : Str} {v : Value} (F : Fr h₀ L h f) (e : f x = some v) : Fr h₀ L h (fun z => if z = x then some v else f z) := by
  have q : (fun z => if z = x then some v else f z) = f := by
    funext z
    by_cases hz : z = x
    · subst hz; simp [e]
    · simp [hz]
  rw [q]; exact F
end Mine

end
section
open PySem PySem.W PySem.Spec PySem.Calls PyProof.Rows
namespace Mine
section
variable {prog : Program} {w : World} {A : Around} {E : Value → Shared → Prop} {R : Result → Shared → Prop} {s : Shared} {elt iter it2 : Expr} {x y : Str} {px py : Pos} {ifs : List Expr} {scope : Scope} {pos : Pos} {it acc : Value} {env : Env}
theorem turn0 : compTurn (.ListComp elt [⟨.Name x px, iter, [], 0⟩, ⟨.Name y py, it2, ifs, 0⟩] scope pos) 0 it acc env = (do
    standAt iter.pos
    match ← pyNext it with
    | none => pure (.done .next)
    | some v =>
      letOwnedTupleGo (.Name x px) it v
      assign (.Name x px) env v
      let xv ← eval it2 env
      standAt it2.pos
      let xv ← foldedSetIterable it2 env xv
      let jt ← holding [xv] (pyIter xv)
      let _ ← runOwn (.compStart (.ListComp elt [⟨.Name x px, iter, [], 0⟩, ⟨.Name y py, it2, ifs, 0⟩] scope pos) 1 jt acc env) env
      again (.compLoop (.ListComp elt [⟨.Name x px, iter, [], 0⟩, ⟨.Name y py, it2, ifs, 0⟩] scope pos) 0 it acc env)) := by rfl
theorem turn1 : compTurn (.ListComp elt [⟨.Name x px, iter, [], 0⟩, ⟨.Name y py, it2, ifs, 0⟩] scope pos) 1 it acc env = (do
    standAt it2.pos
    match ← pyNext it with
    | none => pure (.done .next)
    | some v =>
      letOwnedTupleGo (.Name y py) it v
      assign (.Name y py) env v
      let mut ok := true
      for c in ifs do
        if ok then ok ← isTrue c env (eval c env)
      if ok then
        (do let _ ← call (.builtin "list.append") [acc, ← eval elt env])
      again (.compLoop (.ListComp elt [⟨.Name x px, iter, [], 0⟩, ⟨.Name y py, it2, ifs, 0⟩] scope pos) 1 it acc env)) := by rfl
theorem loop0 (I : Nat → Shared → Prop) (hs : ∀ v, foldedSetIterable it2 env v = pure v)
    (turn : ∀ n s, I n s → wpAny (model prog w) A (pyNext it) (fun r s₁ => match r with
      | none => R (.ok .next) s₁
      | some v => wpAny (model prog w) A (assign (.Name x px) env v) (fun _ s₂ => wpAny (model prog w) A (eval it2 env) (fun xv s₃ => wpAny (model prog w) A (pyIter xv) (fun jt s₄ =>
          codeAny (model prog w) A (.compStart (.ListComp elt [⟨.Name x px, iter, [], 0⟩, ⟨.Name y py, it2, ifs, 0⟩] scope pos) 1 jt acc env) (fun r s₅ => (∃ f, r = .ok f) ∧ ∃ m, m < n ∧ I m s₅) s₄)
          (notedBy (model prog w) A env fun e s' => R (.error e) s') s₃) (notedBy (model prog w) A env fun e s' => R (.error e) s') s₂) (notedBy (model prog w) A env fun e s' => R (.error e) s') s₁) (notedBy (model prog w) A env fun e s' => R (.error e) s') s)
    (n : Nat) (h : I n s) : codeAny (model prog w) A (.compLoop (.ListComp elt [⟨.Name x px, iter, [], 0⟩, ⟨.Name y py, it2, ifs, 0⟩] scope pos) 0 it acc env) R s := by
  refine codeAny_loop rfl I (fun n s hI => ?_) n h
  show wpAny _ A ((compTurn (.ListComp elt [⟨.Name x px, iter, [], 0⟩, ⟨.Name y py, it2, ifs, 0⟩] scope pos) 0 it acc env).onRaise (fun x => do noteFrame x env; theTreesLotGoes x)) _ _ s
  refine wpAny_noted ?_
  rw [turn0]
  refine wpAny_bind (wpAny_standAt (wpAny_bind (wpAny_mono (turn n s hI) (fun r s₁ h₁ => ?_) fun _ _ q => q)))
  cases r with
  | none => exact wpAny_pure h₁
  | some v =>
    refine wpAny_bind (wpAny_of_eq (show letOwnedTupleGo (.Name x px) it v = pure () from rfl) ?_)
    refine wpAny_bind (wpAny_mono h₁ (fun _ s₂ h₂ => wpAny_bind (wpAny_mono h₂ (fun xv s₃ h₃ => wpAny_bind (wpAny_standAt (wpAny_bind (wpAny_of_eq (hs xv) (wpAny_bind (wpAny_holding (wpAny_mono h₃ (fun jt s₄ h₄ => ?_) fun _ _ q => q))))))) fun _ _ q => q)) fun _ _ q => q)
    refine wpAny_bind (wpAny_runOwn (h := none) ?_)
    rw [Around.mark_none]
    refine codeAny_mono h₄ fun r s₅ h₅ => ?_
    obtain ⟨⟨f, rfl⟩, hm⟩ := h₅
    exact wpAny_pure ⟨rfl, hm⟩
theorem loop1 (I : Nat → Shared → Prop)
    (turn : ∀ n s, I n s → wpAny (model prog w) A (pyNext it) (fun r s₁ => match r with
      | none => R (.ok .next) s₁
      | some v => wpAny (model prog w) A (assign (.Name y py) env v) (fun _ s₂ =>
          wpAny (model prog w) A (forIn ifs true fun c r => if r = true then do let ok ← isTrue c env (eval c env); pure (ForInStep.yield ok) else pure (ForInStep.yield r)) (fun ok s₃ =>
            if ok = true then wpAny (model prog w) A (eval elt env) (fun v s₄ =>
              wpAny (model prog w) A (call (.builtin "list.append") [acc, v]) (fun _ s₅ => ∃ m, m < n ∧ I m s₅) (notedBy (model prog w) A env fun e s' => R (.error e) s') s₄) (notedBy (model prog w) A env fun e s' => R (.error e) s') s₃
            else ∃ m, m < n ∧ I m s₃) (notedBy (model prog w) A env fun e s' => R (.error e) s') s₂) (notedBy (model prog w) A env fun e s' => R (.error e) s') s₁) (notedBy (model prog w) A env fun e s' => R (.error e) s') s)
    (n : Nat) (h : I n s) : codeAny (model prog w) A (.compLoop (.ListComp elt [⟨.Name x px, iter, [], 0⟩, ⟨.Name y py, it2, ifs, 0⟩] scope pos) 1 it acc env) R s := by
  refine codeAny_loop rfl I (fun n s hI => ?_) n h
  show wpAny _ A ((compTurn (.ListComp elt [⟨.Name x px, iter, [], 0⟩, ⟨.Name y py, it2, ifs, 0⟩] scope pos) 1 it acc env).onRaise (fun x => do noteFrame x env; theTreesLotGoes x)) _ _ s
  refine wpAny_noted ?_
  rw [turn1]
  refine wpAny_bind (wpAny_standAt (wpAny_bind (wpAny_mono (turn n s hI) (fun r s₁ h₁ => ?_) fun _ _ q => q)))
  cases r with
  | none => exact wpAny_pure h₁
  | some v =>
    refine wpAny_bind (wpAny_of_eq (show letOwnedTupleGo (.Name y py) it v = pure () from rfl) ?_)
    refine wpAny_bind (wpAny_mono h₁ (fun _ s₂ h₂ => wpAny_bind (wpAny_mono h₂ (fun ok s₃ h₃ => ?_) fun _ _ q => q)) fun _ _ q => q)
    cases ok with
    | false => exact wpAny_pure ⟨rfl, h₃⟩
    | true => exact wpAny_bind (wpAny_bind (wpAny_mono h₃ (fun v s₄ h₄ => wpAny_bind (wpAny_mono h₄ (fun _ s₅ h₅ => wpAny_pure (wpAny_pure ⟨rfl, h₅⟩)) fun _ _ q => q)) fun _ _ q => q))
theorem start1 (h0 : codeAny (model prog w) A (.compLoop (.ListComp elt [⟨.Name x px, iter, [], 0⟩, ⟨.Name y py, it2, ifs, 0⟩] scope pos) 1 it acc env) R s)
    (h : wpAny (model prog w) A (pyIter it) (fun it' s' => codeAny (model prog w) A (.compLoop (.ListComp elt [⟨.Name x px, iter, [], 0⟩, ⟨.Name y py, it2, ifs, 0⟩] scope pos) 1 it' acc env) R s') (notedBy (model prog w) A env fun x s' => R (.error x) s') s) :
    codeAny (model prog w) A (.compStart (.ListComp elt [⟨.Name x px, iter, [], 0⟩, ⟨.Name y py, it2, ifs, 0⟩] scope pos) 1 it acc env) R s := by
  refine codeAny_of_tree ?_
  show wpAny _ _ ((compStart (.ListComp elt [⟨.Name x px, iter, [], 0⟩, ⟨.Name y py, it2, ifs, 0⟩] scope pos) 1 it acc env).onRaise (fun x => do noteFrame x env; standAt theWindowsPlace)) _ _ s
  refine wpAny_notedAt ?_
  unfold compStart
  show wpAny _ _ (ask >>= _) _ _ s
  refine wpAny_bind (wpAny_askSetting (wpAny_ite ?_))
  split
  · first
      | exact wpAny_bind (wpAny_pure (wpAny_pure ⟨rfl, h0⟩))
      | exact wpAny_pure ⟨rfl, h0⟩
  · refine wpAny_bind (wpAny_rule ?_)
    first
      | exact wpAny_bind (wpAny_standAt (wpAny_bind (wpAny_mono h (fun it' s' h' => wpAny_pure ⟨rfl, h'⟩) fun _ _ q => q)))
      | (show wpAny _ _ (standAt it2.pos >>= _) _ _ s; exact wpAny_bind (wpAny_standAt (wpAny_bind (wpAny_mono h (fun it' s' h' => wpAny_pure ⟨rfl, h'⟩) fun _ _ q => q))))
end
end Mine
namespace Mine
section
variable {prog : Program} {w : World} {A : Around} {E : Value → Shared → Prop} {R : Result → Shared → Prop} {s : Shared} {h₀ : Heap} {L : Addr} {m : Str → Option Value} {elt iter it2 c : Expr} {x y : Str} {px py : Pos} {ifs : List Expr} {scope : Scope} {cl : List (Str × Addr)} {pos : Pos} {env : Env}
/-- none of a ledger's addresses is one of these -/
noncomputable def OffAll (ad : List Addr) (nw : List (Addr × Obj)) : Prop := ∀ p ∈ nw, p.1 ∉ ad
/-- the end of an inner turn -/
noncomputable def InEnd (h₀ : Heap) (L : Addr) (m : Str → Option Value) (s : Shared) (J : Addr) (oJ : Obj) (C : Addr) (oC : Obj) (D : Addr) (oD : Obj) (S : List (Addr × Obj) → Prop) (s' : Shared) : Prop :=
  ∃ h' tk nw, s' = { s with heap := h', toks := tk } ∧ Fr h₀ L h' m ∧ News h₀ L h' ((J, oJ) :: (C, oC) :: (D, oD) :: nw) ∧ OffAll [J, C, D] nw ∧ S nw
theorem inner_G {J C D : Addr} {fp : List Addr} {n : Nat} {P : Nat → Value → Prop} {St : Nat → Heap → Prop} {Kp : List (Addr × Obj) → Prop} {m₁ : Str → Option Value} {oC : Obj} {ys : List Value} {news : List (Addr × Obj)} (S : Nat → List Value → List (Addr × Obj) → Prop)
    (W : Walks prog w A J fp [J] n P St) (hJo : ∀ j h, St j h → ∃ o, h.get? J = some o)
    (hSt : ∀ j h h' o nw, St j h → h.get? J = some o → h'.get? J = some o → (∀ b o, h₀.get? b = some o → h'.get? b = some o) → News h₀ L h' nw → Kp nw → St j h')
    (hKp : ∀ j ys nw, S j ys nw → Kp nw) (hsz : ∀ j ys nw, S j ys nw → ys.length ≤ 10000)
    (hkind : scope.kind = .function) (hy : scope.names.lookup y = some .local) (hst : St 0 s.heap) (hCf : C ∉ fp)
    (F : Fr h₀ L s.heap m) (N : News h₀ L s.heap ((C, oC) :: (D, LCg.lst ys) :: news)) (hC : LCg.NsObj oC m₁) (hLJ : L ≠ J) (hJ₀ : h₀.get? J = none) (hJC : @Ne Nat J C) (hJD : @Ne Nat J D) (hCD : @Ne Nat C D) (off : OffAll [J, C, D] news) (hS : S 0 ys news)
    (step : ∀ j v oJ oC' m₃ ys' nw h tk (E' : Value → Shared → Prop), j < n → P j v → LCg.NsObj oC' m₃ → m₃ y = some v → (∀ z, z ≠ y → m₃ z = m₁ z) → Fr h₀ L h m → News h₀ L h ((J, oJ) :: (C, oC') :: (D, LCg.lst ys') :: nw) → OffAll [J, C, D] nw → S j ys' nw →
      wpAny (model prog w) A (forIn ifs true fun c r => if r = true then do let ok ← isTrue c (compEnvC scope cl C env) (eval c (compEnvC scope cl C env)); pure (ForInStep.yield ok) else pure (ForInStep.yield r)) (fun ok s' => if ok = true then
        wpAny (model prog w) A (eval elt (compEnvC scope cl C env)) (fun yv s'' => InEnd h₀ L m { s with heap := h, toks := tk } J oJ C oC' D (LCg.lst ys') (S (j + 1) (ys' ++ [yv])) s'') E' s'
        else InEnd h₀ L m { s with heap := h, toks := tk } J oJ C oC' D (LCg.lst ys') (S (j + 1) ys') s') E' { s with heap := h, toks := tk })
    (fin : ∀ oC' m₃ ys' nw h tk, S n ys' nw → LCg.NsObj oC' m₃ → (∀ z, z ≠ y → m₃ z = m₁ z) → Fr h₀ L h m → News h₀ L h ((C, oC') :: (D, LCg.lst ys') :: nw) → OffAll [J, C, D] nw → R (.ok .next) { s with heap := h, toks := tk }) :
    codeAny (model prog w) A (.compStart (.ListComp elt [⟨.Name x px, iter, [], 0⟩, ⟨.Name y py, it2, ifs, 0⟩] scope pos) 1 (.ref J) (.ref D) (compEnvC scope cl C env)) R s := by
  have hJf : J ∈ fp := W.sub J (List.mem_singleton.mpr rfl)
  have hCL : C ≠ L := (N (C, oC) (.head _)).2.1
  have hC₀ : h₀.get? C = none := (N (C, oC) (.head _)).2.2
  have hDL : D ≠ L := (N (D, LCg.lst ys) (.tail _ (.head _))).2.1
  have hD₀ : h₀.get? D = none := (N (D, LCg.lst ys) (.tail _ (.head _))).2.2
  have loop : codeAny (model prog w) A (.compLoop (.ListComp elt [⟨.Name x px, iter, [], 0⟩, ⟨.Name y py, it2, ifs, 0⟩] scope pos) 1 (.ref J) (.ref D) (compEnvC scope cl C env)) R s := by
    refine loop1
      (fun k s' => ∃ h' tk j ys' oC' m₃ nw, s' = { s with heap := h', toks := tk } ∧ j ≤ n ∧ k = n + 1 - j ∧ St j h' ∧ Fr h₀ L h' m ∧ News h₀ L h' ((C, oC') :: (D, LCg.lst ys') :: nw) ∧ LCg.NsObj oC' m₃ ∧ (∀ z, z ≠ y → m₃ z = m₁ z) ∧ OffAll [J, C, D] nw ∧ S j ys' nw) ?_ (n + 1)
      ⟨s.heap, s.toks, 0, ys, oC, m₁, news, rfl, Nat.zero_le _, rfl, hst, F, N, hC, fun _ _ => rfl, off, hS⟩
    intro k s' hq1
    refine shut fun hG => ?_
    obtain ⟨h', tk, j, ys', oC', m₃, nw, rfl, hj, rfl, hst', F', N', hC', hm', off', hS'⟩ := hq1
    refine hG ?_
    clear hG
    have offJ : ∀ p ∈ (C, oC') :: (D, LCg.lst ys') :: nw, p.1 ≠ J := by
      intro p hp
      rcases List.mem_cons.mp hp with rfl | hp
      · exact Ne.symm hJC
      · rcases List.mem_cons.mp hp with rfl | hp
        · exact Ne.symm hJD
        · intro e; exact off' p hp (by rw [e]; exact .head _)
    by_cases hlt : j < n
    · refine W.item j _ _ _ hlt hst' fun v h₂ tk₂ hPv hst₂ hk₂ => ?_
      have N₂ := LCg.news_but N' hk₂ offJ
      have F₂ := LCg.fr_but F' hk₂ hLJ hJ₀
      refine wpAny_assign_Name (wpAny_storeName_local (lookup_relabel_local hy) (hC'.ns (N₂ (C, oC') (.head _)).1) (fun h₃ hn₃ hs₃ => ?_) (by simp [compEnvC, relabel, hkind]))
      obtain ⟨oC₃, heC, hoC⟩ := LCg.ns_obj hn₃
      have hst₃ : St (j + 1) h₃ := W.frame _ _ _ hst₂ fun b hb o e => hs₃.extBut b o (fun q => hCf (by have q' : b = C := q; rw [← q']; exact hb)) e
      obtain ⟨oJ, heJ⟩ := hJo _ _ hst₃
      have F₃ : Fr h₀ L h₃ m := F₂.change hs₃ hCL hC₀
      have N₃ : News h₀ L h₃ ((J, oJ) :: (C, oC₃) :: (D, LCg.lst ys') :: nw) := fun p hp => by
        rcases List.mem_cons.mp hp with rfl | hp
        · exact ⟨heJ, Ne.symm hLJ, hJ₀⟩
        · rcases List.mem_cons.mp hp with rfl | hp
          · exact ⟨heC, hCL, hC₀⟩
          · have z := N₂ p (.tail _ hp)
            refine ⟨hs₃.extBut _ _ ?_ z.1, z.2⟩
            rcases List.mem_cons.mp hp with rfl | hp
            · exact Ne.symm hCD
            · intro e; exact off' p hp (by
                have e' : p.1 = C := e
                rw [e']; exact .tail _ (.head _))
      refine wpAny_mono (step j v oJ oC₃ _ ys' nw h₃ _ _ hlt hPv hoC (by simp) (fun z hz => by simp only [if_neg hz]; exact hm' z hz) F₃ N₃ off' hS') (fun ok s₃ q => ?_) fun _ _ e => e
      have back : ∀ h₄ tk₄ ys₄ nw₄, Fr h₀ L h₄ m → News h₀ L h₄ ((J, oJ) :: (C, oC₃) :: (D, LCg.lst ys₄) :: nw₄) → OffAll [J, C, D] nw₄ → S (j + 1) ys₄ nw₄ →
          ∃ m', m' < n + 1 - j ∧ ∃ h' tk j ys' oC' m₃ nw, ({ s with heap := h₄, toks := tk₄ } : Shared) = { s with heap := h', toks := tk } ∧ j ≤ n ∧ m' = n + 1 - j ∧ St j h' ∧ Fr h₀ L h' m ∧ News h₀ L h' ((C, oC') :: (D, LCg.lst ys') :: nw) ∧ LCg.NsObj oC' m₃ ∧ (∀ z, z ≠ y → m₃ z = m₁ z) ∧ OffAll [J, C, D] nw ∧ S j ys' nw := by
        intro h₄ tk₄ ys₄ nw₄ F₄ N₄ off₄ hS₄
        have N₄' : News h₀ L h₄ nw₄ := fun p hp => N₄ p (.tail _ (.tail _ (.tail _ hp)))
        have hst₄ := hSt _ _ _ _ _ hst₃ heJ (N₄ (J, oJ) (.head _)).1 F₄.keep N₄' (hKp _ _ _ hS₄)
        exact ⟨n + 1 - (j + 1), by first | exact sub_step hlt | exact sub_step (by assumption) | omega, h₄, tk₄, j + 1, ys₄, oC₃, _, nw₄, rfl, hlt, rfl, hst₄, F₄, fun p hp => N₄ p (.tail _ hp), hoC, fun z hz => by simp only [if_neg hz]; exact hm' z hz, off₄, hS₄⟩
      cases ok with
      | false =>
        simp only [Bool.false_eq_true, if_false] at q ⊢
        refine shut fun hG => ?_
        obtain ⟨h₄, tk₄, nw₄, rfl, F₄, N₄, off₄, hS₄⟩ := q
        refine hG ?_
        clear hG
        exact back h₄ tk₄ ys' nw₄ F₄ N₄ off₄ hS₄
      | true =>
        simp only [if_true] at q ⊢
        refine wpAny_mono q (fun yv s₄ q => ?_) fun _ _ e => e
        refine shut fun hG => ?_
        obtain ⟨h₄, tk₄, nw₄, rfl, F₄, N₄, off₄, hS₄⟩ := q
        refine hG ?_
        clear hG
        have zD := (N₄ (D, LCg.lst ys') (.tail _ (.tail _ (.head _)))).1
        have hsz' := hsz _ _ _ hS'
        refine append_at (hsz := by show ys'.toArray.size ≤ sizeLine; rw [List.size_toArray, sizeLine_eq]; omega) zD fun h₅ hs₅ hD₅ => ?_
        refine back h₅ _ (ys' ++ [yv]) nw₄ (F₄.change hs₅ hDL hD₀) (fun p hp => ?_) off₄ hS₄
        have keep : p.1 ≠ D → p ∈ (J, oJ) :: (C, oC₃) :: (D, LCg.lst ys') :: nw₄ → h₅.get? p.1 = some p.2 ∧ p.1 ≠ L ∧ h₀.get? p.1 = none := fun hne hm => ⟨hs₅.extBut _ _ hne (N₄ p hm).1, (N₄ p hm).2⟩
        rcases List.mem_cons.mp hp with rfl | hp
        · exact keep hJD (.head _)
        · rcases List.mem_cons.mp hp with rfl | hp
          · exact keep hCD (.tail _ (.head _))
          · rcases List.mem_cons.mp hp with rfl | hp
            · exact ⟨hD₅.trans (congrArg some (LCg.lst_snoc ys' yv)), hDL, hD₀⟩
            · exact keep (fun e => off₄ p hp (by rw [e]; exact .tail _ (.tail _ (.head _)))) (.tail _ (.tail _ (.tail _ hp)))
    · obtain rfl : j = n := Nat.le_antisymm hj (Nat.not_lt.mp hlt)
      refine W.done _ _ _ hst' fun h₂ tk₂ hk₂ => ?_
      exact fin oC' m₃ ys' nw h₂ tk₂ hS' hC' hm' (LCg.fr_but F' hk₂ hLJ hJ₀) (LCg.news_but N' hk₂ offJ) off'
  exact start1 loop (W.self 0 _ _ _ hst loop)
/-- over a range, no test -/
theorem inner_range {r C D : Addr} {b₀ : Int} {a₀ : Int} {t₀ u₀ v₀ : Tok} {n : Nat} {m₁ : Str → Option Value} {oC : Obj} {ys : List Value} {news : List (Addr × Obj)} {E' : Value → Shared → Prop} (S : Nat → List Value → List (Addr × Obj) → Prop)
    (hh : A.handled = none) (hr : IsRange s.heap r a₀ b₀ 1 t₀ u₀ v₀) (hsmall : Builtin.Range.small a₀ b₀ 1 = true) (hn : Builtin.Range.rangeSize a₀ b₀ 1 = (n : Int)) (hsz : ∀ j ys nw, S j ys nw → ys.length ≤ 10000)
    (hkind : scope.kind = .function) (hy : scope.names.lookup y = some .local)
    (F : Fr h₀ L s.heap m) (N : News h₀ L s.heap ((C, oC) :: (D, LCg.lst ys) :: news)) (hC : LCg.NsObj oC m₁) (hCD : @Ne Nat C D) (off : OffAll [C, D] news) (hS : S 0 ys news)
    (step : ∀ J j v oJ oC' m₃ ys' nw h tk (E' : Value → Shared → Prop), j < n → (∃ t, v = .int (a₀ + (j : Int)) t) → LCg.NsObj oC' m₃ → m₃ y = some v → (∀ z, z ≠ y → m₃ z = m₁ z) → Fr h₀ L h m → News h₀ L h ((J, oJ) :: (C, oC') :: (D, LCg.lst ys') :: nw) → OffAll [J, C, D] nw → (@Ne Nat J C ∧ @Ne Nat J D) → S j ys' nw →
      wpAny (model prog w) A (forIn ifs true fun c r => if r = true then do let ok ← isTrue c (compEnvC scope cl C env) (eval c (compEnvC scope cl C env)); pure (ForInStep.yield ok) else pure (ForInStep.yield r)) (fun ok s' => if ok = true then
        wpAny (model prog w) A (eval elt (compEnvC scope cl C env)) (fun yv s'' => InEnd h₀ L m { s with heap := h, toks := tk } J oJ C oC' D (LCg.lst ys') (S (j + 1) (ys' ++ [yv])) s'') E' s'
        else InEnd h₀ L m { s with heap := h, toks := tk } J oJ C oC' D (LCg.lst ys') (S (j + 1) ys') s') E' { s with heap := h, toks := tk })
    (fin : ∀ oC' m₃ ys' nw h tk, S n ys' nw → LCg.NsObj oC' m₃ → (∀ z, z ≠ y → m₃ z = m₁ z) → Fr h₀ L h m → News h₀ L h ((C, oC') :: (D, LCg.lst ys') :: nw) → OffAll [C, D] nw → R (.ok .next) { s with heap := h, toks := tk }) :
    wpAny (model prog w) A (pyIter (.ref r)) (fun jt s₂ => codeAny (model prog w) A (.compStart (.ListComp elt [⟨.Name x px, iter, [], 0⟩, ⟨.Name y py, it2, ifs, 0⟩] scope pos) 1 jt (.ref D) (compEnvC scope cl C env)) R s₂) E' s := by
  refine wpAny_pyIter_range hr hsmall ?_
  have hlt : ∀ p ∈ (C, oC) :: (D, LCg.lst ys) :: news, p.1 < s.heap.objs.size := fun p hp => Heap.lt_size (N p hp).1
  have hJC : @Ne Nat s.heap.objs.size C := Nat.ne_of_gt (hlt (C, oC) (.head _))
  have hJD : @Ne Nat s.heap.objs.size D := Nat.ne_of_gt (hlt (D, LCg.lst ys) (.tail _ (.head _)))
  refine inner_G (Kp := fun _ => True) S (LCg.range_walks hh a₀ n) (fun i h st => ⟨_, st⟩) LCg.range_st (fun _ _ _ _ => trivial) hsz hkind hy (by show IsRangeIter _ _ _ _ _; rw [hn]; simpa using Heap.get?_push_size _ rfl) (fun hm => hJC (List.mem_singleton.mp hm).symm)
    (F.keeps fun _ _ e => Heap.get?_push_of_some _ e) (N.grown fun _ _ e => Heap.get?_push_of_some _ e) hC (Nat.ne_of_lt F.ns.lt) (next_is_new F) hJC hJD hCD (fun p hp hm => ?_) hS (fun j v oJ oC' m₃ ys' nw h tk E' a b c d e f g i k => step _ j v oJ oC' m₃ ys' nw h tk E' a b c d e f g i ⟨hJC, hJD⟩ k) (fun oC' m₃ ys' nw h tk a b c d e f => fin oC' m₃ ys' nw h tk a b c d e fun p hp hm => f p hp (.tail _ hm))
  rcases List.mem_cons.mp hm with e | hm
  · exact absurd (hlt p (.tail _ (.tail _ hp))) (e ▸ Nat.lt_irrefl _)
  · exact off p hp hm
/-- over a made or a base list -/
theorem inner_list {ax C D : Addr} {its : Array Value} {m₁ : Str → Option Value} {oC : Obj} {ys : List Value} {news : List (Addr × Obj)} {E' : Value → Shared → Prop} (S : Nat → List Value → List (Addr × Obj) → Prop)
    (hh : A.handled = none) (hsrc : ∀ j ys nw, S j ys nw → LCg.SrcAt h₀ ax its nw) (hsz : ∀ j ys nw, S j ys nw → ys.length ≤ 10000)
    (hkind : scope.kind = .function) (hy : scope.names.lookup y = some .local)
    (F : Fr h₀ L s.heap m) (N : News h₀ L s.heap ((C, oC) :: (D, LCg.lst ys) :: news)) (hC : LCg.NsObj oC m₁) (hCD : @Ne Nat C D) (hax : @Ne Nat C ax) (off : OffAll [C, D] news) (hS : S 0 ys news)
    (step : ∀ J j v oJ oC' m₃ ys' nw h tk (E' : Value → Shared → Prop), j < its.size → its[j]? = some v → LCg.NsObj oC' m₃ → m₃ y = some v → (∀ z, z ≠ y → m₃ z = m₁ z) → Fr h₀ L h m → News h₀ L h ((J, oJ) :: (C, oC') :: (D, LCg.lst ys') :: nw) → OffAll [J, C, D] nw → (@Ne Nat J C ∧ @Ne Nat J D) → S j ys' nw →
      wpAny (model prog w) A (forIn ifs true fun c r => if r = true then do let ok ← isTrue c (compEnvC scope cl C env) (eval c (compEnvC scope cl C env)); pure (ForInStep.yield ok) else pure (ForInStep.yield r)) (fun ok s' => if ok = true then
        wpAny (model prog w) A (eval elt (compEnvC scope cl C env)) (fun yv s'' => InEnd h₀ L m { s with heap := h, toks := tk } J oJ C oC' D (LCg.lst ys') (S (j + 1) (ys' ++ [yv])) s'') E' s'
        else InEnd h₀ L m { s with heap := h, toks := tk } J oJ C oC' D (LCg.lst ys') (S (j + 1) ys') s') E' { s with heap := h, toks := tk })
    (fin : ∀ oC' m₃ ys' nw h tk, S its.size ys' nw → LCg.NsObj oC' m₃ → (∀ z, z ≠ y → m₃ z = m₁ z) → Fr h₀ L h m → News h₀ L h ((C, oC') :: (D, LCg.lst ys') :: nw) → OffAll [C, D] nw → R (.ok .next) { s with heap := h, toks := tk }) :
    wpAny (model prog w) A (pyIter (.ref ax)) (fun jt s₂ => codeAny (model prog w) A (.compStart (.ListComp elt [⟨.Name x px, iter, [], 0⟩, ⟨.Name y py, it2, ifs, 0⟩] scope pos) 1 jt (.ref D) (compEnvC scope cl C env)) R s₂) E' s := by
  have hl : s.heap.IsList ax its := (hsrc _ _ _ hS).list F.keep (fun p hp => N p (.tail _ (.tail _ hp)))
  have haxlt : ax < s.heap.objs.size := by obtain ⟨_, e, _⟩ := hl; exact Heap.lt_size e
  refine wpAny_pyIter_list hl ?_
  have up : ∀ b o, s.heap.get? b = some o → (s.heap.push { cls := .type "list_iterator", data := .fields #[.ref ax, .int 0 0] }).get? b = some o := fun b o e => Heap.get?_push_of_some _ e
  have hlt : ∀ p ∈ (C, oC) :: (D, LCg.lst ys) :: news, p.1 < s.heap.objs.size := fun p hp => Heap.lt_size (N p hp).1
  have hJC : @Ne Nat s.heap.objs.size C := Nat.ne_of_gt (hlt (C, oC) (.head _))
  have hJD : @Ne Nat s.heap.objs.size D := Nat.ne_of_gt (hlt (D, LCg.lst ys) (.tail _ (.head _)))
  refine inner_G (Kp := LCg.SrcAt h₀ ax its) S (Walks.list hh s.heap.objs.size ax (Nat.ne_of_lt haxlt) its) (fun i h st => by obtain ⟨o, e, _⟩ := st.1; exact ⟨o, e⟩) LCg.list_st hsrc hsz hkind hy ⟨⟨_, Heap.get?_push_size _ rfl, rfl, rfl⟩, hl.push _⟩ (fun hm => ?_)
    (F.keeps up) (N.grown up) hC (Nat.ne_of_lt F.ns.lt) (next_is_new F) hJC hJD hCD (fun p hp hm => ?_) hS (fun j v oJ oC' m₃ ys' nw h tk E' a b c d e f g i k => step _ j v oJ oC' m₃ ys' nw h tk E' a b c d e f g i ⟨hJC, hJD⟩ k) (fun oC' m₃ ys' nw h tk a b c d e f => fin oC' m₃ ys' nw h tk a b c d e fun p hp hm => f p hp (.tail _ hm))
  · rcases List.mem_cons.mp hm with e | hm
    · exact hJC e.symm
    · exact hax (List.mem_singleton.mp hm)
  · rcases List.mem_cons.mp hm with e | hm
    · exact absurd (hlt p (.tail _ (.tail _ hp))) (e ▸ Nat.lt_irrefl _)
    · exact off p hp hm
end
end Mine
namespace Mine
section
variable {prog : Program} {w : World} {A : Around} {E : Value → Shared → Prop} {R : Result → Shared → Prop} {s : Shared} {h₀ : Heap} {L : Addr} {m : Str → Option Value} {elt iter it2 : Expr} {x y : Str} {px py : Pos} {ifs : List Expr} {scope : Scope} {cl : List (Str × Addr)} {pos : Pos} {env : Env}
/-- the end of an outer turn -/
noncomputable def OutEnd (h₀ : Heap) (L : Addr) (m : Str → Option Value) (s : Shared) (I : Addr) (oI : Obj) (C D : Addr) (S : List Value → List (Addr × Obj) → Prop) (r : Result) (s' : Shared) : Prop :=
  (∃ f, r = .ok f) ∧ ∃ h' tk oC m' ys nw, s' = { s with heap := h', toks := tk } ∧ Fr h₀ L h' m ∧ News h₀ L h' ((I, oI) :: (C, oC) :: (D, LCg.lst ys) :: nw) ∧ LCg.NsObj oC m' ∧ OffAll [I, C, D] nw ∧ S ys nw
noncomputable def FinC (h₀ : Heap) (L : Addr) (m : Str → Option Value) (s : Shared) (Q : Value → Shared → Prop) (ys : List Value) (news : List (Addr × Obj)) : Prop :=
  ∀ D h tk, Fr h₀ L h m → News h₀ L h ((D, LCg.lst ys) :: news) → OffAll [D] news → @LT.lt Nat _ L D → Q (.ref D) { s with heap := h, toks := tk }
theorem outer_G {I : Addr} {fp : List Addr} {n : Nat} {P : Nat → Value → Prop} {St : Nat → Heap → Prop} {Kp : List (Addr × Obj) → Prop} {news : List (Addr × Obj)} {Q : Value → Shared → Prop} (S : Nat → List Value → List (Addr × Obj) → Prop)
    (W : Walks prog w A I fp [I] n P St) (hIo : ∀ i h, St i h → ∃ o, h.get? I = some o)
    (hSt : ∀ i h h' o nw, St i h → h.get? I = some o → h'.get? I = some o → (∀ b o, h₀.get? b = some o → h'.get? b = some o) → News h₀ L h' nw → Kp nw → St i h')
    (hKp : ∀ i ys nw, S i ys nw → Kp nw) (hs : ∀ v, foldedSetIterable it2 (compEnvC scope cl (s.heap.objs.size + 1) env) v = pure v)
    (hcell : ∀ z ∈ scope.names, z.2 ≠ .cell) (hkind : scope.kind = .function) (hx : scope.names.lookup x = some .local) (hst : St 0 s.heap) (hfp : ∀ b ∈ fp, b < s.heap.objs.size)
    (F : Fr h₀ L s.heap m) (N : News h₀ L s.heap news) (hLI : L ≠ I) (hI₀ : h₀.get? I = none) (off : OffAll [I] news) (hS : S 0 [] news)
    (step : ∀ i v oI oC C D ys m₂ nw h tk (E' : Value → Shared → Prop), i < n → P i v → LCg.NsObj oC m₂ → m₂ x = some v → Fr h₀ L h m → News h₀ L h ((I, oI) :: (C, oC) :: (D, LCg.lst ys) :: nw) → OffAll [I, C, D] nw → (@Ne Nat I C ∧ @Ne Nat I D ∧ @Ne Nat C D) → S i ys nw →
      wpAny (model prog w) A (eval it2 (compEnvC scope cl C env)) (fun xv s₁ => wpAny (model prog w) A (pyIter xv) (fun jt s₂ =>
        codeAny (model prog w) A (.compStart (.ListComp elt [⟨.Name x px, iter, [], 0⟩, ⟨.Name y py, it2, ifs, 0⟩] scope pos) 1 jt (.ref D) (compEnvC scope cl C env)) (OutEnd h₀ L m { s with heap := h, toks := tk } I oI C D (S (i + 1))) s₂) E' s₁) E' { s with heap := h, toks := tk })
    (fin : ∀ ys nw, S n ys nw → FinC h₀ L m s Q ys nw) :
    wpAny (model prog w) A (newList []) (fun acc s₃ => wpAny (model prog w) A (newFunctionEnv scope env.globals cl [] env.qual none .none (some env)) (fun cenv s₄ =>
      codeAny (model prog w) A (.compStart (.ListComp elt [⟨.Name x px, iter, [], 0⟩, ⟨.Name y py, it2, ifs, 0⟩] scope pos) 0 (.ref I) acc { cenv with scope := relabel scope env }) (compPost (model prog w) A E none Q acc cenv.locals) s₄) E s₃) E s := by
  have hLlt : L < s.heap.objs.size := F.ns.lt
  refine wpAny_newObj_type (wpAny_newFunctionEnv hcell (by intro y hy; simp at hy) (fun h₁ hns₁ hsb₁ => ?_) hkind)
  dsimp only at hns₁ hsb₁ ⊢
  have hC : (s.heap.push { cls := .type "list", data := .seq ([] : List Value).toArray }).objs.size = s.heap.objs.size + 1 := by rw [Heap.size_push]
  generalize hH : s.heap.push { cls := .type "list", data := .seq ([] : List Value).toArray } = H at hns₁ hsb₁ hC ⊢
  rw [hC] at hns₁ hsb₁ ⊢
  have hIlt : I < s.heap.objs.size := hfp I (W.sub I (List.mem_singleton.mpr rfl))
  have old : ∀ b o, s.heap.get? b = some o → h₁.get? b = some o := fun b o e => hsb₁.extBut b o (Nat.ne_of_lt (Nat.lt_succ_of_lt (Heap.lt_size e))) (Heap.get?_push_of_some _ (hH ▸ Heap.get?_push_of_some _ e))
  have hacc : h₁.get? s.heap.objs.size = some (LCg.lst []) := hsb₁.extBut _ _ (Nat.ne_of_lt (Nat.lt_succ_self _)) (Heap.get?_push_of_some _ (hH ▸ Heap.get?_push_size _ rfl))
  have fresh : ∀ b, s.heap.objs.size ≤ b → h₀.get? b = none := fun b hb => Heap.get?_none_of_le (Nat.le_trans F.above (Nat.le_of_lt (Nat.lt_of_lt_of_le hLlt hb)))
  have hD₀ := fresh _ (Nat.le_refl _)
  have hC₀ : h₀.get? (s.heap.objs.size + 1) = none := fresh _ (Nat.le_succ s.heap.objs.size)
  have hDL : s.heap.objs.size ≠ L := Nat.ne_of_gt hLlt
  have hCL : s.heap.objs.size + 1 ≠ L := Nat.ne_of_gt (Nat.lt_succ_of_lt hLlt)
  have hIC : @Ne Nat I (s.heap.objs.size + 1) := Nat.ne_of_lt (Nat.lt_succ_of_lt hIlt)
  have hID : @Ne Nat I s.heap.objs.size := Nat.ne_of_lt hIlt
  have hCD : @Ne Nat (s.heap.objs.size + 1) s.heap.objs.size := Nat.succ_ne_self _
  have hCf : s.heap.objs.size + 1 ∉ fp := fun hm => absurd (hfp _ hm) (Nat.not_lt.mpr (Nat.le_succ _))
  have hst₁ : St 0 h₁ := W.frame _ _ _ hst fun b _ o e => old b o e
  generalize hCe : s.heap.objs.size + 1 = C at *
  have hLD := hLlt
  generalize hDe : s.heap.objs.size = D at hacc hD₀ hDL hID hCD hLD ⊢
  obtain ⟨oC₁, heC₁, hoC₁⟩ := LCg.ns_obj hns₁
  have N₁ : News h₀ L h₁ ((C, oC₁) :: (D, LCg.lst []) :: news) := fun p hp => by
    rcases List.mem_cons.mp hp with rfl | hp
    · exact ⟨heC₁, hCL, hC₀⟩
    · rcases List.mem_cons.mp hp with rfl | hp
      · exact ⟨hacc, hDL, hD₀⟩
      · exact ⟨old _ _ (N p hp).1, (N p hp).2⟩
  have off₁ : OffAll [I, C, D] news := fun p hp hm => by
    have hlt := Heap.lt_size (N p hp).1
    simp only [List.mem_cons, List.not_mem_nil, or_false] at hm
    rcases hm with e | e | e
    · exact off p hp (by rw [e]; exact .head _)
    · have : p.1 < C := by rw [← hCe]; exact Nat.lt_succ_of_lt hlt
      exact absurd this (e ▸ Nat.lt_irrefl _)
    · have : p.1 < D := by rw [← hDe]; exact hlt
      exact absurd this (e ▸ Nat.lt_irrefl _)
  have loop : ∀ s₃ : Shared, (∃ tk, s₃ = { s with heap := h₁, toks := tk }) → codeAny (model prog w) A (.compLoop (.ListComp elt [⟨.Name x px, iter, [], 0⟩, ⟨.Name y py, it2, ifs, 0⟩] scope pos) 0 (.ref I) (.ref D) (compEnvC scope cl C env)) (compPost (model prog w) A E none Q (.ref D) C) s₃ := by
    rintro s₃ ⟨tk₀, rfl⟩
    refine loop0
      (fun k s' => ∃ h' tk i ys oC m' nw, s' = { s with heap := h', toks := tk } ∧ i ≤ n ∧ k = n + 1 - i ∧ St i h' ∧ Fr h₀ L h' m ∧ News h₀ L h' ((C, oC) :: (D, LCg.lst ys) :: nw) ∧ LCg.NsObj oC m' ∧ OffAll [I, C, D] nw ∧ S i ys nw) hs ?_ (n + 1)
      ⟨h₁, tk₀, 0, [], oC₁, _, news, rfl, Nat.zero_le _, rfl, hst₁, F.keeps old, N₁, hoC₁, off₁, hS⟩
    intro k s' hq1
    refine shut fun hG => ?_
    obtain ⟨h', tk, i, ys, oC, m', nw, rfl, hi, rfl, hst', F', N', hC', off', hS'⟩ := hq1
    refine hG ?_
    clear hG
    have offI : ∀ p ∈ (C, oC) :: (D, LCg.lst ys) :: nw, p.1 ≠ I := by
      intro p hp
      rcases List.mem_cons.mp hp with rfl | hp
      · exact Ne.symm hIC
      · rcases List.mem_cons.mp hp with rfl | hp
        · exact Ne.symm hID
        · intro e; exact off' p hp (by rw [e]; exact .head _)
    by_cases hlt : i < n
    · refine W.item i _ _ _ hlt hst' fun v h₂ tk₂ hPv hst₂ hk₂ => ?_
      have N₂ := LCg.news_but N' hk₂ offI
      have F₂ := LCg.fr_but F' hk₂ hLI hI₀
      refine wpAny_assign_Name (wpAny_storeName_local (lookup_relabel_local hx) (hC'.ns (N₂ (C, oC) (.head _)).1) (fun h₃ hn₃ hs₃ => ?_) (by simp [compEnvC, relabel, hkind]))
      obtain ⟨oC₃, heC, hoC⟩ := LCg.ns_obj hn₃
      have hst₃ : St (i + 1) h₃ := W.frame _ _ _ hst₂ fun b hb o e => hs₃.extBut b o (fun q => hCf (by have q' : b = C := q; rw [← q']; exact hb)) e
      obtain ⟨oI, heI⟩ := hIo _ _ hst₃
      have F₃ : Fr h₀ L h₃ m := F₂.change hs₃ hCL hC₀
      have N₃ : News h₀ L h₃ ((I, oI) :: (C, oC₃) :: (D, LCg.lst ys) :: nw) := fun p hp => by
        rcases List.mem_cons.mp hp with rfl | hp
        · exact ⟨heI, Ne.symm hLI, hI₀⟩
        · rcases List.mem_cons.mp hp with rfl | hp
          · exact ⟨heC, hCL, hC₀⟩
          · have z := N₂ p (.tail _ hp)
            refine ⟨hs₃.extBut _ _ ?_ z.1, z.2⟩
            rcases List.mem_cons.mp hp with rfl | hp
            · exact Ne.symm hCD
            · intro e; exact off' p hp (by
                have e' : p.1 = C := e
                rw [e']; exact .tail _ (.head _))
      refine wpAny_mono (step i v oI oC₃ C D ys _ nw h₃ _ _ hlt hPv hoC (by simp) F₃ N₃ off' ⟨hIC, hID, hCD⟩ hS') (fun xv s₄ q => wpAny_mono q (fun jt s₅ q => codeAny_mono q fun r s₆ q => ?_) fun _ _ e => e) fun _ _ e => e
      refine shut fun hG => ?_
      obtain ⟨hr, h₄, tk₄, oC₄, m₄, ys₄, nw₄, rfl, F₄, N₄, hC₄, off₄, hS₄⟩ := q
      refine hG ?_
      clear hG
      have N₄' : News h₀ L h₄ nw₄ := fun p hp => N₄ p (.tail _ (.tail _ (.tail _ hp)))
      exact ⟨hr, n + 1 - (i + 1), by first | exact sub_step hlt | exact sub_step (by assumption) | omega, h₄, tk₄, i + 1, ys₄, oC₄, m₄, nw₄, rfl, hlt, rfl, hSt _ _ _ _ _ hst₃ heI (N₄ (I, oI) (.head _)).1 F₄.keep N₄' (hKp _ _ _ hS₄), F₄, fun p hp => N₄ p (.tail _ hp), hC₄, off₄, hS₄⟩
    · obtain rfl : i = n := Nat.le_antisymm hi (Nat.not_lt.mp hlt)
      refine W.done _ _ _ hst' fun h₂ tk₂ hk₂ => ?_
      have N₂ := LCg.news_but N' hk₂ offI
      have F₂ := LCg.fr_but F' hk₂ hLI hI₀
      refine ⟨m', hC'.ns (N₂ (C, oC) (.head _)).1, fun h₃ hs₃ => fin ys nw hS' D h₃ tk₂ (F₂.change hs₃ hCL hC₀) (fun p hp => ?_) (fun p hp hm => off' p hp (.tail _ (.tail _ hm))) hLD⟩
      have z := N₂ p (.tail _ hp)
      refine ⟨hs₃.extBut _ _ ?_ z.1, z.2⟩
      rcases List.mem_cons.mp hp with rfl | hp
      · exact Ne.symm hCD
      · intro e; exact off' p hp (by
          have e' : p.1 = C := e
          rw [e']; exact .tail _ (.head _))
  exact codeAny_compStart_list (loop _ ⟨_, rfl⟩) (W.self 0 _ _ _ hst₁ (loop _ ⟨_, rfl⟩))
/-- where the two fors stand: the first over a range -/
noncomputable def Src2 (prog : Program) (w : World) (A : Around) (h₀ : Heap) (L : Addr) (m : Str → Option Value) (env : Env) (e : Expr) (it2 : Expr) (x : Str) (scope : Scope) (cl : List (Str × Addr)) (Q : Value → Shared → Prop) (xv : Value) (s₁ : Shared) : Prop :=
  ∃ (I : Addr) (fp : List Addr) (n : Nat) (P : Nat → Value → Prop) (St : Nat → Heap → Prop) (Kp : List (Addr × Obj) → Prop) (news : List (Addr × Obj)) (S : Nat → List Value → List (Addr × Obj) → Prop) (o : Obj),
    (∀ (E : Value → Shared → Prop) (Q' : Value → Shared → Prop), Q' (.ref I) { s₁ with heap := s₁.heap.push o } → wpAny (model prog w) A (pyIter xv) Q' E s₁) ∧ I = s₁.heap.objs.size ∧
    Walks prog w A I fp [I] n P St ∧ (∀ i h, St i h → ∃ o, h.get? I = some o) ∧
    (∀ i h h' o nw, St i h → h.get? I = some o → h'.get? I = some o → (∀ b o, h₀.get? b = some o → h'.get? b = some o) → News h₀ L h' nw → Kp nw → St i h') ∧ (∀ i ys nw, S i ys nw → Kp nw) ∧ St 0 (s₁.heap.push o) ∧ (∀ b ∈ fp, b < s₁.heap.objs.size + 1) ∧
    Fr h₀ L s₁.heap m ∧ News h₀ L s₁.heap news ∧ S 0 [] news ∧
    ∀ s : Shared, (∃ g, s = { s₁ with heap := g }) → (∀ i v oI oC C D ys m₂ nw h tk (E' : Value → Shared → Prop), i < n → P i v → LCg.NsObj oC m₂ → m₂ x = some v → Fr h₀ L h m → News h₀ L h ((I, oI) :: (C, oC) :: (D, LCg.lst ys) :: nw) → OffAll [I, C, D] nw → (@Ne Nat I C ∧ @Ne Nat I D ∧ @Ne Nat C D) → S i ys nw →
      wpAny (model prog w) A (eval it2 (compEnvC scope cl C env)) (fun xv s₁ => wpAny (model prog w) A (pyIter xv) (fun jt s₂ =>
        codeAny (model prog w) A (.compStart e 1 jt (.ref D) (compEnvC scope cl C env)) (OutEnd h₀ L m { s with heap := h, toks := tk } I oI C D (S (i + 1))) s₂) E' s₁) E' { s with heap := h, toks := tk }) ∧
      (∀ ys nw, S n ys nw → FinC h₀ L m s Q ys nw)
theorem ListComp_2 {Q : Value → Shared → Prop} (F₀ : Fr h₀ L s.heap m)
    (hclos : closureFor scope env = pure cl) (hcell : ∀ z ∈ scope.names, z.2 ≠ .cell) (hkind : scope.kind = .function)
    (hnames : ∀ z ∈ scope.names, z.2 = .local → scope.names.lookup z.1 = some .local) (hx : scope.names.lookup x = some .local)
    (h : wpAny (model prog w) A (eval iter env) (Src2 prog w A h₀ L m env (.ListComp elt [⟨.Name x px, iter, [], 0⟩, ⟨.Name y py, it2, ifs, 0⟩] scope pos) it2 x scope cl Q) E s)
    (hs2 : ∀ C v, foldedSetIterable it2 (compEnvC scope cl C env) v = pure v := by intro _ _; rfl)
    (hs : ∀ v, foldedSetIterable iter env v = pure v := by intro _; rfl) :
    wpAny (model prog w) A (eval (.ListComp elt [⟨.Name x px, iter, [], 0⟩, ⟨.Name y py, it2, ifs, 0⟩] scope pos) env) Q E s := by
  rw [eval_ListComp]
  refine wpAny_comprehension_free (use := none) rfl hs hclos hkind hnames (wpAny_mono h (fun xv s₁ h₁ => ?_) fun _ _ e => e)
  refine shut fun hG => ?_
  obtain ⟨I, fp, n, P, St, Kp, news, S, o, hI, rfl, W, hIo, hSt, hKp, hst, hfp, F, N, hS, hb⟩ := h₁
  refine hG ?_
  clear hG
  refine hI _ _ ?_
  obtain ⟨step, fin⟩ := hb { s₁ with heap := s₁.heap.push o } ⟨_, rfl⟩
  exact outer_G S W hIo hSt hKp (hs2 _) hcell hkind hx hst (fun b hb => by show b < (s₁.heap.push o).objs.size; rw [Heap.size_push]; exact hfp b hb) (F.push o) (N.grown fun _ _ e => Heap.get?_push_of_some _ e) (Nat.ne_of_lt F.ns.lt) (next_is_new F)
    (fun p hp hm => absurd (Heap.lt_size (N p hp).1) ((List.mem_singleton.mp hm) ▸ Nat.lt_irrefl _)) hS step fin
end
end Mine
namespace Mine
section
variable {prog : Program} {w : World} {A : Around} {h₀ : Heap} {L : Addr} {m : Str → Option Value} {e it2 : Expr} {x : Str} {scope : Scope} {cl : List (Str × Addr)} {env : Env} {Q : Value → Shared → Prop} {s₁ : Shared} {news : List (Addr × Obj)}
theorem Src2.range {r : Addr} {a b : Int} {t u v : Tok} {n : Nat} (S : Nat → List Value → List (Addr × Obj) → Prop)
    (hh : A.handled = none) (F : Fr h₀ L s₁.heap m) (N : News h₀ L s₁.heap news) (hr : IsRange s₁.heap r a b 1 t u v) (hsm : Builtin.Range.small a b 1 = true) (hn : Builtin.Range.rangeSize a b 1 = ((n : Nat) : Int)) (hS : S 0 [] news)
    (h : ∀ g, (∀ i v I oI oC C D ys m₂ nw h tk (E' : Value → Shared → Prop), i < n → (∃ t, v = .int (a + (i : Int)) t) → LCg.NsObj oC m₂ → m₂ x = some v → Fr h₀ L h m → News h₀ L h ((I, oI) :: (C, oC) :: (D, LCg.lst ys) :: nw) → OffAll [I, C, D] nw → (@Ne Nat I C ∧ @Ne Nat I D ∧ @Ne Nat C D) → S i ys nw →
      wpAny (model prog w) A (eval it2 (compEnvC scope cl C env)) (fun xv s₁' => wpAny (model prog w) A (pyIter xv) (fun jt s₂ =>
        codeAny (model prog w) A (.compStart e 1 jt (.ref D) (compEnvC scope cl C env)) (OutEnd h₀ L m { s₁ with heap := h, toks := tk } I oI C D (S (i + 1))) s₂) E' s₁') E' { s₁ with heap := h, toks := tk }) ∧
      (∀ ys nw, S n ys nw → FinC h₀ L m { s₁ with heap := g } Q ys nw)) : Src2 prog w A h₀ L m env e it2 x scope cl Q (.ref r) s₁ := by
  refine ⟨s₁.heap.objs.size, [s₁.heap.objs.size], n, _, _, fun _ => True, news, S, _, fun E Q' hq => wpAny_pyIter_range hr hsm hq, rfl, LCg.range_walks hh a n, fun i h st => ⟨_, st⟩, LCg.range_st, fun _ _ _ _ => trivial, (by show IsRangeIter _ _ _ _ _; rw [hn]; simpa using Heap.get?_push_size _ rfl), fun b hb => by rw [List.mem_singleton.mp hb]; exact Nat.lt_succ_self _, F, N, hS, ?_⟩
  rintro s ⟨g, rfl⟩
  obtain ⟨h1, h2⟩ := h g
  exact ⟨fun i v oI oC C D ys m₂ nw h tk E' a b c d f g' k l p => h1 i v _ oI oC C D ys m₂ nw h tk E' a b c d f g' k l p, h2⟩
theorem Src2.list {ax : Addr} {its : Array Value} (S : Nat → List Value → List (Addr × Obj) → Prop)
    (hh : A.handled = none) (F : Fr h₀ L s₁.heap m) (N : News h₀ L s₁.heap news) (hsrc : ∀ i ys nw, S i ys nw → LCg.SrcAt h₀ ax its nw) (hS : S 0 [] news)
    (h : ∀ g, (∀ i v I oI oC C D ys m₂ nw h tk (E' : Value → Shared → Prop), i < its.size → its[i]? = some v → LCg.NsObj oC m₂ → m₂ x = some v → Fr h₀ L h m → News h₀ L h ((I, oI) :: (C, oC) :: (D, LCg.lst ys) :: nw) → OffAll [I, C, D] nw → (@Ne Nat I C ∧ @Ne Nat I D ∧ @Ne Nat C D) → S i ys nw →
      wpAny (model prog w) A (eval it2 (compEnvC scope cl C env)) (fun xv s₁' => wpAny (model prog w) A (pyIter xv) (fun jt s₂ =>
        codeAny (model prog w) A (.compStart e 1 jt (.ref D) (compEnvC scope cl C env)) (OutEnd h₀ L m { s₁ with heap := h, toks := tk } I oI C D (S (i + 1))) s₂) E' s₁') E' { s₁ with heap := h, toks := tk }) ∧
      (∀ ys nw, S its.size ys nw → FinC h₀ L m { s₁ with heap := g } Q ys nw)) : Src2 prog w A h₀ L m env e it2 x scope cl Q (.ref ax) s₁ := by
  have hl : s₁.heap.IsList ax its := (hsrc _ _ _ hS).list F.keep N
  have haxlt : ax < s₁.heap.objs.size := by obtain ⟨_, e, _⟩ := hl; exact Heap.lt_size e
  refine ⟨s₁.heap.objs.size, [s₁.heap.objs.size, ax], its.size, _, _, LCg.SrcAt h₀ ax its, news, S, _, fun E Q' hq => wpAny_pyIter_list hl hq, rfl, Walks.list hh s₁.heap.objs.size ax (Nat.ne_of_lt haxlt) its, fun i h st => by obtain ⟨o, e, _⟩ := st.1; exact ⟨o, e⟩, LCg.list_st, hsrc, ⟨⟨_, Heap.get?_push_size _ rfl, rfl, rfl⟩, hl.push _⟩, fun b hb => ?_, F, N, hS, ?_⟩
  · rcases List.mem_cons.mp hb with rfl | hb
    · exact Nat.lt_succ_self _
    · rw [List.mem_singleton.mp hb]; exact Nat.lt_succ_of_lt haxlt
  · rintro s ⟨g, rfl⟩
    obtain ⟨h1, h2⟩ := h g
    exact ⟨fun i v oI oC C D ys m₂ nw h tk E' a b c d f g' k l p => h1 i v _ oI oC C D ys m₂ nw h tk E' a b c d f g' k l p, h2⟩
end
end Mine

end
section
open PySem PySem.W PySem.Spec PySem.Calls PyProof.Rows
namespace Mine
local macro_rules | `(tactic| walk_at "call builtin:len") => `(tactic| (k_here; k_dflt (refine' len_base ?a ?b ?c ?_; (case a => k_asm); (case b => k_asm); (case c => omega); k_whole)))
theorem bis4 (w : World) {p : Program} {loose : List Str} {mean : ExcName → Option Value} {mg mb : Str → Option Value} {dp un : Nat} {gd : Option (List Code)} {cn : Str} {cs : Scope} {a : Addr} {ccd : Value} {cl : List (Str × Addr)} {outer : List Env}
    {A₀ : Around} {base h₀ : Heap} {L : Addr} {m : Str → Option Value} {s : Shared} {Q E : Value → Shared → Prop}
    (B : Below A₀ base outer h₀) (F : Fr h₀ L s.heap m) (X : (hd1.heap_39 w.params).In h₀) (T : Top p loose mean mg mb h₀) (hk : cs.kind = .function)
    {l : Addr} {vs : List Value} {x : Value} {below : Nat → Bool} {t0 : Tok}
    (hl : s.heap.IsList l vs.toArray) (hn : vs.length ≤ 1000) (hlt : ∀ k v, vs[k]? = some v → LtIs PySem.Challenge.rw_ia0004_01.row.prog w s.heap v x (below k))
    (hd : dp + 3 < recursionLimit) (hu : un + 100 < cLine)
    (hret : ∀ h' tk' t, (∀ b o, s.heap.get? b = some o → h'.get? b = some o) → Q (.int (bis below vs.length) t) { s with heap := h', toks := tk' }) :
    wpAny (model PySem.Challenge.rw_ia0004_01.row.prog w) (ktrTop dp un gd cn cs L a ccd cl outer) (call (.ref 32) [.ref l, x, .int 0 t0, .none]) Q E s := by
  revert X
  k_fill
  intro X
  k_with_none
  w_top off
  refine' con_def (fun v _ => ∃ t, v = .int (bis below vs.length) t) ?k1 ?k2 ?k3 ?k4 ?k5 ?kA ?kF ?kK ?k6 ?k7 ?k8 ?k9 ?kB ?_ ?_ ?c5 ?c2 ?c3 ?c4
  (case kA => exact rfl); (case kF => exact rfl); (case kK => first | assumption | exact rfl); (case k1 => k_asm); (case k2 => k_asm); (case k3 => k_asm); (case k4 => first | k_asm | exact News.nil); (case k5 => k_asm); (case k6 => k_is); (case k7 => k_is); (case k8 => ktr_room); (case k9 => first | exact BindsTo.of_eq rfl | exact binds_K (by k_in) rfl (by k_is) rfl rfl rfl | (refine' kp_binds ?kx ?ke; (case kx => k_in); (case ke => exact fun _ => rfl)))
  (case kB => exact locs rfl)
  (case c5 => decide)
  (case c2 => exact rfl)
  (case c3 => exact rfl)
  (case c4 => exact rfl)
  rotate_left
  · rintro r h' tk' he ⟨t, rfl⟩
    exact hret _ _ _ (fun b o e => he b o e (List.not_mem_nil))
  intro g' L' h' hg F' N' B' l1 X' T' hz'
  (try dsimp only)
  have hl' : g'.IsList l vs.toArray := by
    obtain ⟨o, e, r⟩ := hl
    exact ⟨o, hg _ _ e List.not_mem_nil, r⟩
  show wpAny _ _ _ _ _ _
  k_fold
  repeat' (first | (k_unfold; (try dsimp only)) | ((fail_if_success (with_reducible show wpAny _ _ (exec (PySem.Stmt.While _ _ _ _) _) _ _ _)); walk1))
  (rename Fr _ _ _ _ => F1)
  obtain ⟨tl, hlo⟩ := reads F1 (Str.ofString "lo") (((0 : Nat) : Int)) ⟨_, rfl⟩
  obtain ⟨th, hhi⟩ := reads F1 (Str.ofString "hi") (vs.length : Int) ⟨_, rfl⟩
  refine' ksw_while (fun _ => []) (fun (c : Nat × Nat × Tok × Tok) => [(Str.ofString "lo", Value.int (c.1 : Int) c.2.2.1), (Str.ofString "hi", Value.int (c.2.1 : Int) c.2.2.2)]) (fun _ => True) [Str.ofString "mid"] (fun c => c.1 ≤ c.2.1 ∧ c.2.1 ≤ vs.length ∧ bisGo below (c.2.1 - c.1) c.1 c.2.1 = bis below vs.length) (fun c => c.2.1 - c.1) (0, vs.length, tl, th) F1 ?N trivial ?hk ?hp ?turn PassesOwn.never
  case N => assumption
  case hk => exact List.forall_mem_cons.mpr ⟨hlo, List.forall_mem_cons.mpr ⟨hhi, List.forall_mem_nil _⟩⟩
  case hp => exact ⟨Nat.zero_le _, Nat.le_refl _, rfl⟩
  case turn =>
    rintro ⟨lo, hi, tl, th⟩ u h2 tk2 _ ⟨hp1, hp2, hp3⟩ F2 N2
    dsimp only [kstB] at F2 hp1 hp2 hp3 ⊢
    k_steps
    · have hlt' : lo < hi := by omega
      have hm : (lo + hi) / 2 < vs.length := by omega
      have em := half_nat lo hi
      obtain ⟨v, hv⟩ : ∃ v, vs[(lo + hi) / 2]? = some v := ⟨_, List.getElem?_eq_getElem hm⟩
      rw [em]
      (rename Fr _ _ _ _ => F3)
      refine item_base F3 hl' (by omega) (by omega) (by rw [Int.toNat_natCast]; exact hv) ?_
      k_steps
      refine hlt _ v hv _ _ _ _ (fun b o e => F3.keep b o (hg b o e List.not_mem_nil)) ?_ rfl ?_
      · ktr_units
      obtain ⟨t1, t2⟩ := bis_turn hp3 hlt'
      cases hb : below ((lo + hi) / 2)
      · k_steps
        (rename Fr _ _ _ _ => F9)
        obtain ⟨t9, h9⟩ := reads F9 (Str.ofString "hi") (((lo + hi) / 2 : Nat) : Int) ⟨_, congrArg (fun z => some (Value.int z _)) em⟩
        exact ksw_end (lo, (lo + hi) / 2, tl, t9) F9 (by assumption) (fun _ h => nomatch h) trivial (List.forall_mem_cons.mpr ⟨rfl, List.forall_mem_cons.mpr ⟨h9, List.forall_mem_nil _⟩⟩) (by ksw_same) ⟨by dsimp only; omega, by dsimp only; omega, t2 hb⟩ (by dsimp only; omega)
      · k_steps
        (rename Fr _ _ _ _ => F9)
        obtain ⟨t9, h9⟩ := reads F9 (Str.ofString "lo") (((lo + hi) / 2 + 1 : Nat) : Int) ⟨_, congrArg (fun z => some (Value.int (z + 1) _)) em⟩
        exact ksw_end ((lo + hi) / 2 + 1, hi, t9, th) F9 (by assumption) (fun _ h => nomatch h) trivial (List.forall_mem_cons.mpr ⟨h9, List.forall_mem_cons.mpr ⟨rfl, List.forall_mem_nil _⟩⟩) (by ksw_same) ⟨by dsimp only; omega, by dsimp only; omega, t1 hb⟩ (by dsimp only; omega)
    · show Done _ _ _ _ _
      exact Done.mk' F2 ⟨tl, by rw [bis_end hp3 (by omega)]⟩
end Mine

end
section
open PySem PySem.W PySem.Spec PySem.Calls PyProof.Rows
namespace Mine
local macro_rules | `(tactic| walk_at "call ref") => `(tactic| k_extra "my call")
local macro_rules | `(tactic| walk_at "call builtin:list.insert") => `(tactic| k_extra "my insert")
theorem ins2 (w : World) {p : Program} {loose : List Str} {mean : ExcName → Option Value} {mg mb : Str → Option Value} {dp un : Nat} {gd : Option (List Code)} {cn : Str} {cs : Scope} {a : Addr} {ccd : Value} {cl : List (Str × Addr)} {outer : List Env}
    {A₀ : Around} {base h₀ : Heap} {L : Addr} {m : Str → Option Value} {s : Shared} {Q E : Value → Shared → Prop}
    (B : Below A₀ base outer h₀) (F : Fr h₀ L s.heap m) (X : (hd1.heap_39 w.params).In h₀) (T : Top p loose mean mg mb h₀) (hk : cs.kind = .function)
    {l : Addr} {vs : List Value} {n : Nat} {x : Value} {below : Nat → Bool}
    (N : News h₀ L s.heap [(l, listOf vs.toArray n)]) (hn : vs.length ≤ 1000) (hlt : ∀ k v, vs[k]? = some v → LtIs PySem.Challenge.rw_ia0004_01.row.prog w s.heap v x (below k))
    (hd : dp + 6 < recursionLimit) (hu : un + 200 < cLine)
    (hret : ∀ h' tk', (∀ b o, s.heap.get? b = some o → b ∉ [l] → h'.get? b = some o) → h'.get? l = some (listOf (insAt vs (bis below vs.length) x).toArray (n + 1)) → Q .none { s with heap := h', toks := tk' }) :
    wpAny (model PySem.Challenge.rw_ia0004_01.row.prog w) (ktrTop dp un gd cn cs L a ccd cl outer) (call (.ref 23) [.ref l, x]) Q E s := by
  revert X
  k_fill
  intro X
  k_with_none
  w_top off
  refine' con_def (fun v h' => v = .none ∧ h'.get? l = some (listOf (insAt vs (bis below vs.length) x).toArray (n + 1))) ?k1 ?k2 ?k3 ?k4 ?k5 ?kA ?kF ?kK ?k6 ?k7 ?k8 ?k9 ?kB ?_ ?_ ?c5 ?c2 ?c3 ?c4
  (case kA => exact rfl); (case kF => exact rfl); (case kK => first | assumption | exact rfl); (case k1 => k_asm); (case k2 => k_asm); (case k3 => k_asm); (case k4 => first | k_asm | exact News.nil); (case k5 => k_asm); (case k6 => k_is); (case k7 => k_is); (case k8 => ktr_room); (case k9 => first | exact BindsTo.of_eq rfl | exact binds_K (by k_in) rfl (by k_is) rfl rfl rfl | (refine' kp_binds ?kx ?ke; (case kx => k_in); (case ke => exact fun _ => rfl)))
  (case kB => exact locs rfl)
  (case c5 => decide)
  (case c2 => exact rfl)
  (case c3 => exact rfl)
  (case c4 => exact rfl)
  rotate_left
  · rintro r h' tk' he ⟨rfl, e⟩
    exact hret _ _ he e
  intro g' L' h' hg F' N' B' l1 X' T' hz'
  (try dsimp only)
  show wpAny _ _ _ _ _ _
  k_fold
  k_with "my call" => (refine' bis4 w ?B ?F ?X ?T ?hk ?hl ?hn ?hlt ?hd ?hu ?_; (case B => k_asm); (case F => k_asm); (case X => k_asm); (case T => k_asm); (case hk => exact rfl); (case hl => exact news_list (by k_asm) (List.Mem.head _)); (case hn => exact hn); (case hlt => exact fun k v hv => (hlt k v hv).mono (keep_all N hg (by k_asm) (by k_asm))); (case hd => ktr_room); (case hu => ktr_units); (intro h9 tk9 t9 e9; (try dsimp only at e9); (have F9 := ext_F (by k_asm) e9); (have N9 := ext_N (by k_asm) e9); (try dsimp only); (try k_sweep); (try k_fold)))
  k_with "my insert" => (refine' kl_insert (n := n) (l := insAt vs (bis below vs.length) x) ?iF ?iN ?ix ?ie (Upd.head (List.forall_mem_nil _)) ?iz ?_; (case iF => k_asm); (case iN => k_asm); (case ix => exact fits_small (bis_le _ _) hn); (case ie => exact insAt_kl (bis_le _ _)); (case iz => (show vs.length ≤ sizeLine; rw [sizeLine_eq]; omega)); (intro h8 F8 N8; (try dsimp only); (try k_sweep); (try k_fold)))
  k_steps
  show Done _ _ _ _ _
  (rename Fr _ _ _ _ => F1)
  (rename News _ _ _ _ => N1)
  exact Done.mk' F1 ⟨rfl, (N1 _ (.head _)).1⟩

end Mine

end
section
open PySem PySem.W PySem.Spec PySem.Calls PyProof.Rows
namespace Mine
local macro_rules | `(tactic| walk_at "call ref") => `(tactic| k_extra "my call")
local macro_rules | `(tactic| walk_at "callWith ref") => `(tactic| k_extra "my with")
local macro_rules | `(tactic| walk_at "eval Name") => `(tactic| k_extra "my free")
local macro_rules | `(tactic| walk_at "subscriptTail") => `(tactic| k_extra "my item")
local macro_rules | `(tactic| walk_at "FnAt") => `(tactic| k_extra "my fnat")
local macro_rules | `(tactic| walk_at "binaryOp RShift int int") => `(tactic| k_extra "my shr")
local macro_rules | `(tactic| walk_at "binaryOp LShift int int") => `(tactic| k_extra "my shl")
theorem d2iInner (w : World) {name : Str} {params : Arguments} {body : List Stmt} {scope : Scope} {pos : Pos} (hin : innerOf (hd1.heap_39 w.params) 46 = some (name, params, body, scope, pos))
    {f c' cD cI cN l : Addr} {qual : Str} {doc pm ctv : Value} {clos : List (Str × Addr)} {vs : List Value} {ns : List Int} {tn : Tok}
    (cd : clos.lookup (Str.ofString "digits") = some cD) (ci : clos.lookup (Str.ofString "inner") = some cI) (cn' : clos.lookup (Str.ofString "n") = some cN)
    (hi' : IntsAre vs ns) (hbits : ∀ d ∈ ns, 0 ≤ d ∧ d ≤ 1) (hlen : ns.length ≤ 64) :
    ∀ (k : Nat) {p : Program} {loose : List Str} {mean : ExcName → Option Value} {mg mb : Str → Option Value} {dp un : Nat} {gd : Option (List Code)} {cn : Str} {cs : Scope} {a : Addr} {ccd : Value} {cl : List (Str × Addr)} {outer : List Env}
    {A₀ : Around} {base h₀ : Heap} {L : Addr} {m : Str → Option Value} {s : Shared} {Q E : Value → Shared → Prop}
    (B : Below A₀ base outer h₀) (F : Fr h₀ L s.heap m) (X : (hd1.heap_39 w.params).In h₀) (T : Top p loose mean mg mb h₀) (hk : cs.kind = .function)
    {lo hi : Nat} {t1 t2 : Tok} {oD oI oN : Obj},
    (hf : s.heap.get? f = some (fnMade name qual params body scope clos doc pm c' ctv)) → (hcode : s.heap.CodeRec (.ref c') qual) →
    (gD : s.heap.get? cD = some oD) → (dD : oD.data = .cell (some (.ref l))) → (gI : s.heap.get? cI = some oI) → (dI : oI.data = .cell (some (.ref f))) → (gN : s.heap.get? cN = some oN) → (dN : oN.data = .cell (some (.int 1 tn))) →
    (hl : s.heap.IsList l vs.toArray) → (hlt : lo < hi) → (hle : hi ≤ ns.length) → (hkk : hi - lo ≤ k) →
    (hd : dp + k + 3 < recursionLimit) → (hu : un + 16 * k + 100 < cLine) →
    (hret : ∀ h' tk' t, (∀ b o, s.heap.get? b = some o → h'.get? b = some o) → Q (.int (dval (seg ns lo hi)) t) { s with heap := h', toks := tk' }) →
    wpAny (model PySem.Challenge.rw_ia0004_01.row.prog w) (ktrTop dp un gd cn cs L a ccd cl outer) (call (.ref f) [.int (lo : Int) t1, .int (hi : Int) t2]) Q E s := by
  cases hin
  intro k
  induction k with
  | zero => intros; omega
  | succ k ih => ?_
  intro p loose mean mg mb dp un gd cn cs a ccd cl outer A₀ base h₀ L m s Q E B F X T hk lo hi t1 t2 oD oI oN hf hcode gD dD gI dI gN dN hl hlt hle hkk hd hu hret
  revert X
  k_fill
  intro X
  k_with_none
  w_top off
  refine' con_plain (mu := []) (post := fun v _ => ∃ t, v = .int (dval (seg ns lo hi)) t) B F News.nil T.nolimit rfl rfl hk hf rfl hcode ?k8 (BindsTo.of_eq rfl) (locs rfl) ?_ ?_ (by decide) rfl rfl rfl
  (case k8 => ktr_room)
  rotate_left
  · rintro r h' tk' he ⟨t, rfl⟩
    exact hret _ _ _ (fun b o e => he b o e (List.not_mem_nil))
  intro g' L' h' hg F' N' B' l1 st hz'
  have X' := X.keeps st
  have T' := T.keeps st
  have up : ∀ b o, s.heap.get? b = some o → g'.get? b = some o := fun b o e => hg b o e List.not_mem_nil
  have hl' : g'.IsList l vs.toArray := by
    obtain ⟨o, e, r⟩ := hl
    exact ⟨o, up _ _ e, r⟩
  have hf' := up _ _ hf
  have gD' := up _ _ gD
  have gI' := up _ _ gI
  have gN' := up _ _ gN
  have hc' := hcode.keeps up
  show wpAny _ _ _ _ _ _
  k_fold
  k_with "my free" => (k_dflt (refine' free_base ?a ?b ?c ?d ?_ ?e ?x; (case a => k_asm); (case b => assumption); (case c => assumption); (case d => assumption); (case e => rfl); (case x => rfl)))
  k_with "my shr" => (refine shr1 ?_)
  k_with "my shl" => (refine' shl_nat (k := (lo + hi) / 2 - lo) (j := 64) ?n ?h0 ?h1 ?hj ?_; (case n => (first | exact mid_int hlt | exact mid_sub hlt | exact mid_lt hlt | exact mid_le hlt | exact mid_gt hlt (by assumption) | exact mid_up hlt hkk (by assumption) | exact mid_dn hlt hkk | exact mid_low hlt | exact mid_high hlt | exact mid_len hlt hle | exact mid_in hlt hle | exact mid_small hlt hle hlen (by decide) | exact mid_64 hlt hle hlen | exact hlen | exact hle | omega)); (case h0 => exact (dval_seg_lt hbits hlen (by (first | exact mid_int hlt | exact mid_sub hlt | exact mid_lt hlt | exact mid_le hlt | exact mid_gt hlt (by assumption) | exact mid_up hlt hkk (by assumption) | exact mid_dn hlt hkk | exact mid_low hlt | exact mid_high hlt | exact mid_len hlt hle | exact mid_in hlt hle | exact mid_small hlt hle hlen (by decide) | exact mid_64 hlt hle hlen | exact hlen | exact hle | omega))).1); (case h1 => exact (dval_seg_lt hbits hlen (by (first | exact mid_int hlt | exact mid_sub hlt | exact mid_lt hlt | exact mid_le hlt | exact mid_gt hlt (by assumption) | exact mid_up hlt hkk (by assumption) | exact mid_dn hlt hkk | exact mid_low hlt | exact mid_high hlt | exact mid_len hlt hle | exact mid_in hlt hle | exact mid_small hlt hle hlen (by decide) | exact mid_64 hlt hle hlen | exact hlen | exact hle | omega))).2); (case hj => (first | exact mid_int hlt | exact mid_sub hlt | exact mid_lt hlt | exact mid_le hlt | exact mid_gt hlt (by assumption) | exact mid_up hlt hkk (by assumption) | exact mid_dn hlt hkk | exact mid_low hlt | exact mid_high hlt | exact mid_len hlt hle | exact mid_in hlt hle | exact mid_small hlt hle hlen (by decide) | exact mid_64 hlt hle hlen | exact hlen | exact hle | omega)))
  k_with "my with" => (refine' callWith_F ?k1 ?_; (case k1 => exact ⟨_, _, _, _, Fr.keep (by k_asm) _ _ hf'⟩))
  k_with "my fnat" => (exact ⟨_, _, _, _, Fr.keep (by k_asm) _ _ hf'⟩)
  k_with "my call" => ((first | refine' ih (lo := (lo + hi) / 2) (hi := hi) (oD := oD) (oI := oI) (oN := oN) ?B ?F ?X ?T ?hk ?f ?c ?gD dD ?gI dI ?gN dN ?l ?lt ?le ?kk ?hd ?hu ?_ | refine' ih (lo := lo) (hi := (lo + hi) / 2) (oD := oD) (oI := oI) (oN := oN) ?B ?F ?X ?T ?hk ?f ?c ?gD dD ?gI dI ?gN dN ?l ?lt ?le ?kk ?hd ?hu ?_); (case B => k_asm); (case F => k_asm); (case X => k_asm); (case T => k_asm); (case hk => exact rfl); (case f => exact Fr.keep (by k_asm) _ _ hf'); (case c => exact hc'.keeps (Fr.keep (by k_asm))); (case gD => exact Fr.keep (by k_asm) _ _ gD'); (case gI => exact Fr.keep (by k_asm) _ _ gI'); (case gN => exact Fr.keep (by k_asm) _ _ gN'); (case l => exact hl'.at fun o e => Fr.keep (by k_asm) _ o e); (case lt => (first | exact mid_int hlt | exact mid_sub hlt | exact mid_lt hlt | exact mid_le hlt | exact mid_gt hlt (by assumption) | exact mid_up hlt hkk (by assumption) | exact mid_dn hlt hkk | exact mid_low hlt | exact mid_high hlt | exact mid_len hlt hle | exact mid_in hlt hle | exact mid_small hlt hle hlen (by decide) | exact mid_64 hlt hle hlen | exact hlen | exact hle | omega)); (case le => (first | exact mid_int hlt | exact mid_sub hlt | exact mid_lt hlt | exact mid_le hlt | exact mid_gt hlt (by assumption) | exact mid_up hlt hkk (by assumption) | exact mid_dn hlt hkk | exact mid_low hlt | exact mid_high hlt | exact mid_len hlt hle | exact mid_in hlt hle | exact mid_small hlt hle hlen (by decide) | exact mid_64 hlt hle hlen | exact hlen | exact hle | omega)); (case kk => (first | exact mid_int hlt | exact mid_sub hlt | exact mid_lt hlt | exact mid_le hlt | exact mid_gt hlt (by assumption) | exact mid_up hlt hkk (by assumption) | exact mid_dn hlt hkk | exact mid_low hlt | exact mid_high hlt | exact mid_len hlt hle | exact mid_in hlt hle | exact mid_small hlt hle hlen (by decide) | exact mid_64 hlt hle hlen | exact hlen | exact hle | omega)); (case hd => ktr_room); (case hu => ktr_units); (intro h9 tk9 t9 e9; (try dsimp only at e9); (have F9 := ext_F (by k_asm) e9); (have N9 := ext_N (by k_asm) e9); (try dsimp only); (try k_sweep); (try k_fold)))
  k_with "my item" => (obtain ⟨t0, hv⟩ := hi'.get lo ns[lo] (List.getElem?_eq_getElem (by (first | exact mid_int hlt | exact mid_sub hlt | exact mid_lt hlt | exact mid_le hlt | exact mid_gt hlt (by assumption) | exact mid_up hlt hkk (by assumption) | exact mid_dn hlt hkk | exact mid_low hlt | exact mid_high hlt | exact mid_len hlt hle | exact mid_in hlt hle | exact mid_small hlt hle hlen (by decide) | exact mid_64 hlt hle hlen | exact hlen | exact hle | omega))); refine item_base (by k_asm) hl' (by (first | exact mid_int hlt | exact mid_sub hlt | exact mid_lt hlt | exact mid_le hlt | exact mid_gt hlt (by assumption) | exact mid_up hlt hkk (by assumption) | exact mid_dn hlt hkk | exact mid_low hlt | exact mid_high hlt | exact mid_len hlt hle | exact mid_in hlt hle | exact mid_small hlt hle hlen (by decide) | exact mid_64 hlt hle hlen | exact hlen | exact hle | omega)) (by (first | exact mid_int hlt | exact mid_sub hlt | exact mid_lt hlt | exact mid_le hlt | exact mid_gt hlt (by assumption) | exact mid_up hlt hkk (by assumption) | exact mid_dn hlt hkk | exact mid_low hlt | exact mid_high hlt | exact mid_len hlt hle | exact mid_in hlt hle | exact mid_small hlt hle hlen (by decide) | exact mid_64 hlt hle hlen | exact hlen | exact hle | omega)) (by rw [Int.toNat_natCast]; exact hv) ?_)
  k_steps
  · show Done _ _ _ _ _
    exact Done.mk' (by k_asm) ⟨_, congrArg (fun z => Value.int z _) (seg_last (by (first | exact mid_int hlt | exact mid_sub hlt | exact mid_lt hlt | exact mid_le hlt | exact mid_gt hlt (by assumption) | exact mid_up hlt hkk (by assumption) | exact mid_dn hlt hkk | exact mid_low hlt | exact mid_high hlt | exact mid_len hlt hle | exact mid_in hlt hle | exact mid_small hlt hle hlen (by decide) | exact mid_64 hlt hle hlen | exact hlen | exact hle | omega)) (by (first | exact mid_int hlt | exact mid_sub hlt | exact mid_lt hlt | exact mid_le hlt | exact mid_gt hlt (by assumption) | exact mid_up hlt hkk (by assumption) | exact mid_dn hlt hkk | exact mid_low hlt | exact mid_high hlt | exact mid_len hlt hle | exact mid_in hlt hle | exact mid_small hlt hle hlen (by decide) | exact mid_64 hlt hle hlen | exact hlen | exact hle | omega)))⟩
  · exact Done.mk' (by k_asm) ⟨_, congrArg (fun z => Value.int z _) (dval_split (by (first | exact mid_int hlt | exact mid_sub hlt | exact mid_lt hlt | exact mid_le hlt | exact mid_gt hlt (by assumption) | exact mid_up hlt hkk (by assumption) | exact mid_dn hlt hkk | exact mid_low hlt | exact mid_high hlt | exact mid_len hlt hle | exact mid_in hlt hle | exact mid_small hlt hle hlen (by decide) | exact mid_64 hlt hle hlen | exact hlen | exact hle | omega)) (by (first | exact mid_int hlt | exact mid_sub hlt | exact mid_lt hlt | exact mid_le hlt | exact mid_gt hlt (by assumption) | exact mid_up hlt hkk (by assumption) | exact mid_dn hlt hkk | exact mid_low hlt | exact mid_high hlt | exact mid_len hlt hle | exact mid_in hlt hle | exact mid_small hlt hle hlen (by decide) | exact mid_64 hlt hle hlen | exact hlen | exact hle | omega)) hle)⟩
end Mine

end
section
open PySem PySem.W PySem.Spec PySem.Calls PyProof.Rows
namespace Mine
local macro_rules | `(tactic| walk_at "call builtin:len") => `(tactic| (k_here; k_dflt (refine' len_base ?a ?b ?c ?_; (case a => k_asm); (case b => k_asm); (case c => omega); k_whole)))
local macro_rules | `(tactic| walk_at "call ref") => `(tactic| k_extra "my call")
local macro_rules | `(tactic| walk_at "truthy ref") => `(tactic| k_extra "my truth")
noncomputable def d2iQual : Str := Str.ofString "_digits2int.<locals>.inner"
theorem d2iNew (w : World) {p : Program} {loose : List Str} {mean : ExcName → Option Value} {mg mb : Str → Option Value} {dp un : Nat} {gd : Option (List Code)} {cn : Str} {cs : Scope} {a : Addr} {ccd : Value} {cl : List (Str × Addr)} {outer : List Env}
    {A₀ : Around} {base h₀ : Heap} {L : Addr} {m : Str → Option Value} {s : Shared} {Q E : Value → Shared → Prop}
    (B : Below A₀ base outer h₀) (F : Fr h₀ L s.heap m) (X : (hd1.heap_39 w.params).In h₀) (T : Top p loose mean mg mb h₀) (hk : cs.kind = .function) (C : CodeHd base 45 41)
    {l : Addr} {vs : List Value} {ns : List Int} {tn : Tok}
    (N : News h₀ L s.heap [(41, tabObj #[])]) (hlP : l ≠ 41)
    (hl : s.heap.IsList l vs.toArray) (hi' : IntsAre vs ns) (hbits : ∀ d ∈ ns, 0 ≤ d ∧ d ≤ 1) (hlen : ns.length ≤ 64)
    (hd : dp + 100 < recursionLimit) (hu : un + 2000 < cLine)
    (hret : ∀ h' tk' t c9, (∀ b o, s.heap.get? b = some o → b ∉ [41] → h'.get? b = some o) → h'.get? 41 = some (tabObj #[rawInt 47, rawInt 4, .ref c9]) → s.heap.objs.size ≤ c9 → CodeNew h' c9 d2iQual → Q (.int (dval ns) t) { s with heap := h', toks := tk' }) :
    wpAny (model PySem.Challenge.rw_ia0004_01.row.prog w) (ktrTop dp un gd cn cs L a ccd cl outer) (call (.ref 46) [.ref l, .int 1 tn]) Q E s := by
  revert X
  k_fill
  intro X
  k_with_none
  w_top off
  refine' con_defC (fun v h' => (∃ t, v = .int (dval ns) t) ∧ ∃ c9, h'.get? 41 = some (tabObj #[rawInt 47, rawInt 4, .ref c9]) ∧ s.heap.objs.size ≤ c9 ∧ CodeNew h' c9 d2iQual) ?k1 ?k2 ?k3 ?k4 ?k5 ?kA ?kF ?kK ?k6 ?k7 ?k8 ?k9 ?kB ?kD ?_ ?_ ?c2 ?c3 ?c4
  (case kA => exact rfl); (case kF => exact rfl); (case kK => first | assumption | exact rfl); (case k1 => k_asm); (case k2 => k_asm); (case k3 => k_asm); (case k4 => first | k_asm | exact News.nil); (case k5 => k_asm); (case k6 => k_is); (case k7 => k_is); (case k8 => ktr_room); (case k9 => first | exact BindsTo.of_eq rfl | exact binds_K (by k_in) rfl (by k_is) rfl rfl rfl | (refine' kp_binds ?kx ?ke; (case kx => k_in); (case ke => exact fun _ => rfl)))
  (case kB => exact rfl)
  (case kD => decide +kernel)
  (case c2 => exact rfl)
  (case c3 => exact rfl)
  (case c4 => exact rfl)
  rotate_left
  · intro r h' tk' he hq1
    refine shut fun hG => ?_
    obtain ⟨⟨t, rfl⟩, c9, e1, e2, e3⟩ := hq1
    refine hG ?_
    clear hG
    exact hret _ _ _ _ he e1 e2 e3
  intro g' L' h' tk' cells' hg F' N' Y' B' l1 X' T' hz'
  (try k_lt l1)
  k_cells Y'
  (try simp only [List.cons_append, List.nil_append] at N')
  (try dsimp only)
  have hl' : g'.IsList l vs.toArray := by
    obtain ⟨o, e, r⟩ := hl
    exact ⟨o, hg _ _ e (by simpa using hlP), r⟩
  have hlen' : vs.length = ns.length := hi'.length
  show wpAny _ _ _ _ _ _
  k_fold
  k_with "my truth" => (refine truthy_base (by k_asm) hl' (by omega) ?_)
  k_with "my call" => ((rename News _ _ _ _ => N7); rw [hlen']; refine' d2iInner w (name := Str.ofString "inner") ?hin ?cd ?ci ?cn hi' hbits hlen 64 (lo := 0) (hi := ns.length) ?B ?F ?X ?T ?hk ?f ?c ?gD ?dD ?gI ?dI ?gN ?dN ?l ?lt ?le ?kk ?hd ?hu ?_; (case B => k_asm); (case F => k_asm); (case X => k_asm); (case T => k_asm); (case hk => exact rfl); (case f => exact News.get N7 (by k_mem)); (case hin => exact rfl); (case cd => exact rfl); (case ci => exact rfl); (case cn => exact rfl); (case c => exact codeRec_news N7 (by k_mem) (by k_asm) (by k_asm)); (case gD => exact News.get N7 (by k_mem)); (case gI => exact News.get N7 (by k_mem)); (case gN => exact News.get N7 (by k_mem)); (case dD => k_asm); (case dI => k_asm); (case dN => k_asm); (case l => exact hl'.at fun o e => Fr.keep (by k_asm) _ o e); (case lt => omega); (case le => omega); (case kk => omega); (case hd => ktr_room); (case hu => ktr_units); (intro h9 tk9 t9 e9; (try dsimp only at e9); (have F9 := ext_F (by k_asm) e9); (have N9 := ext_N (by k_asm) e9); (try dsimp only); (try k_sweep); (try k_fold)))
  k_steps
  · (show Done _ _ _ _ _)
    (rename News _ _ _ _ => N8)
    exact Done.mk' (by k_asm) ⟨⟨_, congrArg (fun z => Value.int z _) (congrArg dval (seg_all ns))⟩, _, News.get N8 (by k_mem), by omega, codeNew_news N8 (by k_mem) (by k_asm) (by k_asm)⟩
  · (show Done _ _ _ _ _)
    (rename News _ _ _ _ => N8)
    have e0 : ns = [] := List.eq_nil_of_length_eq_zero (by omega)
    exact Done.mk' (by k_asm) ⟨⟨_, congrArg (fun z => Value.int z _) (by rw [e0]; rfl)⟩, _, News.get N8 (by k_mem), by omega, codeNew_news N8 (by k_mem) (by k_asm) (by k_asm)⟩

theorem d2iHit (w : World) {p : Program} {loose : List Str} {mean : ExcName → Option Value} {mg mb : Str → Option Value} {dp un : Nat} {gd : Option (List Code)} {cn : Str} {cs : Scope} {a : Addr} {ccd : Value} {cl : List (Str × Addr)} {outer : List Env}
    {A₀ : Around} {base h₀ : Heap} {L : Addr} {m : Str → Option Value} {s : Shared} {Q E : Value → Shared → Prop}
    (B : Below A₀ base outer h₀) (F : Fr h₀ L s.heap m) (X : (hd1.heap_39 w.params).In h₀) (T : Top p loose mean mg mb h₀) (hk : cs.kind = .function) (C : CodeHd base 45 41)
    {l : Addr} {vs : List Value} {ns : List Int} {tn : Tok} {c9 : Addr}
    (N : News h₀ L s.heap [(41, tabObj #[rawInt 47, rawInt 4, .ref c9])]) (hcr : s.heap.CodeRec (.ref c9) d2iQual) (hlP : l ≠ 41)
    (hl : s.heap.IsList l vs.toArray) (hi' : IntsAre vs ns) (hbits : ∀ d ∈ ns, 0 ≤ d ∧ d ≤ 1) (hlen : ns.length ≤ 64)
    (hd : dp + 100 < recursionLimit) (hu : un + 2000 < cLine)
    (hret : ∀ h' tk' t, (∀ b o, s.heap.get? b = some o → h'.get? b = some o) → Q (.int (dval ns) t) { s with heap := h', toks := tk' }) :
    wpAny (model PySem.Challenge.rw_ia0004_01.row.prog w) (ktrTop dp un gd cn cs L a ccd cl outer) (call (.ref 46) [.ref l, .int 1 tn]) Q E s := by
  revert X
  k_fill
  intro X
  k_with_none
  w_top off
  refine' con_defC (fun v h' => (∃ t, v = .int (dval ns) t) ∧ h'.get? 41 = some (tabObj #[rawInt 47, rawInt 4, .ref c9])) ?k1 ?k2 ?k3 ?k4 ?k5 ?kA ?kF ?kK ?k6 ?k7 ?k8 ?k9 ?kB ?kD ?_ ?_ ?c2 ?c3 ?c4
  (case kA => exact rfl); (case kF => exact rfl); (case kK => first | assumption | exact rfl); (case k1 => k_asm); (case k2 => k_asm); (case k3 => k_asm); (case k4 => first | k_asm | exact News.nil); (case k5 => k_asm); (case k6 => k_is); (case k7 => k_is); (case k8 => ktr_room); (case k9 => first | exact BindsTo.of_eq rfl | exact binds_K (by k_in) rfl (by k_is) rfl rfl rfl | (refine' kp_binds ?kx ?ke; (case kx => k_in); (case ke => exact fun _ => rfl)))
  (case kB => exact rfl)
  (case kD => decide +kernel)
  (case c2 => exact rfl)
  (case c3 => exact rfl)
  (case c4 => exact rfl)
  rotate_left
  · rintro r h' tk' he ⟨⟨t, rfl⟩, e1⟩
    exact hret _ _ _ (keep_one he (N _ (.head _)).1 e1)
  intro g' L' h' tk' cells' hg F' N' Y' B' l1 X' T' hz'
  (try k_lt l1)
  k_cells Y'
  (try simp only [List.cons_append, List.nil_append] at N')
  (try dsimp only)
  have hl' : g'.IsList l vs.toArray := by
    obtain ⟨o, e, r⟩ := hl
    exact ⟨o, hg _ _ e (by simpa using hlP), r⟩
  have hlen' : vs.length = ns.length := hi'.length
  have hcr' : g'.CodeRec (.ref c9) d2iQual := CodeRec_up hcr hg (N _ (.head _)).1
  show wpAny _ _ _ _ _ _
  k_fold
  k_with "my truth" => (refine truthy_base (by k_asm) hl' (by omega) ?_)
  k_with "my call" => ((rename News _ _ _ _ => N7); rw [hlen']; refine' d2iInner w (name := Str.ofString "inner") ?hin ?cd ?ci ?cn hi' hbits hlen 64 (lo := 0) (hi := ns.length) ?B ?F ?X ?T ?hk ?f ?c ?gD ?dD ?gI ?dI ?gN ?dN ?l ?lt ?le ?kk ?hd ?hu ?_; (case B => k_asm); (case F => k_asm); (case X => k_asm); (case T => k_asm); (case hk => exact rfl); (case f => exact News.get N7 (by k_mem)); (case hin => exact rfl); (case cd => exact rfl); (case ci => exact rfl); (case cn => exact rfl); (case c => exact hcr'.keeps (Fr.keep (by k_asm))); (case gD => exact News.get N7 (by k_mem)); (case gI => exact News.get N7 (by k_mem)); (case gN => exact News.get N7 (by k_mem)); (case dD => k_asm); (case dI => k_asm); (case dN => k_asm); (case l => exact hl'.at fun o e => Fr.keep (by k_asm) _ o e); (case lt => omega); (case le => omega); (case kk => omega); (case hd => ktr_room); (case hu => ktr_units); (intro h9 tk9 t9 e9; (try dsimp only at e9); (have F9 := ext_F (by k_asm) e9); (have N9 := ext_N (by k_asm) e9); (try dsimp only); (try k_sweep); (try k_fold)))
  k_steps
  · (show Done _ _ _ _ _)
    (rename News _ _ _ _ => N8)
    exact Done.mk' (by k_asm) ⟨⟨_, congrArg (fun z => Value.int z _) (congrArg dval (seg_all ns))⟩, News.get N8 (by k_mem)⟩
  · (show Done _ _ _ _ _)
    (rename News _ _ _ _ => N8)
    have e0 : ns = [] := List.eq_nil_of_length_eq_zero (by omega)
    exact Done.mk' (by k_asm) ⟨⟨_, congrArg (fun z => Value.int z _) (by rw [e0]; rfl)⟩, News.get N8 (by k_mem)⟩
end Mine

end
section
open PySem PySem.W PySem.Spec PySem.Calls PyProof.Rows
namespace Mine
local macro_rules | `(tactic| walk_at "call ref") => `(tactic| k_extra "my call")
local macro_rules | `(tactic| walk_at "callWith ref") => `(tactic| k_extra "my with")
local macro_rules | `(tactic| walk_at "eval Name") => `(tactic| k_extra "my free")
local macro_rules | `(tactic| walk_at "FnAt") => `(tactic| k_extra "my fnat")
local macro_rules | `(tactic| walk_at "setItem ref int") => `(tactic| k_extra "my set")
local macro_rules | `(tactic| walk_at "binaryOp RShift int int") => `(tactic| k_extra "my shr")
local macro_rules | `(tactic| walk_at "binaryOp LShift int int") => `(tactic| k_extra "my shl")
local macro_rules | `(tactic| walk_at "binaryOp BitXor int int") => `(tactic| k_extra "my xor")
theorem i2dInner (w : World) {name : Str} {params : Arguments} {body : List Stmt} {scope : Scope} {pos : Pos} (hin : innerOf (hd1.heap_39 w.params) 39 = some (name, params, body, scope, pos))
    {f c' cD cI cN l : Addr} {qual : Str} {doc pm ctv : Value} {clos : List (Str × Addr)} {n : Nat} {tn : Tok}
    (cd : clos.lookup (Str.ofString "a_digits") = some cD) (ci : clos.lookup (Str.ofString "inner") = some cI) (cn' : clos.lookup (Str.ofString "n") = some cN) :
    ∀ (k : Nat) {p : Program} {loose : List Str} {mean : ExcName → Option Value} {mg mb : Str → Option Value} {dp un : Nat} {gd : Option (List Code)} {cn : Str} {cs : Scope} {a : Addr} {ccd : Value} {cl : List (Str × Addr)} {outer : List Env}
    {A₀ : Around} {base h₀ : Heap} {L : Addr} {m : Str → Option Value} {s : Shared} {Q E : Value → Shared → Prop}
    (B : Below A₀ base outer h₀) (F : Fr h₀ L s.heap m) (X : (hd1.heap_39 w.params).In h₀) (T : Top p loose mean mg mb h₀) (hk : cs.kind = .function)
    {lo hi : Nat} {x : Int} {tx t1 t2 : Tok} {oD oI oN : Obj} {vs : List Value} {ds : List Int},
    (hf : s.heap.get? f = some (fnMade name qual params body scope clos doc pm c' ctv)) → (hcode : s.heap.CodeRec (.ref c') qual) →
    (gD : s.heap.get? cD = some oD) → (dD : oD.data = .cell (some (.ref l))) → (gI : s.heap.get? cI = some oI) → (dI : oI.data = .cell (some (.ref f))) → (gN : s.heap.get? cN = some oN) → (dN : oN.data = .cell (some (.int 1 tn))) →
    (N : News h₀ L s.heap [(l, listOf vs.toArray n)]) → (ii : IntsAre vs ds) → (hlt : lo < hi) → (hle : hi ≤ ds.length) → (hkk : hi - lo ≤ k) → (hk6 : hi - lo ≤ 6) → (hlen : ds.length ≤ 64) → (hx0 : 0 ≤ x) → (hx1 : x < 2 ^ (hi - lo)) →
    (hd : dp + k + 3 < recursionLimit) → (hu : un + 16 * k + 100 < cLine) →
    (hret : ∀ r h' tk' vs', (∀ b o, s.heap.get? b = some o → b ∉ [l] → h'.get? b = some o) → h'.get? l = some (listOf vs'.toArray n) → IntsAre vs' (blit ds lo (bitsOf (hi - lo) x)) → Q r { s with heap := h', toks := tk' }) →
    wpAny (model PySem.Challenge.rw_ia0004_01.row.prog w) (ktrTop dp un gd cn cs L a ccd cl outer) (call (.ref f) [.int x tx, .int (lo : Int) t1, .int (hi : Int) t2]) Q E s := by
  cases hin
  intro k
  induction k with
  | zero => intros; omega
  | succ k ih => ?_
  intro p loose mean mg mb dp un gd cn cs a ccd cl outer A₀ base h₀ L m s Q E B F X T hk lo hi x tx t1 t2 oD oI oN vs ds hf hcode gD dD gI dI gN dN N ii hlt hle hkk hk6 hlen hx0 hx1 hd hu hret
  revert X
  k_fill
  intro X
  k_with_none
  w_top off
  refine' con_plain (mu := [(l, listOf vs.toArray n)]) (post := fun _ h' => ∃ vs', h'.get? l = some (listOf vs'.toArray n) ∧ IntsAre vs' (blit ds lo (bitsOf (hi - lo) x))) B F N T.nolimit rfl rfl hk hf rfl hcode ?k8 (BindsTo.of_eq rfl) (locs rfl) ?_ ?_ (by decide) rfl rfl rfl
  (case k8 => ktr_room)
  rotate_left
  · rintro r h' tk' he ⟨vs', e1, e2⟩
    exact hret _ _ _ _ he e1 e2
  intro g' L' h' hg F' N' B' l1 st hz'
  have X' := X.keeps st
  have T' := T.keeps st
  have hll := (N _ (.head _)).1
  have hf' := up_list hg hll hf (by intro _ _ e; cases e)
  have gD' := up_list hg hll gD (by rw [dD]; intro _ _ e; cases e)
  have gI' := up_list hg hll gI (by rw [dI]; intro _ _ e; cases e)
  have gN' := up_list hg hll gN (by rw [dN]; intro _ _ e; cases e)
  have hc' := codeRec_upl hcode hg hll
  have hlen' : vs.length = ds.length := ii.length
  refine shut fun hG => ?_
  obtain ⟨p1, p2, p3, p4, p5, p6⟩ := bit_parts (j := (lo + hi) / 2 - lo) hx0 hx1 (by (first | exact mid_int hlt | exact mid_sub hlt | exact mid_lt hlt | exact mid_le hlt | exact mid_gt hlt (by assumption) | exact mid_up hlt hkk (by assumption) | exact mid_dn hlt hkk | exact mid_low hlt | exact mid_high hlt | exact mid_len hlt hle | exact mid_in hlt hle | exact mid_small hlt hle hlen (by decide) | exact mid_64 hlt hle hlen | exact hlen | exact hle | exact Nat.le_trans (mid_high hlt) hk6 | exact Nat.le_trans (mid_low hlt) hk6 | exact Nat.lt_succ_of_le (Nat.le_trans (mid_low hlt) hk6) | omega)) hk6
  refine hG ?_
  clear hG
  show wpAny _ _ _ _ _ _
  k_fold
  k_with "my free" => (k_dflt (refine' free_base ?a ?b ?c ?d ?_ ?e ?x; (case a => k_asm); (case b => assumption); (case c => assumption); (case d => assumption); (case e => rfl); (case x => rfl)))
  k_with "my shr" => (refine shr1 ?_)
  k_with "my shr" => (refine shrk (k := (lo + hi) / 2 - lo) (by (first | exact mid_int hlt | exact mid_sub hlt | exact mid_lt hlt | exact mid_le hlt | exact mid_gt hlt (by assumption) | exact mid_up hlt hkk (by assumption) | exact mid_dn hlt hkk | exact mid_low hlt | exact mid_high hlt | exact mid_len hlt hle | exact mid_in hlt hle | exact mid_small hlt hle hlen (by decide) | exact mid_64 hlt hle hlen | exact hlen | exact hle | exact Nat.le_trans (mid_high hlt) hk6 | exact Nat.le_trans (mid_low hlt) hk6 | exact Nat.lt_succ_of_le (Nat.le_trans (mid_low hlt) hk6) | omega)) ?_)
  k_with "my shl" => (k_dflt (refine shl_nat (k := (lo + hi) / 2 - lo) (j := 6) (by (first | exact mid_int hlt | exact mid_sub hlt | exact mid_lt hlt | exact mid_le hlt | exact mid_gt hlt (by assumption) | exact mid_up hlt hkk (by assumption) | exact mid_dn hlt hkk | exact mid_low hlt | exact mid_high hlt | exact mid_len hlt hle | exact mid_in hlt hle | exact mid_small hlt hle hlen (by decide) | exact mid_64 hlt hle hlen | exact hlen | exact hle | exact Nat.le_trans (mid_high hlt) hk6 | exact Nat.le_trans (mid_low hlt) hk6 | exact Nat.lt_succ_of_le (Nat.le_trans (mid_low hlt) hk6) | omega)) p3 p6 (by (first | exact mid_int hlt | exact mid_sub hlt | exact mid_lt hlt | exact mid_le hlt | exact mid_gt hlt (by assumption) | exact mid_up hlt hkk (by assumption) | exact mid_dn hlt hkk | exact mid_low hlt | exact mid_high hlt | exact mid_len hlt hle | exact mid_in hlt hle | exact mid_small hlt hle hlen (by decide) | exact mid_64 hlt hle hlen | exact hlen | exact hle | exact Nat.le_trans (mid_high hlt) hk6 | exact Nat.le_trans (mid_low hlt) hk6 | exact Nat.lt_succ_of_le (Nat.le_trans (mid_low hlt) hk6) | omega)) ?_))
  k_with "my xor" => (k_dflt (refine xor_low (k := (lo + hi) / 2 - lo) hx0 p5 (by (first | exact mid_int hlt | exact mid_sub hlt | exact mid_lt hlt | exact mid_le hlt | exact mid_gt hlt (by assumption) | exact mid_up hlt hkk (by assumption) | exact mid_dn hlt hkk | exact mid_low hlt | exact mid_high hlt | exact mid_len hlt hle | exact mid_in hlt hle | exact mid_small hlt hle hlen (by decide) | exact mid_64 hlt hle hlen | exact hlen | exact hle | exact Nat.le_trans (mid_high hlt) hk6 | exact Nat.le_trans (mid_low hlt) hk6 | exact Nat.lt_succ_of_le (Nat.le_trans (mid_low hlt) hk6) | omega)) ?_))
  k_with "my with" => (refine' callWith_F ?k1 ?_; (case k1 => exact ⟨_, _, _, _, Fr.keep (by k_asm) _ _ hf'⟩))
  k_with "my fnat" => (exact ⟨_, _, _, _, Fr.keep (by k_asm) _ _ hf'⟩)
  k_with "my call" => (refine' ih (lo := lo) (hi := (lo + hi) / 2) (x := x % 2 ^ ((lo + hi) / 2 - lo)) (oD := oD) (oI := oI) (oN := oN) ?B ?F ?X ?T ?hk ?f ?c ?gD dD ?gI dI ?gN dN ?N ?ii ?lt ?le ?kk ?k6 ?hlen ?x0 ?x1 ?hd ?hu ?_; (case B => k_asm); (case F => k_asm); (case X => k_asm); (case T => k_asm); (case hk => exact rfl); (case f => exact Fr.keep (by k_asm) _ _ hf'); (case c => exact hc'.keeps (Fr.keep (by k_asm))); (case gD => exact Fr.keep (by k_asm) _ _ gD'); (case gI => exact Fr.keep (by k_asm) _ _ gI'); (case gN => exact Fr.keep (by k_asm) _ _ gN'); (case N => k_asm); (case ii => k_asm); (case lt => (first | exact mid_int hlt | exact mid_sub hlt | exact mid_lt hlt | exact mid_le hlt | exact mid_gt hlt (by assumption) | exact mid_up hlt hkk (by assumption) | exact mid_dn hlt hkk | exact mid_low hlt | exact mid_high hlt | exact mid_len hlt hle | exact mid_in hlt hle | exact mid_small hlt hle hlen (by decide) | exact mid_64 hlt hle hlen | exact hlen | exact hle | exact Nat.le_trans (mid_high hlt) hk6 | exact Nat.le_trans (mid_low hlt) hk6 | exact Nat.lt_succ_of_le (Nat.le_trans (mid_low hlt) hk6) | omega)); (case le => (first | exact mid_int hlt | exact mid_sub hlt | exact mid_lt hlt | exact mid_le hlt | exact mid_gt hlt (by assumption) | exact mid_up hlt hkk (by assumption) | exact mid_dn hlt hkk | exact mid_low hlt | exact mid_high hlt | exact mid_len hlt hle | exact mid_in hlt hle | exact mid_small hlt hle hlen (by decide) | exact mid_64 hlt hle hlen | exact hlen | exact hle | exact Nat.le_trans (mid_high hlt) hk6 | exact Nat.le_trans (mid_low hlt) hk6 | exact Nat.lt_succ_of_le (Nat.le_trans (mid_low hlt) hk6) | omega)); (case kk => (first | exact mid_int hlt | exact mid_sub hlt | exact mid_lt hlt | exact mid_le hlt | exact mid_gt hlt (by assumption) | exact mid_up hlt hkk (by assumption) | exact mid_dn hlt hkk | exact mid_low hlt | exact mid_high hlt | exact mid_len hlt hle | exact mid_in hlt hle | exact mid_small hlt hle hlen (by decide) | exact mid_64 hlt hle hlen | exact hlen | exact hle | exact Nat.le_trans (mid_high hlt) hk6 | exact Nat.le_trans (mid_low hlt) hk6 | exact Nat.lt_succ_of_le (Nat.le_trans (mid_low hlt) hk6) | omega)); (case k6 => (first | exact mid_int hlt | exact mid_sub hlt | exact mid_lt hlt | exact mid_le hlt | exact mid_gt hlt (by assumption) | exact mid_up hlt hkk (by assumption) | exact mid_dn hlt hkk | exact mid_low hlt | exact mid_high hlt | exact mid_len hlt hle | exact mid_in hlt hle | exact mid_small hlt hle hlen (by decide) | exact mid_64 hlt hle hlen | exact hlen | exact hle | exact Nat.le_trans (mid_high hlt) hk6 | exact Nat.le_trans (mid_low hlt) hk6 | exact Nat.lt_succ_of_le (Nat.le_trans (mid_low hlt) hk6) | omega)); (case hlen => (first | exact mid_int hlt | exact mid_sub hlt | exact mid_lt hlt | exact mid_le hlt | exact mid_gt hlt (by assumption) | exact mid_up hlt hkk (by assumption) | exact mid_dn hlt hkk | exact mid_low hlt | exact mid_high hlt | exact mid_len hlt hle | exact mid_in hlt hle | exact mid_small hlt hle hlen (by decide) | exact mid_64 hlt hle hlen | exact hlen | exact hle | exact Nat.le_trans (mid_high hlt) hk6 | exact Nat.le_trans (mid_low hlt) hk6 | exact Nat.lt_succ_of_le (Nat.le_trans (mid_low hlt) hk6) | omega)); (case x0 => exact p1); (case x1 => exact p2); (case hd => ktr_room); (case hu => ktr_units); (intro r9 h9 tk9 vs9 e9 g9 i9; (try dsimp only at e9); (refine' after_go ?aF ?aN ?aU e9 g9 ?_; (case aF => k_asm); (case aN => k_asm); (case aU => k_upd); intro F9 N9); (try dsimp only); (try k_sweep); (try k_fold)))
  k_with "my call" => (refine' ih (lo := (lo + hi) / 2) (hi := hi) (x := x / 2 ^ ((lo + hi) / 2 - lo)) (oD := oD) (oI := oI) (oN := oN) ?B ?F ?X ?T ?hk ?f ?c ?gD dD ?gI dI ?gN dN ?N ?ii ?lt ?le ?kk ?k6 ?hlen ?x0 ?x1 ?hd ?hu ?_; (case B => k_asm); (case F => k_asm); (case X => k_asm); (case T => k_asm); (case hk => exact rfl); (case f => exact Fr.keep (by k_asm) _ _ hf'); (case c => exact hc'.keeps (Fr.keep (by k_asm))); (case gD => exact Fr.keep (by k_asm) _ _ gD'); (case gI => exact Fr.keep (by k_asm) _ _ gI'); (case gN => exact Fr.keep (by k_asm) _ _ gN'); (case N => k_asm); (case ii => k_asm); (case lt => (first | exact mid_int hlt | exact mid_sub hlt | exact mid_lt hlt | exact mid_le hlt | exact mid_gt hlt (by assumption) | exact mid_up hlt hkk (by assumption) | exact mid_dn hlt hkk | exact mid_low hlt | exact mid_high hlt | exact mid_len hlt hle | exact mid_in hlt hle | exact mid_small hlt hle hlen (by decide) | exact mid_64 hlt hle hlen | exact hlen | exact hle | exact Nat.le_trans (mid_high hlt) hk6 | exact Nat.le_trans (mid_low hlt) hk6 | exact Nat.lt_succ_of_le (Nat.le_trans (mid_low hlt) hk6) | omega)); (case le => rw [blit_length (by rw [bitsOf_length]; omega)]; omega); (case kk => (first | exact mid_int hlt | exact mid_sub hlt | exact mid_lt hlt | exact mid_le hlt | exact mid_gt hlt (by assumption) | exact mid_up hlt hkk (by assumption) | exact mid_dn hlt hkk | exact mid_low hlt | exact mid_high hlt | exact mid_len hlt hle | exact mid_in hlt hle | exact mid_small hlt hle hlen (by decide) | exact mid_64 hlt hle hlen | exact hlen | exact hle | exact Nat.le_trans (mid_high hlt) hk6 | exact Nat.le_trans (mid_low hlt) hk6 | exact Nat.lt_succ_of_le (Nat.le_trans (mid_low hlt) hk6) | omega)); (case k6 => (first | exact mid_int hlt | exact mid_sub hlt | exact mid_lt hlt | exact mid_le hlt | exact mid_gt hlt (by assumption) | exact mid_up hlt hkk (by assumption) | exact mid_dn hlt hkk | exact mid_low hlt | exact mid_high hlt | exact mid_len hlt hle | exact mid_in hlt hle | exact mid_small hlt hle hlen (by decide) | exact mid_64 hlt hle hlen | exact hlen | exact hle | exact Nat.le_trans (mid_high hlt) hk6 | exact Nat.le_trans (mid_low hlt) hk6 | exact Nat.lt_succ_of_le (Nat.le_trans (mid_low hlt) hk6) | omega)); (case hlen => rw [blit_length (by rw [bitsOf_length]; omega)]; omega); (case x0 => exact p3); (case x1 => rw [show hi - (lo + hi) / 2 = hi - lo - ((lo + hi) / 2 - lo) by (first | exact mid_int hlt | exact mid_sub hlt | exact mid_lt hlt | exact mid_le hlt | exact mid_gt hlt (by assumption) | exact mid_up hlt hkk (by assumption) | exact mid_dn hlt hkk | exact mid_low hlt | exact mid_high hlt | exact mid_len hlt hle | exact mid_in hlt hle | exact mid_small hlt hle hlen (by decide) | exact mid_64 hlt hle hlen | exact hlen | exact hle | exact Nat.le_trans (mid_high hlt) hk6 | exact Nat.le_trans (mid_low hlt) hk6 | exact Nat.lt_succ_of_le (Nat.le_trans (mid_low hlt) hk6) | omega)]; exact p4); (case hd => ktr_room); (case hu => ktr_units); (intro r8 h8 tk8 vs8 e8 g8 i8; (try dsimp only at e8); (refine' after_go ?aF ?aN ?aU e8 g8 ?_; (case aF => k_asm); (case aN => k_asm); (case aU => k_upd); intro F8 N8); (try dsimp only); (try k_sweep); (try k_fold)))
  k_steps
  · (show Done _ _ _ _ _)
    (rename News _ _ _ _ => N1)
    (rename IntsAre _ _ => i1)
    exact Done.mk' (by k_asm) ⟨_, (N1 _ (.head _)).1, (set_bits (ds := ds) (lo := lo) (hi := hi) (by (first | exact mid_int hlt | exact mid_sub hlt | exact mid_lt hlt | exact mid_le hlt | exact mid_gt hlt (by assumption) | exact mid_up hlt hkk (by assumption) | exact mid_dn hlt hkk | exact mid_low hlt | exact mid_high hlt | exact mid_len hlt hle | exact mid_in hlt hle | exact mid_small hlt hle hlen (by decide) | exact mid_64 hlt hle hlen | exact hlen | exact hle | exact Nat.le_trans (mid_high hlt) hk6 | exact Nat.le_trans (mid_low hlt) hk6 | exact Nat.lt_succ_of_le (Nat.le_trans (mid_low hlt) hk6) | omega)) (by (first | exact mid_int hlt | exact mid_sub hlt | exact mid_lt hlt | exact mid_le hlt | exact mid_gt hlt (by assumption) | exact mid_up hlt hkk (by assumption) | exact mid_dn hlt hkk | exact mid_low hlt | exact mid_high hlt | exact mid_len hlt hle | exact mid_in hlt hle | exact mid_small hlt hle hlen (by decide) | exact mid_64 hlt hle hlen | exact hlen | exact hle | exact Nat.le_trans (mid_high hlt) hk6 | exact Nat.le_trans (mid_low hlt) hk6 | exact Nat.lt_succ_of_le (Nat.le_trans (mid_low hlt) hk6) | omega)) hx0 hx1) ▸ i1⟩
  · (rename News _ _ _ _ => N1)
    (rename IntsAre _ _ => i1)
    exact Done.mk' (by k_asm) ⟨_, (N1 _ (.head _)).1, (blit_bits (ds := ds) (lo := lo) (mid := (lo + hi) / 2) (hi := hi) (x := x) (by (first | exact mid_int hlt | exact mid_sub hlt | exact mid_lt hlt | exact mid_le hlt | exact mid_gt hlt (by assumption) | exact mid_up hlt hkk (by assumption) | exact mid_dn hlt hkk | exact mid_low hlt | exact mid_high hlt | exact mid_len hlt hle | exact mid_in hlt hle | exact mid_small hlt hle hlen (by decide) | exact mid_64 hlt hle hlen | exact hlen | exact hle | exact Nat.le_trans (mid_high hlt) hk6 | exact Nat.le_trans (mid_low hlt) hk6 | exact Nat.lt_succ_of_le (Nat.le_trans (mid_low hlt) hk6) | omega)) (by (first | exact mid_int hlt | exact mid_sub hlt | exact mid_lt hlt | exact mid_le hlt | exact mid_gt hlt (by assumption) | exact mid_up hlt hkk (by assumption) | exact mid_dn hlt hkk | exact mid_low hlt | exact mid_high hlt | exact mid_len hlt hle | exact mid_in hlt hle | exact mid_small hlt hle hlen (by decide) | exact mid_64 hlt hle hlen | exact hlen | exact hle | exact Nat.le_trans (mid_high hlt) hk6 | exact Nat.le_trans (mid_low hlt) hk6 | exact Nat.lt_succ_of_le (Nat.le_trans (mid_low hlt) hk6) | omega)) hle) ▸ i1⟩
end Mine

end
section
open PySem PySem.W PySem.Spec PySem.Calls PyProof.Rows
namespace Mine
local macro_rules | `(tactic| walk_at "call ref") => `(tactic| k_extra "my call")
local macro_rules | `(tactic| walk_at "call builtin:len") => `(tactic| k_extra "my len")
local macro_rules | `(tactic| walk_at "binaryOp Mult ref int") => `(tactic| k_extra "my mul")
noncomputable def i2dQual : Str := Str.ofString "_int2digits.<locals>.inner"
theorem i2dNew (w : World) {p : Program} {loose : List Str} {mean : ExcName → Option Value} {mg mb : Str → Option Value} {dp un : Nat} {gd : Option (List Code)} {cn : Str} {cs : Scope} {a : Addr} {ccd : Value} {cl : List (Str × Addr)} {outer : List Env}
    {A₀ : Around} {base h₀ : Heap} {L : Addr} {m : Str → Option Value} {s : Shared} {Q E : Value → Shared → Prop}
    (B : Below A₀ base outer h₀) (F : Fr h₀ L s.heap m) (X : (hd1.heap_39 w.params).In h₀) (T : Top p loose mean mg mb h₀) (hk : cs.kind = .function) (C : CodeHd base 38 34)
    {x : Int} {tx tn : Tok}
    (N : News h₀ L s.heap [(34, tabObj #[])]) (hx0 : 0 ≤ x) (hx1 : x < 64)
    (hd : dp + 100 < recursionLimit) (hu : un + 2000 < cLine)
    (hret : ∀ l vs n h' tk' c9, (∀ b o, s.heap.get? b = some o → b ∉ [34] → h'.get? b = some o) → h'.get? 34 = some (tabObj #[rawInt 32, rawInt 4, .ref c9]) → s.heap.objs.size ≤ c9 → CodeNew h' c9 i2dQual → c9 ≠ l → s.heap.objs.size ≤ l → h'.get? l = some (listOf vs.toArray n) → IntsAre vs (bitsOf (Builtin.Int.intBits x) x) → Q (.ref l) { s with heap := h', toks := tk' }) :
    wpAny (model PySem.Challenge.rw_ia0004_01.row.prog w) (ktrTop dp un gd cn cs L a ccd cl outer) (call (.ref 39) [.int x tx, .int 1 tn]) Q E s := by
  obtain ⟨b1, b2, b3⟩ := bits_of hx0 hx1
  revert X
  k_fill
  intro X
  k_with_none
  w_top off
  refine' con_defC (fun v h' => ∃ l vs n c9, v = .ref l ∧ h'.get? 34 = some (tabObj #[rawInt 32, rawInt 4, .ref c9]) ∧ s.heap.objs.size ≤ c9 ∧ CodeNew h' c9 i2dQual ∧ c9 ≠ l ∧ s.heap.objs.size ≤ l ∧ h'.get? l = some (listOf vs.toArray n) ∧ IntsAre vs (bitsOf (Builtin.Int.intBits x) x)) ?k1 ?k2 ?k3 ?k4 ?k5 ?kA ?kF ?kK ?k6 ?k7 ?k8 ?k9 ?kB ?kD ?_ ?_ ?c2 ?c3 ?c4
  (case kA => exact rfl); (case kF => exact rfl); (case kK => first | assumption | exact rfl); (case k1 => k_asm); (case k2 => k_asm); (case k3 => k_asm); (case k4 => first | k_asm | exact News.nil); (case k5 => k_asm); (case k6 => k_is); (case k7 => k_is); (case k8 => ktr_room); (case k9 => first | exact BindsTo.of_eq rfl | exact binds_K (by k_in) rfl (by k_is) rfl rfl rfl | (refine' kp_binds ?kx ?ke; (case kx => k_in); (case ke => exact fun _ => rfl)))
  (case kB => exact rfl)
  (case kD => decide +kernel)
  (case c2 => exact rfl)
  (case c3 => exact rfl)
  (case c4 => exact rfl)
  rotate_left
  · intro r h' tk' he hq1
    refine shut fun hG => ?_
    obtain ⟨l, vs, n, c9, rfl, e1, e2, e3, e4, e5, e6, e7⟩ := hq1
    refine hG ?_
    clear hG
    exact hret _ _ _ _ _ _ he e1 e2 e3 e4 e5 e6 e7
  intro g' L' h' tk' cells' hg F' N' Y' B' l1 X' T' hz'
  (try k_lt l1)
  k_cells Y'
  (try simp only [List.cons_append, List.nil_append] at N')
  (try dsimp only)
  show wpAny _ _ _ _ _ _
  k_fold
  k_with "my mul" => ((k_dflt (refine' mul_ints (j := Builtin.Int.intBits x) ?mF ?mN ?mm ?mx ?mj ?_; (case mF => k_asm); (case mN => k_asm); (case mm => k_mem); (case mx => (rw [Int.fdiv_one]; omega)); (case mj => omega))); intro D7 h7 F7 N7 l7 i7; (try k_lt l7); (try k_sweep))
  k_with "my len" => (k_dflt (refine' len_news ?lN ?lm ?lz ?_; (case lN => k_asm); (case lm => k_mem); (case lz => (rw [List.length_replicate]; omega))))
  k_with "my call" => ((rename News _ _ _ _ => N7); (rename Fr _ _ _ _ => F7); rw [List.length_replicate]; refine' i2dInner w (name := Str.ofString "inner") (l := D7) ?hin ?cd ?ci ?cn 64 (lo := 0) (hi := Builtin.Int.intBits x) (ds := List.replicate (Builtin.Int.intBits x) 0) ?B ?F ?X ?T ?hk ?f ?c ?gD ?dD ?gI ?dI ?gN ?dN ?N i7 ?lt ?le ?kk ?k6 ?hlen hx0 ?x1 ?hd ?hu ?_; (case B => k_asm); (case F => k_asm); (case X => k_asm); (case T => k_asm); (case hk => exact rfl); (case f => exact News.get N7 (by k_mem)); (case hin => exact rfl); (case cd => exact rfl); (case ci => exact rfl); (case cn => exact rfl); (case c => exact codeRec_news N7 (by k_mem) (by k_asm) (by k_asm)); (case gD => exact News.get N7 (by k_mem)); (case gI => exact News.get N7 (by k_mem)); (case gN => exact News.get N7 (by k_mem)); (case dD => k_asm); (case dI => k_asm); (case dN => k_asm); (case N => exact after_one N7 (o' := default) (by k_upd)); (case lt => omega); (case le => rw [List.length_replicate]; omega); (case kk => omega); (case k6 => omega); (case hlen => rw [List.length_replicate]; omega); (case x1 => exact b1); (case hd => ktr_room); (case hu => ktr_units); (intro r8 h8 tk8 vs8 e8 g8 i8; (try dsimp only at e8); (refine' after_go ?aF ?aN ?aU e8 g8 ?_; (case aF => k_asm); (case aN => k_asm); (case aU => k_upd); intro F8 N8); (try dsimp only); (try k_sweep); (try k_fold)))
  k_steps
  · (show Done _ _ _ _ _)
    (rename News _ _ _ _ => N1)
    exact Done.mk' (by k_asm) ⟨D7, vs8, 0, _, rfl, News.get N1 (by k_mem), by omega, codeNew_news N1 (by k_mem) (by k_asm) (by k_asm), neN (by omega), by omega, News.get N1 (by k_mem), blit_rep _ _ ▸ i8⟩
  · (show Done _ _ _ _ _)
    (rename News _ _ _ _ => N1)
    have e0 := b3.mp (by assumption)
    exact Done.mk' (by k_asm) ⟨D7, _, 0, _, rfl, News.get N1 (by k_mem), by omega, codeNew_news N1 (by k_mem) (by k_asm) (by k_asm), neN (by omega), by omega, News.get N1 (by k_mem), (by rw [e0]; exact .nil)⟩

theorem i2dHit (w : World) {p : Program} {loose : List Str} {mean : ExcName → Option Value} {mg mb : Str → Option Value} {dp un : Nat} {gd : Option (List Code)} {cn : Str} {cs : Scope} {a : Addr} {ccd : Value} {cl : List (Str × Addr)} {outer : List Env}
    {A₀ : Around} {base h₀ : Heap} {L : Addr} {m : Str → Option Value} {s : Shared} {Q E : Value → Shared → Prop}
    (B : Below A₀ base outer h₀) (F : Fr h₀ L s.heap m) (X : (hd1.heap_39 w.params).In h₀) (T : Top p loose mean mg mb h₀) (hk : cs.kind = .function) (C : CodeHd base 38 34)
    {x : Int} {tx tn : Tok} {c9 : Addr}
    (N : News h₀ L s.heap [(34, tabObj #[rawInt 32, rawInt 4, .ref c9])]) (hcr : s.heap.CodeRec (.ref c9) i2dQual) (hx0 : 0 ≤ x) (hx1 : x < 64)
    (hd : dp + 100 < recursionLimit) (hu : un + 2000 < cLine)
    (hret : ∀ l vs n h' tk', (∀ b o, s.heap.get? b = some o → h'.get? b = some o) → s.heap.objs.size ≤ l → h'.get? l = some (listOf vs.toArray n) → IntsAre vs (bitsOf (Builtin.Int.intBits x) x) → Q (.ref l) { s with heap := h', toks := tk' }) :
    wpAny (model PySem.Challenge.rw_ia0004_01.row.prog w) (ktrTop dp un gd cn cs L a ccd cl outer) (call (.ref 39) [.int x tx, .int 1 tn]) Q E s := by
  obtain ⟨b1, b2, b3⟩ := bits_of hx0 hx1
  revert X
  k_fill
  intro X
  k_with_none
  w_top off
  refine' con_defC (fun v h' => ∃ l vs n, v = .ref l ∧ h'.get? 34 = some (tabObj #[rawInt 32, rawInt 4, .ref c9]) ∧ s.heap.objs.size ≤ l ∧ h'.get? l = some (listOf vs.toArray n) ∧ IntsAre vs (bitsOf (Builtin.Int.intBits x) x)) ?k1 ?k2 ?k3 ?k4 ?k5 ?kA ?kF ?kK ?k6 ?k7 ?k8 ?k9 ?kB ?kD ?_ ?_ ?c2 ?c3 ?c4
  (case kA => exact rfl); (case kF => exact rfl); (case kK => first | assumption | exact rfl); (case k1 => k_asm); (case k2 => k_asm); (case k3 => k_asm); (case k4 => first | k_asm | exact News.nil); (case k5 => k_asm); (case k6 => k_is); (case k7 => k_is); (case k8 => ktr_room); (case k9 => first | exact BindsTo.of_eq rfl | exact binds_K (by k_in) rfl (by k_is) rfl rfl rfl | (refine' kp_binds ?kx ?ke; (case kx => k_in); (case ke => exact fun _ => rfl)))
  (case kB => exact rfl)
  (case kD => decide +kernel)
  (case c2 => exact rfl)
  (case c3 => exact rfl)
  (case c4 => exact rfl)
  rotate_left
  · intro r h' tk' he hq1
    refine shut fun hG => ?_
    obtain ⟨l, vs, n, rfl, e1, e5, e6, e7⟩ := hq1
    refine hG ?_
    clear hG
    exact hret _ _ _ _ _ (keep_one he (N _ (.head _)).1 e1) e5 e6 e7
  intro g' L' h' tk' cells' hg F' N' Y' B' l1 X' T' hz'
  (try k_lt l1)
  k_cells Y'
  (try simp only [List.cons_append, List.nil_append] at N')
  (try dsimp only)
  have hcr' : g'.CodeRec (.ref c9) i2dQual := CodeRec_up hcr hg (N _ (.head _)).1
  show wpAny _ _ _ _ _ _
  k_fold
  k_with "my mul" => ((k_dflt (refine' mul_ints (j := Builtin.Int.intBits x) ?mF ?mN ?mm ?mx ?mj ?_; (case mF => k_asm); (case mN => k_asm); (case mm => k_mem); (case mx => (rw [Int.fdiv_one]; omega)); (case mj => omega))); intro D7 h7 F7 N7 l7 i7; (try k_lt l7); (try k_sweep))
  k_with "my len" => (k_dflt (refine' len_news ?lN ?lm ?lz ?_; (case lN => k_asm); (case lm => k_mem); (case lz => (rw [List.length_replicate]; omega))))
  k_with "my call" => ((rename News _ _ _ _ => N7); (rename Fr _ _ _ _ => F7); rw [List.length_replicate]; refine' i2dInner w (name := Str.ofString "inner") (l := D7) ?hin ?cd ?ci ?cn 64 (lo := 0) (hi := Builtin.Int.intBits x) (ds := List.replicate (Builtin.Int.intBits x) 0) ?B ?F ?X ?T ?hk ?f ?c ?gD ?dD ?gI ?dI ?gN ?dN ?N i7 ?lt ?le ?kk ?k6 ?hlen hx0 ?x1 ?hd ?hu ?_; (case B => k_asm); (case F => k_asm); (case X => k_asm); (case T => k_asm); (case hk => exact rfl); (case f => exact News.get N7 (by k_mem)); (case hin => exact rfl); (case cd => exact rfl); (case ci => exact rfl); (case cn => exact rfl); (case c => exact hcr'.keeps (Fr.keep F7)); (case gD => exact News.get N7 (by k_mem)); (case gI => exact News.get N7 (by k_mem)); (case gN => exact News.get N7 (by k_mem)); (case dD => k_asm); (case dI => k_asm); (case dN => k_asm); (case N => exact after_one N7 (o' := default) (by k_upd)); (case lt => omega); (case le => rw [List.length_replicate]; omega); (case kk => omega); (case k6 => omega); (case hlen => rw [List.length_replicate]; omega); (case x1 => exact b1); (case hd => ktr_room); (case hu => ktr_units); (intro r8 h8 tk8 vs8 e8 g8 i8; (try dsimp only at e8); (refine' after_go ?aF ?aN ?aU e8 g8 ?_; (case aF => k_asm); (case aN => k_asm); (case aU => k_upd); intro F8 N8); (try dsimp only); (try k_sweep); (try k_fold)))
  k_steps
  · (show Done _ _ _ _ _)
    (rename News _ _ _ _ => N1)
    (rename Fr _ _ _ _ => F1)
    exact Done.mk' F1 ⟨D7, vs8, 0, rfl, News.get N1 (by k_mem), by omega, News.get N1 (by k_mem), blit_rep _ _ ▸ i8⟩
  · (show Done _ _ _ _ _)
    (rename News _ _ _ _ => N1)
    (rename Fr _ _ _ _ => F1)
    have e0 := b3.mp (by assumption)
    exact Done.mk' F1 ⟨D7, _, 0, rfl, News.get N1 (by k_mem), by omega, News.get N1 (by k_mem), (by rw [e0]; exact .nil)⟩
end Mine

end
section
open PySem PySem.W PySem.Spec PySem.Calls PyProof.Rows
namespace Mine
local macro_rules | `(tactic| walk_at "call ref") => `(tactic| k_extra "my call")
local macro_rules | `(tactic| k_all) => `(tactic| assumption)
theorem startTurn (w : World) {p : Program} {loose : List Str} {mean : ExcName → Option Value} {mg mb : Str → Option Value} {dp un : Nat} {gd : Option (List Code)} {a : Addr} {ccd : Value} {outer : List Env}
    {A₀ : Around} {base h₀ : Heap} {L : Addr} {m : Str → Option Value} {s : Shared} {O : Addr}
    (B : Below A₀ base outer h₀) (F : Fr h₀ L s.heap (fun z => if z = Str.ofString "order" then some (.ref O) else m z)) (X : (hd1.heap_39 w.params).In h₀) (T : Top p loose mean mg mb h₀) {target iter : Expr} {body : List Stmt} {cs : Scope} (hw : forOf (hd1.heap_39 w.params) 53 = some (target, iter, body, cs))
    {I1 I2 D l T9 : Addr} {oI1 oI2 oD ol : Obj} {vsO : List Value} {nO : Nat} {own : List (Addr × Obj)} {order : List It} {k : Nat} {tk9 tw : Tok} {wt : Int}
    (hT : IsTup s.heap T9 #[.int (k : Int) tk9, .int wt tw])
    (N : News h₀ L s.heap ((I1, oI1) :: (I2, oI2) :: (O, listOf vsO.toArray nO) :: (D, oD) :: (l, ol) :: own)) (hI : ItsIn own vsO order) (hlen : order.length ≤ 100) (htag : ∀ y ∈ order, y.tag < (k : Int)) (hoff : ∀ p ∈ own, p.1 ∉ [I1, I2, O, D])
    (n1 : @Ne Nat I1 O) (n2 : @Ne Nat I2 O) (n3 : @Ne Nat D O) (n4 : @Ne Nat l O)
    (hd : dp + 20 < recursionLimit) (hu : un + 500 < cLine) :
    wpAny (model PySem.Challenge.rw_ia0004_01.row.prog w) (ktrTop dp un gd (Str.ofString "_law_depths") cs L a ccd [] outer) (assign target (envX (Str.ofString "_law_depths") cs L a ccd []) (.ref T9)) (fun _ s₂ =>
      wpAny (model PySem.Challenge.rw_ia0004_01.row.prog w) (ktrTop dp un gd (Str.ofString "_law_depths") cs L a ccd [] outer) (execs body (envX (Str.ofString "_law_depths") cs L a ccd []))
      (StGo h₀ L s (fun z => if z = Str.ofString "order" then some (.ref O) else m z) (fun vs' own' => (I1, oI1) :: (I2, oI2) :: (O, listOf vs'.toArray (nO + 1)) :: (D, oD) :: (l, ol) :: own') [I1, I2, O, D] own (insH order ⟨wt, (k : Int), [(k : Int)]⟩)) (fun _ _ => False) s₂) (fun _ _ => False) s := by
  cases hw
  have hoffO : ∀ p ∈ own, p.1 ≠ O := fun p hp e => hoff p hp (by rw [e]; simp)
  have hlO : vsO.length = order.length := hI.length
  revert X
  k_fill
  intro X
  k_with_none
  w_top off
  show wpAny _ _ _ _ _ { s with heap := s.heap, toks := s.toks }
  dsimp only
  k_with "my call" => (refine' ins2 w (vs := vsO) (n := nO) (below := fun i => ltIt (order.getD i it0) ⟨wt, (k : Int), [(k : Int)]⟩) ?B ?F ?X ?T ?hk ?N ?hn ?hlt ?hd ?hu ?_; (case B => k_asm); (case F => k_asm); (case X => k_asm); (case T => k_asm); (case hk => exact rfl); (case hd => ktr_room); (case hu => ktr_units); (case N => exact after_one (o' := default) (by k_asm) (by k_upd)); (case hn => omega); (case hlt => ((rename News _ _ _ _ => N9); exact its_lt N9 (fun p hp => hp) (hI.mono fun p hp => by repeat (first | exact hp | apply mem_tail1)) ⟨_, _, [Value.int (k : Int) tk9], _, _, rfl, by k_mem, by k_mem, .cons _ _ .nil⟩ htag)); (intro h8 tk8 e8 g8; (try dsimp only at e8); (refine' after_go ?aF ?aN ?aU e8 g8 ?_; (case aF => k_asm); (case aN => k_asm); (case aU => k_upd); intro F8 N8); (try dsimp only); (try k_sweep); (try k_fold)))
  k_steps
  rename_i D9 _ lD9 T8 _ lT8
  have hx : ∀ own', (T8, tupO [Value.int wt tw, Value.int (k : Int) tk9, Value.ref D9].toArray) ∈ own' → (D9, tupO [Value.int (k : Int) tk9].toArray) ∈ own' → ItIn own' (.ref T8) ⟨wt, (k : Int), [(k : Int)]⟩ := fun own' h1 h2 => ⟨_, _, [Value.int (k : Int) tk9], _, _, rfl, h1, h2, .cons _ _ .nil⟩
  refine ⟨rfl, h8, tk8, _, insAt vsO (bis (fun i => ltIt (order.getD i it0) ⟨wt, (k : Int), [(k : Int)]⟩) vsO.length) (Value.ref T8), (T8, tupO [Value.int wt tw, Value.int (k : Int) tk9, Value.ref D9].toArray) :: (D9, tupO [Value.int (k : Int) tk9].toArray) :: own, rfl, F8, news_sub N8 ?_, ?_, ?_, fun (q : Addr × Obj) (hq : q ∈ own) => mem_tail1 (mem_tail1 hq), ?_⟩
  · (repeat' (first | refine sub_cons (by k_mem) ?_ | fail)); first | (intro p hp; (repeat (first | exact hp | refine List.Mem.tail _ ?_)); done) | exact fun p hp => nomatch hp
  · unfold insH posH
    rw [← hlO]
    exact (hI.mono fun q hq => mem_tail1 (mem_tail1 hq)).ins (hx _ (.head _) (.tail _ (.head _))) _
  · intro p hp
    rcases List.mem_cons.mp hp with rfl | hp
    · simp only [List.mem_cons, List.not_mem_nil, or_false, not_or]; exact ⟨neN (by omega), neN (by omega), neN (by omega), neN (by omega)⟩
    · rcases List.mem_cons.mp hp with rfl | hp
      · simp only [List.mem_cons, List.not_mem_nil, or_false, not_or]; exact ⟨neN (by omega), neN (by omega), neN (by omega), neN (by omega)⟩
      · exact hoff p hp
  · intro z h1 h2
    simp only [if_neg h1, if_neg h2]
end Mine

end
section
open PySem PySem.W PySem.Spec PySem.Calls PyProof.Rows
namespace Mine
local macro_rules | `(tactic| walk_at "call ref") => `(tactic| k_extra "my call")
local macro_rules | `(tactic| walk_at "binaryOp Add ref ref") => `(tactic| k_extra "my add")
local macro_rules | `(tactic| k_all) => `(tactic| assumption)
theorem hufC (w : World) {p : Program} {loose : List Str} {mean : ExcName → Option Value} {mg mb : Str → Option Value} {dp un : Nat} {gd : Option (List Code)} {a : Addr} {ccd : Value} {outer : List Env}
    {A₀ : Around} {base h₀ : Heap} {L : Addr} {m : Str → Option Value} {s : Shared} {O T1 T2 : Addr} {cost : Int} {tc : Tok}
    (B : Below A₀ base outer h₀) (F : Fr h₀ L s.heap (fun z => if z = Str.ofString "one" then some (.ref T1) else if z = Str.ofString "other" then some (.ref T2) else if z = Str.ofString "order" then some (.ref O) else if z = Str.ofString "cost" then some (.int cost tc) else m z)) (X : (hd1.heap_39 w.params).In h₀) (T : Top p loose mean mg mb h₀) {test : Expr} {body : List Stmt} {cs : Scope} (hw : whileOf (hd1.heap_39 w.params) 53 = some (test, body, cs))
    {D M1 M2 : Addr} {x y : It} {ta tb tx ty : Tok} {us1 us2 : List Value} {vr vsD : List Value} {nO nD : Nat} {own : List (Addr × Obj)} {ro : List It}
    (N : News h₀ L s.heap ((O, listOf vr.toArray nO) :: (D, listOf vsD.toArray nD) :: (T1, tupO [Value.int x.w ta, Value.int x.tag tb, Value.ref M1].toArray) :: (M1, tupO us1.toArray) :: (T2, tupO [Value.int y.w tx, Value.int y.tag ty, Value.ref M2].toArray) :: (M2, tupO us2.toArray) :: own))
    (i1 : IntsAre us1 x.mem) (i2 : IntsAre us2 y.mem) (e1 : us1 ≠ []) (e2 : us2 ≠ []) (z1 : us1.length ≤ 100) (z2 : us2.length ≤ 100)
    (hI : ItsIn own vr ro) (hlen : ro.length ≤ 100) (htag : ∀ y' ∈ ro, y'.tag < 100 + (cost + x.w + y.w)) (hoff : ∀ p ∈ own, p.1 ∉ [O, D])
    (n1 : @Ne Nat D O) (n2 : @Ne Nat T1 O) (n3 : @Ne Nat M1 O) (n4 : @Ne Nat T2 O) (n5 : @Ne Nat M2 O)
    (hd : dp + 20 < recursionLimit) (hu : un + 500 < cLine) :
    wpAny (model PySem.Challenge.rw_ia0004_01.row.prog w) (ktrTop dp un gd (Str.ofString "_law_depths") cs L a ccd [] outer) (execs (body.drop 3) (envX (Str.ofString "_law_depths") cs L a ccd []))
      (HufGo h₀ L s (fun z => if z = Str.ofString "one" then some (.ref T1) else if z = Str.ofString "other" then some (.ref T2) else if z = Str.ofString "order" then some (.ref O) else if z = Str.ofString "cost" then some (.int cost tc) else m z)
        (fun vs' own' => (O, listOf vs'.toArray (nO + 1)) :: (D, listOf vsD.toArray nD) :: own') [O, D] own (insH ro ⟨x.w + y.w, 100 + (cost + x.w + y.w), x.mem ++ y.mem⟩) (cost + x.w + y.w)) (fun _ _ => False) s := by
  cases hw
  have hoffO : ∀ p ∈ own, p.1 ≠ O := fun p hp e => hoff p hp (by rw [e]; simp)
  have hlO : vr.length = ro.length := hI.length
  revert X
  k_fill
  intro X
  k_with_none
  w_top off
  show wpAny _ _ _ _ _ { s with heap := s.heap, toks := s.toks }
  dsimp only [List.drop]
  k_fold
  k_with "my add" => ((k_dflt (refine' kde_addT (its := us1.toArray) (its2 := us2.toArray) ?aF ?aN ?a1 ?a2 ?b1 ?b2 ?b3 rfl ?_; (case aF => k_asm); (case aN => k_asm); (case a1 => exact News.isTup (by k_asm) (by k_mem)); (case a2 => exact News.isTup (by k_asm) (by k_mem)); (case b1 => exact e1); (case b2 => exact e2); (case b3 => ((show us1.length + us2.length ≤ 16384); omega)))); intro Dm hm Fm Nm lm; (try k_lt lm); (try k_sweep))
  k_with "my call" => (refine' ins2 w (vs := vr) (n := nO) (below := fun i => ltIt (ro.getD i it0) ⟨x.w + y.w, 100 + (cost + x.w + y.w), x.mem ++ y.mem⟩) ?B ?F ?X ?T ?hk ?N ?hn ?hlt ?hd ?hu ?_; (case B => k_asm); (case F => k_asm); (case X => k_asm); (case T => k_asm); (case hk => exact rfl); (case hd => ktr_room); (case hu => ktr_units); (case N => exact after_one (o' := default) (by k_asm) (by k_upd)); (case hn => omega); (case hlt => ((rename News _ _ _ _ => N9); exact its_lt N9 (fun p hp => hp) (hI.mono fun p hp => by repeat (first | exact hp | apply mem_tail1)) ⟨_, Dm, us1 ++ us2, _, _, rfl, by k_mem, by k_mem, i1.append i2⟩ htag)); (intro h8 tk8 e8 g8; (try dsimp only at e8); (refine' after_go ?aF ?aN ?aU e8 g8 ?_; (case aF => k_asm); (case aN => k_asm); (case aU => k_upd); intro F8 N8); (try dsimp only); (try k_sweep); (try k_fold)))
  k_steps
  rename_i T8 _ lT8
  have hx : ∀ (q1 q2 : Tok) own', (T8, tupO [Value.int (x.w + y.w) q1, Value.int (100 + (cost + x.w + y.w)) q2, Value.ref Dm].toArray) ∈ own' → (Dm, tupO (us1 ++ us2).toArray) ∈ own' → ItIn own' (.ref T8) ⟨x.w + y.w, 100 + (cost + x.w + y.w), x.mem ++ y.mem⟩ := fun q1 q2 own' h1 h2 => ⟨_, _, us1 ++ us2, _, _, rfl, h1, h2, i1.append i2⟩
  obtain ⟨q1, q2, N9⟩ : ∃ q1 q2, News h₀ L h8 ((T8, tupO [Value.int (x.w + y.w) q1, Value.int (100 + (cost + x.w + y.w)) q2, Value.ref Dm].toArray) :: _) := ⟨_, _, N8⟩
  refine ⟨rfl, h8, tk8, _, insAt vr (bis (fun i => ltIt (ro.getD i it0) ⟨x.w + y.w, 100 + (cost + x.w + y.w), x.mem ++ y.mem⟩) vr.length) (Value.ref T8), (T8, tupO [Value.int (x.w + y.w) q1, Value.int (100 + (cost + x.w + y.w)) q2, Value.ref Dm].toArray) :: (Dm, tupO (us1 ++ us2).toArray) :: own, _, rfl, F8, news_sub N9 ?k1, ?k2, ?k3, fun (q : Addr × Obj) (hq : q ∈ own) => mem_tail1 (mem_tail1 hq), if_pos rfl, ?k5⟩
  case k5 =>
    intro z h1
    simp only [if_neg h1]
  case k1 =>
    intro q hq
    revert q; (repeat' (first | refine sub_cons (by k_mem) ?_ | fail)); first | (intro p hp; (repeat (first | exact hp | refine List.Mem.tail _ ?_)); done) | exact fun p hp => nomatch hp
  case k2 =>
    unfold insH posH
    rw [← hlO]
    exact (hI.mono fun q hq => mem_tail1 (mem_tail1 hq)).ins (hx _ _ _ (.head _) (.tail _ (.head _))) _
  case k3 =>
    intro q hq
    rcases List.mem_cons.mp hq with rfl | hq
    · simp only [List.mem_cons, List.not_mem_nil, or_false, not_or]; exact ⟨neN (by omega), neN (by omega)⟩
    · rcases List.mem_cons.mp hq with rfl | hq
      · simp only [List.mem_cons, List.not_mem_nil, or_false, not_or]; exact ⟨neN (by omega), neN (by omega)⟩
      · exact hoff q hq
end Mine

end
section
open PySem PySem.W PySem.Spec PySem.Calls PyProof.Rows
namespace Mine
local macro_rules | `(tactic| walk_at "binaryOp Add ref ref") => `(tactic| k_extra "my add")
local macro_rules | `(tactic| walk_at "pyIter ref") => `(tactic| k_extra "my iter")
local macro_rules | `(tactic| walk_at "setItem ref int") => `(tactic| k_extra "my set")
local macro_rules | `(tactic| walk_at "subscriptTail") => `(tactic| k_extra "my item")
local macro_rules | `(tactic| walk_at "exec For Name BinOp cons nil") => `(tactic| (k_here; (rename Fr _ _ _ _ => lF'); (with_unfolding_all refine' For_turns lF' ?_); k_whole))
local macro_rules | `(tactic| k_all) => `(tactic| assumption)
theorem hufB (w : World) {p : Program} {loose : List Str} {mean : ExcName → Option Value} {mg mb : Str → Option Value} {dp un : Nat} {gd : Option (List Code)} {a : Addr} {ccd : Value} {outer : List Env}
    {A₀ : Around} {base h₀ : Heap} {L : Addr} {m : Str → Option Value} {s : Shared} {O D T1 T2 : Addr} {cost : Int} {tc : Tok}
    (B : Below A₀ base outer h₀) (F : Fr h₀ L s.heap (fun z => if z = Str.ofString "one" then some (.ref T1) else if z = Str.ofString "other" then some (.ref T2) else if z = Str.ofString "order" then some (.ref O) else if z = Str.ofString "cost" then some (.int cost tc) else if z = Str.ofString "depths" then some (.ref D) else m z)) (X : (hd1.heap_39 w.params).In h₀) (T : Top p loose mean mg mb h₀) {test : Expr} {body : List Stmt} {cs : Scope} (hw : whileOf (hd1.heap_39 w.params) 53 = some (test, body, cs))
    {M1 M2 : Addr} {x y : It} {ta tb tx ty : Tok} {us1 us2 : List Value} {vr vsD : List Value} {nO nD : Nat} {own : List (Addr × Obj)} {ro : List It} {ds : List Int}
    (N : News h₀ L s.heap ((O, listOf vr.toArray nO) :: (D, listOf vsD.toArray nD) :: (T1, tupO [Value.int x.w ta, Value.int x.tag tb, Value.ref M1].toArray) :: (M1, tupO us1.toArray) :: (T2, tupO [Value.int y.w tx, Value.int y.tag ty, Value.ref M2].toArray) :: (M2, tupO us2.toArray) :: own))
    (i1 : IntsAre us1 x.mem) (i2 : IntsAre us2 y.mem) (e1 : us1 ≠ []) (e2 : us2 ≠ []) (z1 : us1.length ≤ 100) (z2 : us2.length ≤ 100) (iD : IntsAre vsD ds) (hds : ds.length ≤ 100) (hb : ∀ k ∈ x.mem ++ y.mem, 0 ≤ k ∧ k < (ds.length : Int))
    (hI : ItsIn own vr ro) (hlen : ro.length ≤ 100) (htag : ∀ y' ∈ ro, y'.tag < 100 + (cost + x.w + y.w)) (hoff : ∀ p ∈ own, p.1 ∉ [O, D])
    (n1 : @Ne Nat D O) (n2 : @Ne Nat T1 O) (n3 : @Ne Nat M1 O) (n4 : @Ne Nat T2 O) (n5 : @Ne Nat M2 O) (n6 : @Ne Nat T1 D) (n7 : @Ne Nat M1 D) (n8 : @Ne Nat T2 D) (n9 : @Ne Nat M2 D)
    (hd : dp + 20 < recursionLimit) (hu : un + 500 < cLine) :
    wpAny (model PySem.Challenge.rw_ia0004_01.row.prog w) (ktrTop dp un gd (Str.ofString "_law_depths") cs L a ccd [] outer) (execs (body.drop 2) (envX (Str.ofString "_law_depths") cs L a ccd []))
      (HufGoB h₀ L s (fun z => if z = Str.ofString "one" then some (.ref T1) else if z = Str.ofString "other" then some (.ref T2) else if z = Str.ofString "order" then some (.ref O) else if z = Str.ofString "cost" then some (.int cost tc) else if z = Str.ofString "depths" then some (.ref D) else m z) [Str.ofString "cost", Str.ofString "k"]
        (fun vs' vsD' nD' own' => (O, listOf vs'.toArray (nO + 1)) :: (D, listOf vsD'.toArray nD') :: own') [O, D] own (insH ro ⟨x.w + y.w, 100 + (cost + x.w + y.w), x.mem ++ y.mem⟩) (bump ds (x.mem ++ y.mem)) (cost + x.w + y.w)) (fun _ _ => False) s := by
  cases hw
  have hoffD : ∀ p ∈ own, p.1 ≠ D := fun p hp e => hoff p hp (by rw [e]; simp)
  have hlD : vsD.length = ds.length := iD.length
  revert X
  k_fill
  intro X
  k_with_none
  w_top off
  show wpAny _ _ _ _ _ { s with heap := s.heap, toks := s.toks }
  dsimp only [List.drop]
  k_fold
  k_with "my add" => ((k_dflt (refine' kde_addT (its := us1.toArray) (its2 := us2.toArray) ?aF ?aN ?a1 ?a2 ?b1 ?b2 ?b3 rfl ?_; (case aF => k_asm); (case aN => k_asm); (case a1 => exact News.isTup (by k_asm) (by k_mem)); (case a2 => exact News.isTup (by k_asm) (by k_mem)); (case b1 => exact e1); (case b2 => exact e2); (case b3 => ((show us1.length + us2.length ≤ 16384); omega)))); intro Dm hm Fm Nm lm; (try k_lt lm); (try k_sweep))
  repeat' (first | ((fail_if_success (with_reducible show wpAny _ _ (pyIter _) _ _ _)); first | (k_unfold; (try dsimp only)) | walk1 | (dsimp only; walk1)))
  (rename Fr _ _ _ _ => F5)
  (rename News _ _ _ _ => N5)
  refine' iter_tupTurns (lo := tupO (us1 ++ us2).toArray) (vs := us1 ++ us2) rfl F5 N5 (by k_mem) rfl rfl ?_
  intro I5 lI
  have lI0 := lI
  (try k_lt lI)
  have iZ : IntsAre (us1 ++ us2) (x.mem ++ y.mem) := i1.append i2
  refine items_run (fun i m' nx => (∃ v n, nx = (Dm, tupO (us1 ++ us2).toArray) :: (O, listOf vr.toArray nO) :: (D, listOf v.toArray n) :: (T1, tupO [Value.int x.w ta, Value.int x.tag tb, Value.ref M1].toArray) :: (M1, tupO us1.toArray) :: (T2, tupO [Value.int y.w tx, Value.int y.tag ty, Value.ref M2].toArray) :: (M2, tupO us2.toArray) :: own ∧ IntsAre v (bump ds ((x.mem ++ y.mem).take i))) ∧ ∀ z, z ≠ Str.ofString "k" → m' z = (fun z => if z = Str.ofString "one" then some (.ref T1) else if z = Str.ofString "other" then some (.ref T2) else if z = Str.ofString "order" then some (.ref O) else if z = Str.ofString "cost" then some (.int cost tc) else if z = Str.ofString "depths" then some (.ref D) else m z) z) ⟨⟨vsD, nD, rfl, iD⟩, fun _ _ => rfl⟩ ?step ?fin
  case step =>
    intro i b m' nx v h tk hib hq1 hv Fk
    refine shut fun hG => ?_
    obtain ⟨⟨vD, kD, rfl, iV⟩, hm'⟩ := hq1
    refine hG ?_
    clear hG
    refine AllObj.cons fun oI hoI => AllObj.nil fun Nk => ?_
    rw [List.getElem?_map] at hib
    obtain ⟨u, hu', rfl⟩ := Option.map_eq_some_iff.mp hib
    obtain rfl : v = u := hv
    obtain ⟨kk, tkk, hkk, rfl⟩ := ints_at iZ hu'
    have hk2 := hb kk (List.mem_of_getElem? hkk)
    have hlen9 : (bump ds ((x.mem ++ y.mem).take i)).length = ds.length := bump_length _ _
    have iZ2 : bump ds ((x.mem ++ y.mem).take (i + 1)) = bumpOne (bump ds ((x.mem ++ y.mem).take i)) kk := by rw [List.take_add_one, hkk]; exact bump_snoc _ _ _
    have Fk2 := fr_but_k Fk hm'
    clear Fk hm' hu' hkk
    generalize hbd : bump ds ((x.mem ++ y.mem).take i) = bd at iV hlen9 iZ2
    clear hbd
    simp only [List.cons_append, List.nil_append] at Nk
    k_with "my item" => ((k_dflt (refine' ksa_sub ?N ?m iV ?h0 ?h1 ?hf ?_ ?hs; (case N => k_asm); (case m => k_mem); (case h0 => omega); (case h1 => omega); (case hf => omega); (case hs => with_unfolding_all rfl))); intro t7)
    k_with "my set" => ((k_dflt (refine' ksa_set ?sF ?sN ?sU iV ?h0 ?h1 ?hf ?_; (case sF => k_asm); (case sN => k_asm); (case sU => k_upd); (case h0 => omega); (case h1 => omega); (case hf => omega))); intro h6 F6 N6 i6 _ _; (try k_sweep))
    k_steps
    refine ⟨h6, _, _, (Dm, tupO (us1 ++ us2).toArray) :: (O, listOf vr.toArray nO) :: (D, listOf (vD.set kk.toNat _).toArray kD) :: (T1, tupO [Value.int x.w ta, Value.int x.tag tb, Value.ref M1].toArray) :: (M1, tupO us1.toArray) :: (T2, tupO [Value.int y.w tx, Value.int y.tag ty, Value.ref M2].toArray) :: (M2, tupO us2.toArray) :: own, rfl, F6, N6, ?off, ⟨.head _, trivial⟩, ⟨_, _, rfl, ?iv⟩, ?nm⟩
    case iv => rw [iZ2]; exact i6
    case nm => intro z hz; simp only [if_neg hz]
    case off =>
      intro q hq r hr
      rw [List.mem_singleton.mp hr]
      simp only [List.mem_cons] at hq
      rcases hq with rfl | rfl | rfl | rfl | rfl | rfl | rfl | hq
      all_goals first
        | exact neN (by (try dsimp only); omega)
        | exact Nat.ne_of_lt (lI0 _ (mem_tail1 (mem_tail1 (mem_tail1 (mem_tail1 (mem_tail1 (mem_tail1 (mem_tail1 hq))))))))
  case fin =>
    intro m' nx h tk hq1 Fk Nk
    refine shut fun hG => ?_
    obtain ⟨⟨vD, kD, rfl, iV⟩, hm'⟩ := hq1
    refine hG ?_
    clear hG
    have F1 := fr_at (x := Str.ofString "cost") (v := .int cost tc) Fk ((hm' _ (by decide)).trans rfl)
    have F2 := fr_at (x := Str.ofString "order") (v := .ref O) F1 ((if_neg (by decide)).trans ((hm' _ (by decide)).trans rfl))
    have F3 := fr_at (x := Str.ofString "other") (v := .ref T2) F2 ((if_neg (by decide)).trans ((if_neg (by decide)).trans ((hm' _ (by decide)).trans rfl)))
    have F4 := fr_at (x := Str.ofString "one") (v := .ref T1) F3 ((if_neg (by decide)).trans ((if_neg (by decide)).trans ((if_neg (by decide)).trans ((hm' _ (by decide)).trans rfl))))
    rw [List.length_map, iZ.length, List.take_length] at iV
    dsimp only
    refine wpAny_mono (hufC w (m := m') (tc := tc) B F4 X T rfl (news_sub Nk fun q hq => mem_tail1 hq) i1 i2 e1 e2 z1 z2 hI hlen htag hoff n1 n2 n3 n4 n5 hd hu) ?_ (fun _ _ q => q.elim)
    intro fl s' hq1
    refine shut fun hG => ?_
    obtain ⟨rfl, h', tk', m8, vs', own', tc', rfl, F', N', hI', off', sub', hc, hz⟩ := hq1
    refine hG ?_
    clear hG
    refine ⟨rfl, h', tk', m8, vs', vD, kD, own', tc', rfl, F', N', hI', iV, off', sub', hc, fun z hz' => ?_⟩
    simp only [List.mem_cons, List.not_mem_nil, or_false, not_or] at hz'
    rw [hz z hz'.1]
    have hmz := hm' z hz'.2
    by_cases q1 : z = Str.ofString "one"
    · simp [q1]
    by_cases q2 : z = Str.ofString "other"
    · simp [q1, q2]
    by_cases q3 : z = Str.ofString "order"
    · simp [q1, q2, q3]
    simp only [if_neg q1, if_neg q2, if_neg q3, if_neg hz'.1] at hmz ⊢
    exact hmz
end Mine

end
section
open PySem PySem.W PySem.Spec PySem.Calls PyProof.Rows
namespace Mine
local macro_rules | `(tactic| walk_at "subscriptTail") => `(tactic| k_extra "my slice")
local macro_rules | `(tactic| walk_at "subscriptTail Name Slice ref ref") => `(tactic| k_extra "my slice")
local macro_rules | `(tactic| k_all) => `(tactic| assumption)
noncomputable def HufGoA (h₀ : Heap) (L : Addr) (s : Shared) (m₀ : Str → Option Value) (D : Addr) (own : List (Addr × Obj)) (order : List It) (ds : List Int) (cost : Int) (fl : Flow) (s' : Shared) : Prop :=
  fl = .next ∧ ∃ h' tk m' O' vs' nO' vsD' nD' own' tc, s' = { s with heap := h', toks := tk } ∧ Fr h₀ L h' m' ∧ News h₀ L h' ((O', listOf (List.toArray vs') nO') :: (D, listOf (List.toArray vsD') nD') :: own') ∧ ItsIn own' vs' order ∧ IntsAre vsD' ds ∧ (∀ p ∈ own', p.1 ∉ [O', D]) ∧ @Ne Nat D O' ∧ (∀ p ∈ own, p ∈ own') ∧
    m' (Str.ofString "order") = some (.ref O') ∧ m' (Str.ofString "cost") = some (.int cost tc) ∧ ∀ z, z ∉ [Str.ofString "order", Str.ofString "cost", Str.ofString "one", Str.ofString "other", Str.ofString "k"] → m' z = m₀ z
theorem hufA (w : World) {p : Program} {loose : List Str} {mean : ExcName → Option Value} {mg mb : Str → Option Value} {dp un : Nat} {gd : Option (List Code)} {a : Addr} {ccd : Value} {outer : List Env}
    {A₀ : Around} {base h₀ : Heap} {L : Addr} {m : Str → Option Value} {s : Shared} {O D : Addr} {cost : Int} {tc : Tok}
    (B : Below A₀ base outer h₀) (F : Fr h₀ L s.heap (fun z => if z = Str.ofString "order" then some (.ref O) else if z = Str.ofString "cost" then some (.int cost tc) else if z = Str.ofString "depths" then some (.ref D) else m z)) (X : (hd1.heap_39 w.params).In h₀) (T : Top p loose mean mg mb h₀) {test : Expr} {body : List Stmt} {cs : Scope} (hw : whileOf (hd1.heap_39 w.params) 53 = some (test, body, cs))
    {T1 T2 M1 M2 : Addr} {x y : It} {ta tb tx ty : Tok} {us1 us2 : List Value} {vr vsD : List Value} {nO nD : Nat} {own : List (Addr × Obj)} {ro : List It} {ds : List Int}
    (N : News h₀ L s.heap ((O, listOf (Value.ref T1 :: Value.ref T2 :: vr).toArray nO) :: (D, listOf vsD.toArray nD) :: (T1, tupO [Value.int x.w ta, Value.int x.tag tb, Value.ref M1].toArray) :: (M1, tupO us1.toArray) :: (T2, tupO [Value.int y.w tx, Value.int y.tag ty, Value.ref M2].toArray) :: (M2, tupO us2.toArray) :: own))
    (i1 : IntsAre us1 x.mem) (i2 : IntsAre us2 y.mem) (e1 : us1 ≠ []) (e2 : us2 ≠ []) (z1 : us1.length ≤ 100) (z2 : us2.length ≤ 100) (iD : IntsAre vsD ds) (hds : ds.length ≤ 100) (hb : ∀ k ∈ x.mem ++ y.mem, 0 ≤ k ∧ k < (ds.length : Int))
    (hI : ItsIn own vr ro) (hlen : ro.length ≤ 100) (htag : ∀ y' ∈ ro, y'.tag < 100 + (cost + x.w + y.w)) (hoff : ∀ p ∈ own, p.1 ≠ D)
    (n6 : @Ne Nat T1 D) (n7 : @Ne Nat M1 D) (n8 : @Ne Nat T2 D) (n9 : @Ne Nat M2 D)
    (hd : dp + 20 < recursionLimit) (hu : un + 500 < cLine) :
    wpAny (model PySem.Challenge.rw_ia0004_01.row.prog w) (ktrTop dp un gd (Str.ofString "_law_depths") cs L a ccd [] outer) (execs body (envX (Str.ofString "_law_depths") cs L a ccd []))
      (HufGoA h₀ L s (fun z => if z = Str.ofString "order" then some (.ref O) else if z = Str.ofString "cost" then some (.int cost tc) else if z = Str.ofString "depths" then some (.ref D) else m z) D own (insH ro ⟨x.w + y.w, 100 + (cost + x.w + y.w), x.mem ++ y.mem⟩) (bump ds (x.mem ++ y.mem)) (cost + x.w + y.w)) (fun _ _ => False) s := by
  cases hw
  have hlO : vr.length = ro.length := hI.length
  revert X
  k_fill
  intro X
  k_with_none
  w_top off
  show wpAny _ _ _ _ _ { s with heap := s.heap, toks := s.toks }
  dsimp only
  k_fold
  k_with "my slice" => ((k_dflt (refine' kmk_slice_lit (zs := vr) ?sF ?sN ?sl (.int _ _) .none pick_two ?_ ?s2 ?s3 ?s4; (case sF => k_asm); (case sN => k_asm); (case sl => exact news_list (by k_asm) (by k_mem)); (case s2 => with_unfolding_all rfl); (case s3 => exact fun _ => rfl); (case s4 => (rw [sizeLine_eq]; simp; omega)))); intro O2 h2 F2 N2 l2; (have l20 := l2); (try k_lt l2); (try k_sweep))
  repeat' (first | (k_unfold; (try dsimp only)) | ((fail_if_success (with_reducible show wpAny _ _ (execs (PySem.Stmt.For _ _ _ _ _ :: _) _) _ _ _)); first | walk1 | (dsimp only; walk1)))
  dsimp only
  (rename Fr _ _ _ _ => F5)
  (rename News _ _ _ _ => N5)
  have F6 := fr_at (x := Str.ofString "depths") (v := .ref D) F5 rfl
  have F7 := fr_at (x := Str.ofString "cost") (v := .int cost tc) F6 rfl
  have F8 := fr_at (x := Str.ofString "order") (v := .ref O2) F7 rfl
  have F9 := fr_at (x := Str.ofString "other") (v := .ref T2) F8 rfl
  have F10 := fr_at (x := Str.ofString "one") (v := .ref T1) F9 rfl
  refine wpAny_mono (hufB w B F10 X T rfl (nD := nD) (nO := 0) (ta := ta) (tb := tb) (tx := tx) (ty := ty) (M1 := M1) (M2 := M2) (x := x) (y := y) (news_sub N5 ?sub) i1 i2 e1 e2 z1 z2 iD hds hb hI hlen htag ?hoff ?n1 ?n2 ?n3 ?n4 ?n5 n6 n7 n8 n9 hd hu) ?_ (fun _ _ q => q.elim)
  case sub =>
    intro q hq
    revert q; (repeat' (first | refine sub_cons (by k_mem) ?_ | fail)); first | (intro p hp; (repeat (first | exact hp | refine List.Mem.tail _ ?_)); done) | exact fun p hp => nomatch hp
  case hoff =>
    intro q hq
    simp only [List.mem_cons, List.not_mem_nil, or_false, not_or]
    exact ⟨Nat.ne_of_lt (l20 q (by repeat (first | exact hq | apply mem_tail1))), hoff q hq⟩
  case n1 => exact neN (by omega)
  case n2 => exact neN (by omega)
  case n3 => exact neN (by omega)
  case n4 => exact neN (by omega)
  case n5 => exact neN (by omega)
  intro fl s' hq1
  refine shut fun hG => ?_
  obtain ⟨rfl, h', tk', m8, vs', vD, kD, own', tc', rfl, F', N', hI', iV, off', sub', hc, hz⟩ := hq1
  refine hG ?_
  clear hG
  refine ⟨rfl, h', tk', m8, O2, vs', _, vD, kD, own', tc', rfl, F', N', hI', iV, off', neN (by omega), sub', (hz _ (by decide)).trans rfl, hc, fun z hz' => ?_⟩
  simp only [List.mem_cons, List.not_mem_nil, or_false, not_or] at hz'
  rw [hz z (by simp only [List.mem_cons, List.not_mem_nil, or_false, not_or]; exact ⟨hz'.2.1, hz'.2.2.2.2⟩)]
  simp only [if_neg hz'.1, if_neg hz'.2.1, if_neg hz'.2.2.1, if_neg hz'.2.2.2.1]
  by_cases q : z = Str.ofString "depths"
  · simp [q]
  · simp only [if_neg q]
end Mine

end
section
open PySem PySem.W PySem.Spec PySem.Calls PyProof.Rows
namespace Mine
local macro_rules | `(tactic| walk_at "call builtin:len") => `(tactic| k_extra "my len")
local macro_rules | `(tactic| k_all) => `(tactic| assumption)
structure DSt where
  O : Addr
  vsO : List Value
  nO : Nat
  order : List It
  vsD : List Value
  nD : Nat
  ds : List Int
  cost : Int
  tc : Tok
  own : List (Addr × Obj)
structure DFacts (D l : Addr) (ol : Obj) (c : DSt) : Prop where
  its : ItsIn c.own c.vsO c.order
  iD : IntsAre c.vsD c.ds
  off : ∀ p ∈ c.own, p.1 ∉ [c.O, D]
  ne : @Ne Nat D c.O
  lm : (l, ol) ∈ c.own
noncomputable def dLed (D : Addr) (c : DSt) : List (Addr × Obj) := (c.O, listOf c.vsO.toArray c.nO) :: (D, listOf c.vsD.toArray c.nD) :: c.own
noncomputable def DepGo (h₀ : Heap) (L : Addr) (s : Shared) (D l : Addr) (ol : Obj) (fin : HSt) (fl : Flow) (s' : Shared) : Prop :=
  ∃ T t h' tk m' vsD nD own, fl = .ret (.ref T) ∧ s' = { s with heap := h', toks := tk } ∧ Fr h₀ L h' m' ∧ News h₀ L h' ((T, tupO [Value.ref D, Value.int fin.cost t].toArray) :: (D, listOf (List.toArray vsD) nD) :: own) ∧ IntsAre vsD fin.ds ∧ (l, ol) ∈ own ∧ @LT.lt Nat _ D T
theorem two_cons {α : Type} {l : List α} (h : 2 ≤ l.length) : ∃ x y r, l = x :: y :: r := by
  match l, h with
  | x :: y :: r, _ => exact ⟨x, y, r, rfl⟩
theorem ne_nil {us : List Value} {ns : List Int} (i : IntsAre us ns) (h : ns ≠ []) : us ≠ [] := fun e => h (by
  have := i.length
  rw [e] at this
  exact List.length_eq_zero_iff.mp this.symm)
theorem depW (w : World) {p : Program} {loose : List Str} {mean : ExcName → Option Value} {mg mb : Str → Option Value} {dp un : Nat} {gd : Option (List Code)} {a : Addr} {ccd : Value} {outer : List Env}
    {A₀ : Around} {base h₀ : Heap} {L : Addr} {m : Str → Option Value} {s : Shared} {O D : Addr} {cost : Int} {tc : Tok}
    (B : Below A₀ base outer h₀) (F : Fr h₀ L s.heap (fun z => if z = Str.ofString "order" then some (.ref O) else if z = Str.ofString "cost" then some (.int cost tc) else if z = Str.ofString "depths" then some (.ref D) else m z)) (X : (hd1.heap_39 w.params).In h₀) (T : Top p loose mean mg mb h₀) {body : List Stmt} {cs : Scope} (hw : bodyOf (hd1.heap_39 w.params) 53 = some (body, cs))
    {vsO vsD : List Value} {nO nD n : Nat} {own : List (Addr × Obj)} {order : List It} {ds : List Int} {fin : HSt} {l : Addr} {ol : Obj}
    (N : News h₀ L s.heap ((O, listOf vsO.toArray nO) :: (D, listOf vsD.toArray nD) :: own))
    (hI : ItsIn own vsO order) (iD : IntsAre vsD ds) (hP : HufP n fin order ds cost) (hn : n ≤ 5) (hoff : ∀ p ∈ own, p.1 ∉ [O, D]) (hne : @Ne Nat D O) (hl : (l, ol) ∈ own)
    (hd : dp + 20 < recursionLimit) (hu : un + 500 < cLine) :
    wpAny (model PySem.Challenge.rw_ia0004_01.row.prog w) (ktrTop dp un gd (Str.ofString "_law_depths") cs L a ccd [] outer) (execs (body.drop 2) (envX (Str.ofString "_law_depths") cs L a ccd []))
      (DepGo h₀ L s D l ol fin) (fun _ _ => False) s := by
  cases hw
  revert X
  k_fill
  intro X
  k_with_none
  w_top off
  show wpAny _ _ _ _ _ { s with heap := s.heap, toks := s.toks }
  dsimp only [List.drop]
  k_fold
  repeat' (first | (k_unfold; (try dsimp only)) | ((fail_if_success (with_reducible show wpAny _ _ (exec (PySem.Stmt.While _ _ _ _) _) _ _ _)); walk1))
  (rename News _ _ _ _ => N6)
  (rename Fr _ _ _ _ => F6)
  refine' ksw_while (dLed D) (fun c => [(Str.ofString "order", Value.ref c.O), (Str.ofString "cost", Value.int c.cost c.tc)]) (DFacts D l ol) [Str.ofString "one", Str.ofString "other", Str.ofString "k"] (fun c => HufP n fin c.order c.ds c.cost) (fun c => c.order.length) ⟨O, vsO, nO, order, vsD, nD, ds, cost, tc, own⟩ F6 N6 ⟨hI, iD, hoff, hne, hl⟩ ?hk hP ?turn PassesOwn.never
  case hk => exact List.forall_mem_cons.mpr ⟨rfl, List.forall_mem_cons.mpr ⟨rfl, List.forall_mem_nil _⟩⟩
  case turn =>
    intro c u hT tkT hF hP' FT NT
    refine shut fun hG => ?_
    obtain ⟨O8, vsO8, nO8, order8, vsD8, nD8, ds8, cost8, tc8, own8⟩ := c
    refine hG ?_
    clear hG
    refine shut fun hG => ?_
    obtain ⟨hI8, iD8, off8, ne8, lm8⟩ := hF
    refine hG ?_
    clear hG
    dsimp only [kstB, dLed] at hI8 iD8 off8 ne8 lm8 FT NT hP' ⊢
    have hlen8 := hI8.length
    have hn8 := hP'.len
    have NT' := NT
    have FT' := FT
    k_with "my len" => (k_dflt (refine' len_news ?lN ?lm ?lz ?_; (case lN => k_asm); (case lm => k_mem); (case lz => omega)))
    repeat' (first | (k_unfold; (try dsimp only)) | ((fail_if_success (with_reducible show wpAny _ _ (execs (_ :: _) _) _ _ _)); first | walk1 | (dsimp only; walk1)))
    · (rename Fr _ _ _ _ => F1)
      (rename News _ _ _ _ => N1)
      obtain ⟨x, y, ro, rfl⟩ := two_cons (l := order8) (by omega)
      cases hI8 with | cons g1 hI8 => ?_
      cases hI8 with | cons g2 hI8 => ?_
      refine shut fun hG => ?_
      obtain ⟨T1, M1, us1, ta, tb, rfl, a1, b1, i1⟩ := g1
      refine hG ?_
      clear hG
      refine shut fun hG => ?_
      obtain ⟨T2, M2, us2, tx, ty, rfl, a2, b2, i2⟩ := g2
      refine hG ?_
      clear hG
      have tg1 := hP'.tags x (.head _)
      have tg2 := hP'.tags y (.tail _ (.head _))
      have hml := hP'.ml
      simp only [List.map_cons, List.sum_cons] at hml
      have l1 := i1.length
      have l2 := i2.length
      have offD : ∀ q ∈ own8, q.1 ≠ D := fun q hq e => off8 q hq (by rw [e]; simp)
      have F2 := fr_at (x := Str.ofString "depths") (v := .ref D) F1 rfl
      have F3 := fr_at (x := Str.ofString "cost") (v := .int cost8 tc8) F2 rfl
      have F4 := fr_at (x := Str.ofString "order") (v := .ref O8) F3 rfl
      refine wpAny_mono (hufA w B F4 X T rfl (nD := nD8) (nO := nO8) (ta := ta) (tb := tb) (tx := tx) (ty := ty) (M1 := M1) (M2 := M2) (x := x) (y := y) (news_sub N1 ?sub) i1 i2 (ne_nil i1 tg1.2.2.1) (ne_nil i2 tg2.2.2.1) (by omega) (by omega) iD8 (by have := hP'.dl; omega) ?hb hI8 (by simp at hn8; omega) ?htag offD (offD _ a1) (offD _ b1) (offD _ a2) (offD _ b2) hd hu) ?_ (fun _ _ q => q.elim)
      case sub =>
        intro q hq
        simp only [List.mem_cons] at hq ⊢
        rcases hq with hq | hq | hq | hq | hq | hq | hq
        · exact .inl hq
        · exact .inr (.inl hq)
        · exact .inr (.inr (by rw [hq]; exact a1))
        · exact .inr (.inr (by rw [hq]; exact b1))
        · exact .inr (.inr (by rw [hq]; exact a2))
        · exact .inr (.inr (by rw [hq]; exact b2))
        · exact .inr (.inr hq)
      case hb =>
        intro k hk
        rw [hP'.dl]
        rcases List.mem_append.mp hk with hk | hk
        · exact tg1.2.2.2 k hk
        · exact tg2.2.2.2 k hk
      case htag =>
        intro y' hy'
        have := hP'.tags y' (.tail _ (.tail _ hy'))
        omega
      intro fl s' hq1
      refine shut fun hG => ?_
      obtain ⟨rfl, h', tk', m8, O', vs', nO', vsD', nD', own', tc', rfl, F', N', hI', iV, off', ne', sub', ho, hc, hz⟩ := hq1
      refine hG ?_
      clear hG
      refine ksw_end ⟨O', vs', nO', _, vsD', nD', _, _, tc', own'⟩ F' N' (fun _ h => h) ⟨hI', iV, off', ne', sub' _ lm8⟩ (List.forall_mem_cons.mpr ⟨ho, List.forall_mem_cons.mpr ⟨hc, List.forall_mem_nil _⟩⟩) (fun z hz1 hz2 => ?_) hP'.turn ?_
      · have q1 : z ≠ Str.ofString "order" := hz1 _ (.head _)
        have q2 : z ≠ Str.ofString "cost" := hz1 _ (.tail _ (.head _))
        have q3 : z ≠ Str.ofString "one" ∧ z ≠ Str.ofString "other" ∧ z ≠ Str.ofString "k" := by simpa using hz2
        rw [hz z (by simp only [List.mem_cons, List.not_mem_nil, or_false, not_or]; exact ⟨q1, q2, q3⟩)]
        simp only [if_neg q1, if_neg q2, hz2]
        by_cases q : z = Str.ofString "depths"
        · simp [q]
        · simp [q]
      · show (insH _ _).length < _
        rw [insH_length]; simp
    · k_steps
      (rename Fr _ _ _ _ => F1)
      (rename News _ _ _ _ => N1)
      have hf := hP'.done (by omega)
      exact ⟨_, _, _, _, _, vsD8, nD8, own8, rfl, rfl, F1, by rw [hf]; exact news_sub N1 (fun q hq => by simp only [List.mem_cons] at hq ⊢; rcases hq with hq | hq | hq; exact .inl hq; exact .inr (.inr (.inl hq)); exact .inr (.inr (.inr hq))), by rw [hf]; exact iD8, lm8, by omega⟩
end Mine

end
section
open PySem PySem.W PySem.Spec PySem.Calls PyProof.Rows
namespace Mine
local macro_rules | `(tactic| walk_at "call type:enumerate") => `(tactic| k_extra "my enum")
theorem depF (w : World) {p : Program} {loose : List Str} {mean : ExcName → Option Value} {mg mb : Str → Option Value} {dp un : Nat} {gd : Option (List Code)} {a : Addr} {ccd : Value} {outer : List Env}
    {A₀ : Around} {base h₀ : Heap} {L : Addr} {m : Str → Option Value} {s : Shared} {O D l : Addr} {tc : Tok}
    (B : Below A₀ base outer h₀) (F : Fr h₀ L s.heap (fun z => if z = Str.ofString "order" then some (.ref O) else if z = Str.ofString "cost" then some (.int 0 tc) else if z = Str.ofString "depths" then some (.ref D) else if z = Str.ofString "weights" then some (.ref l) else m z)) (X : (hd1.heap_39 w.params).In h₀) (T : Top p loose mean mg mb h₀) {body : List Stmt} {cs : Scope} (hw : bodyOf (hd1.heap_39 w.params) 53 = some (body, cs))
    {vs vsD : List Value} {nO nD n : Nat} {ns : List Int}
    (N : News h₀ L s.heap [(O, listOf ([] : List Value).toArray nO), (D, listOf vsD.toArray nD), (l, listOf vs.toArray n)])
    (hi : IntsAre vs ns) (iD : IntsAre vsD (List.replicate ns.length 0)) (h1 : ∀ w ∈ ns, 1 ≤ w) (h5 : ns.length ≤ 5) (n1 : @Ne Nat D O) (n2 : @Ne Nat l O) (n3 : @Ne Nat l D)
    (hd : dp + 20 < recursionLimit) (hu : un + 500 < cLine) :
    wpAny (model PySem.Challenge.rw_ia0004_01.row.prog w) (ktrTop dp un gd (Str.ofString "_law_depths") cs L a ccd [] outer) (execs (body.drop 1) (envX (Str.ofString "_law_depths") cs L a ccd []))
      (DepGo h₀ L s D l (listOf vs.toArray n) (hRun ns.length ⟨start ns, List.replicate ns.length 0, 0⟩)) (fun _ _ => False) s := by
  cases hw
  revert X
  k_fill
  intro X
  k_with_none
  w_top off
  show wpAny _ _ _ _ _ { s with heap := s.heap, toks := s.toks }
  dsimp only [List.drop]
  k_fold
  repeat' (first | (k_unfold; (try dsimp only)) | ((fail_if_success (with_reducible show wpAny _ _ (exec (PySem.Stmt.For _ _ _ _ _) _) _ _ _)); walk1))
  (rename Fr _ _ _ _ => F5)
  (with_unfolding_all refine' For_turns F5 ?_)
  repeat' (first | ((fail_if_success (with_reducible show wpAny _ _ (call (Value.type _) _) _ _ _)); first | (k_unfold; (try dsimp only)) | walk1 | (dsimp only; walk1)))
  (rename Fr _ _ _ _ => F6)
  (rename News _ _ _ _ => N6)
  (with_unfolding_all refine' ktu_enum (lo := listOf vs.toArray n) (vs := vs) rfl F6 N6 (by k_mem) rfl rfl rfl ?_)
  intro I5 lI
  have lI0 := lI
  (try k_lt lI)
  have hlv : vs.length = ns.length := hi.length
  refine items_run (fun i m' nx => (∃ v k own, nx = (O, listOf (List.toArray v) k) :: (D, listOf vsD.toArray nD) :: (l, listOf vs.toArray n) :: own ∧ ItsIn own v (startN ns i) ∧ ∀ p ∈ own, p.1 ∉ [I5 + 1, I5, O, D]) ∧ ∀ z, z ≠ Str.ofString "k" → z ≠ Str.ofString "weight" → m' z = (fun z => if z = Str.ofString "order" then some (Value.ref O) else if z = Str.ofString "cost" then some (.int 0 tc) else if z = Str.ofString "depths" then some (.ref D) else if z = Str.ofString "weights" then some (.ref l) else m z) z) ⟨⟨[], nO, [], rfl, .nil, fun _ h => nomatch h⟩, fun _ _ _ => rfl⟩ ?step ?fin
  case step =>
    intro i b m' nx v h tk hib hq1 hv Fk
    refine shut fun hG => ?_
    obtain ⟨⟨vO, kO, own, rfl, hI, hof⟩, hm'⟩ := hq1
    refine hG ?_
    clear hG
    refine AllObj.cons fun o1 ho1 => AllObj.cons fun o2 ho2 => AllObj.nil fun Nk => ?_
    have hlt : i < vs.length := by
      have := (List.getElem?_eq_some_iff.mp hib).1
      rwa [enumItems_length] at this
    have hb := enumItems_get vs 0 i (List.getElem?_eq_getElem hlt)
    rw [hib] at hb
    obtain rfl := Option.some.inj hb
    obtain ⟨T9, t9, rfl, hT⟩ := hv
    obtain ⟨wt, tw, hwt, hx⟩ := ints_at hi (List.getElem?_eq_getElem hlt)
    rw [hx, Nat.zero_add] at hT
    obtain ⟨f1, f2, f3⟩ := startN_facts ns i (by omega)
    have F1 := fr_at (x := Str.ofString "order") (v := .ref O) Fk ((hm' _ (by decide) (by decide)).trans rfl)
    refine wpAny_mono (startTurn w B F1 X T rfl hT Nk hI (by omega) (fun y hy => (f2 y hy).2.1) hof (neN (by omega)) (neN (by omega)) n1 n2 hd hu) (fun _ s₂ h₂ => wpAny_mono h₂ (fun fl s' q => ?_) (fun _ _ q => q.elim)) (fun _ _ q => q.elim)
    refine shut fun hG => ?_
    obtain ⟨rfl, h', tk', m8, v8, own8, rfl, F', N', hI', off', sub', hz⟩ := q
    refine hG ?_
    clear hG
    refine ⟨h', tk', m8, (O, listOf v8.toArray (kO + 1)) :: (D, listOf vsD.toArray nD) :: (l, listOf vs.toArray n) :: own8, rfl, F', N', ?off, ⟨⟨.tail _ (.tail _ (.head _)), trivial⟩, ⟨v8, _, own8, rfl, ?its, off'⟩, fun z z1 z2 => ?nm⟩⟩
    case its => rw [startN_succ hwt]; exact hI'
    case nm =>
      rw [hz z z1 z2]
      have := hm' z z1 z2
      by_cases q : z = Str.ofString "order"
      · simp [q]
      · simp only [if_neg q] at this ⊢; exact this
    case off =>
      intro p hp q hq
      have hq' : q.1 = I5 + 1 ∨ q.1 = I5 := by
        rcases List.mem_cons.mp hq with rfl | hq
        · exact .inl rfl
        · rw [List.mem_singleton.mp hq]; exact .inr rfl
      simp only [List.mem_cons] at hp
      rcases hp with rfl | rfl | rfl | hp
      · rcases hq' with e | e <;> (rw [e]; exact neN (by (try dsimp only); omega))
      · rcases hq' with e | e <;> (rw [e]; exact neN (by (try dsimp only); omega))
      · rcases hq' with e | e <;> (rw [e]; exact neN (by (try dsimp only); omega))
      · have := off' p hp
        simp only [List.mem_cons, List.not_mem_nil, or_false, not_or] at this
        rcases hq' with e | e <;> (rw [e]; first | exact this.1 | exact this.2.1)
  case fin =>
    intro m' nx h tk hq1 Fk Nk
    refine shut fun hG => ?_
    obtain ⟨⟨vO, kO, own, rfl, hI, hof⟩, hm'⟩ := hq1
    refine hG ?_
    clear hG
    rw [enumItems_length, hlv, startN_all] at hI
    have F1 := fr_at (x := Str.ofString "depths") (v := .ref D) Fk ((hm' _ (by decide) (by decide)).trans rfl)
    have F2 := fr_at (x := Str.ofString "cost") (v := .int 0 tc) F1 ((if_neg (by decide)).trans ((hm' _ (by decide) (by decide)).trans rfl))
    have F3 := fr_at (x := Str.ofString "order") (v := .ref O) F2 ((if_neg (by decide)).trans ((if_neg (by decide)).trans ((hm' _ (by decide) (by decide)).trans rfl)))
    dsimp only
    refine wpAny_mono (depW w B F3 X T rfl (own := (l, listOf vs.toArray n) :: own) Nk (hI.mono fun q hq => mem_tail1 hq) iD (hufP_start h1 h5) h5 ?hof n1 (.head _) hd hu) (fun fl s' q => ?_) (fun _ _ q => q.elim)
    case hof =>
      intro p hp
      rcases List.mem_cons.mp hp with rfl | hp
      · simp only [List.mem_cons, List.not_mem_nil, or_false, not_or]; exact ⟨n2, n3⟩
      · have := hof p hp
        simp only [List.mem_cons, List.not_mem_nil, or_false, not_or] at this ⊢
        exact ⟨this.2.2.1, this.2.2.2⟩
    refine shut fun hG => ?_
    obtain ⟨T8, t8, h', tk', m8, vD8, nD8, own8, rfl, rfl, F', N', iV, lm, lt⟩ := q
    refine hG ?_
    clear hG
    exact ⟨T8, t8, h', tk', m8, vD8, nD8, own8, rfl, rfl, F', N', iV, lm, lt⟩
end Mine

end
section
open PySem PySem.W PySem.Spec PySem.Calls PyProof.Rows
namespace Mine
local macro_rules | `(tactic| walk_at "newList") => `(tactic| k_extra "my newlist")
local macro_rules | `(tactic| walk_at "binaryOp Mult ref int") => `(tactic| k_extra "my mul")
local macro_rules | `(tactic| walk_at "call builtin:len") => `(tactic| k_extra "my len")
theorem lawDepths (w : World) {p : Program} {loose : List Str} {mean : ExcName → Option Value} {mg mb : Str → Option Value} {dp un : Nat} {gd : Option (List Code)} {cn : Str} {cs : Scope} {a : Addr} {ccd : Value} {cl : List (Str × Addr)} {outer : List Env}
    {A₀ : Around} {base h₀ : Heap} {L : Addr} {m : Str → Option Value} {s : Shared} {Q E : Value → Shared → Prop}
    (B : Below A₀ base outer h₀) (F : Fr h₀ L s.heap m) (X : (hd1.heap_39 w.params).In h₀) (T : Top p loose mean mg mb h₀) (hk : cs.kind = .function)
    {l : Addr} {vs : List Value} {n : Nat} {ns : List Int}
    (N : News h₀ L s.heap [(l, listOf vs.toArray n)]) (hi : IntsAre vs ns) (h1 : ∀ w ∈ ns, 1 ≤ w) (h5 : ns.length ≤ 5)
    (hd : dp + 30 < recursionLimit) (hu : un + 700 < cLine)
    (hret : ∀ T D t vsD nD h' tk', (∀ b o, s.heap.get? b = some o → h'.get? b = some o) → @LE.le Nat _ s.heap.objs.size D → @LT.lt Nat _ D T → h'.get? T = some (tupO [Value.ref D, Value.int (huf ns).2 t].toArray) → h'.get? D = some (listOf (List.toArray vsD) nD) → IntsAre vsD (huf ns).1 → Q (.ref T) { s with heap := h', toks := tk' }) :
    wpAny (model PySem.Challenge.rw_ia0004_01.row.prog w) (ktrTop dp un gd cn cs L a ccd cl outer) (call (.ref 53) [.ref l]) Q E s := by
  revert X
  k_fill
  intro X
  k_with_none
  w_top off
  refine' con_def (fun v h' => ∃ T D t vsD nD, v = .ref T ∧ h'.get? l = some (listOf vs.toArray n) ∧ @LE.le Nat _ s.heap.objs.size D ∧ @LT.lt Nat _ D T ∧ h'.get? T = some (tupO [Value.ref D, Value.int (huf ns).2 t].toArray) ∧ h'.get? D = some (listOf (List.toArray vsD) nD) ∧ IntsAre vsD (huf ns).1) ?k1 ?k2 ?k3 ?k4 ?k5 ?kA ?kF ?kK ?k6 ?k7 ?k8 ?k9 ?kB ?_ ?_ ?c5 ?c2 ?c3 ?c4
  (case kA => exact rfl); (case kF => exact rfl); (case kK => first | assumption | exact rfl); (case k1 => k_asm); (case k2 => k_asm); (case k3 => k_asm); (case k4 => first | k_asm | exact News.nil); (case k5 => k_asm); (case k6 => k_is); (case k7 => k_is); (case k8 => ktr_room); (case k9 => first | exact BindsTo.of_eq rfl | exact binds_K (by k_in) rfl (by k_is) rfl rfl rfl | (refine' kp_binds ?kx ?ke; (case kx => k_in); (case ke => exact fun _ => rfl)))
  (case kB => exact locs rfl)
  (case c5 => decide)
  (case c2 => exact rfl)
  (case c3 => exact rfl)
  (case c4 => exact rfl)
  rotate_left
  · intro r h' tk' he hq1
    refine shut fun hG => ?_
    obtain ⟨T', D', t', vsD', nD', rfl, e1, e2, e3, e4, e5, e6⟩ := hq1
    refine hG ?_
    clear hG
    exact hret _ _ _ _ _ _ _ (keep_one he (N _ (.head _)).1 e1) e2 e3 e4 e5 e6
  intro g' L' h' hg F' N' B' l1 X' T' hz'
  (try dsimp only)
  show wpAny _ _ _ _ _ _
  k_fold
  have hlv : vs.length = ns.length := hi.length
  have lL : @LT.lt Nat _ l L' := l1 _ (.head _)
  k_with "my newlist" => ((k_dflt (refine' newList_L ?nF ?nN ?_ ?ns; (case nF => k_asm); (case nN => k_asm); (case ns => decide))); intro l4 h4 F4 N4 l40 lL4; (try k_lt l40); (try k_sweep))
  k_with "my len" => (k_dflt (refine' len_news ?lN ?lm ?lz ?_; (case lN => k_asm); (case lm => k_mem); (case lz => omega)))
  k_with "my mul" => ((k_dflt (refine' mul_ints (j := ns.length) ?mF ?mN ?mm ?mx ?mj ?_; (case mF => k_asm); (case mN => k_asm); (case mm => k_mem); (case mx => omega); (case mj => omega))); intro D7 h7 F7 N7 l7 i7; (try k_lt l7); (try k_sweep))
  repeat' (first | (k_unfold; (try dsimp only)) | ((fail_if_success (with_reducible show wpAny _ _ (execs (PySem.Stmt.For _ _ _ _ _ :: _) _) _ _ _)); first | walk1 | (dsimp only; walk1)))
  (rename Fr _ _ _ _ => F5)
  (rename News _ _ _ _ => N5)
  have F6 := fr_at (x := Str.ofString "weights") (v := .ref l) F5 rfl
  have F7 := fr_at (x := Str.ofString "depths") (v := .ref D7) F6 rfl
  have F8 := fr_at (x := Str.ofString "cost") (v := .int 0 _) F7 rfl
  have F9 := fr_at (x := Str.ofString "order") (v := .ref l4) F8 rfl
  refine' wpAny_mono (depF w B' F9 X' T' rfl (vsD := List.replicate ns.length _) (nD := 0) (nO := 0) (vs := vs) (n := n) (ns := ns) (news_sub N5 ?sub) hi i7 h1 h5 (neN (by omega)) (neN (by omega)) (neN (by omega)) ?hd ?hu) ?_ (fun _ _ q => q.elim)
  case sub =>
    intro q hq
    revert q; (repeat' (first | refine sub_cons (by k_mem) ?_ | fail)); first | (intro p hp; (repeat (first | exact hp | refine List.Mem.tail _ ?_)); done) | exact fun p hp => nomatch hp
  case hd => ktr_room
  case hu => ktr_units
  intro fl s' hq1
  refine shut fun hG => ?_
  obtain ⟨T8, t8, h', tk', m8, vD8, nD8, own8, rfl, rfl, Fe, Ne, iV, lm, lt⟩ := hq1
  refine hG ?_
  clear hG
  (show Done _ _ _ _ _)
  exact Done.mk' Fe ⟨T8, D7, t8, vD8, nD8, rfl, News.get Ne (.tail _ (.tail _ lm)), by omega, lt, News.get Ne (.head _), News.get Ne (.tail _ (.head _)), iV⟩
end Mine

end
section
open PySem PySem.W PySem.Spec PySem.Calls PyProof.Rows
namespace Mine
section
variable {prog : Program} {w : World} {A : Around} {E : Value → Shared → Prop} {R : Result → Shared → Prop} {s : Shared} {h₀ : Heap} {L : Addr} {m : Str → Option Value} {elt iter : Expr} {x : Str} {px : Pos} {scope : Scope} {cl : List (Str × Addr)} {pos : Pos} {env : Env}
/-- one for, no test, whatever is made on the way -/
theorem comp1_G {I : Addr} {fp : List Addr} {n : Nat} {P : Nat → Value → Prop} {St : Nat → Heap → Prop} {Kp : List (Addr × Obj) → Prop} {news : List (Addr × Obj)} {Q : Value → Shared → Prop} (S : Nat → List Value → List (Addr × Obj) → Prop)
    (W : Walks prog w A I fp [I] n P St) (hIo : ∀ i h, St i h → ∃ o, h.get? I = some o)
    (hSt : ∀ i h h' o nw, St i h → h.get? I = some o → h'.get? I = some o → (∀ b o, h₀.get? b = some o → h'.get? b = some o) → News h₀ L h' nw → Kp nw → St i h')
    (hKp : ∀ i ys nw, S i ys nw → Kp nw) (hn : n ≤ 10000)
    (hcell : ∀ z ∈ scope.names, z.2 ≠ .cell) (hkind : scope.kind = .function) (hx : scope.names.lookup x = some .local) (hst : St 0 s.heap) (hfp : ∀ b ∈ fp, b < s.heap.objs.size)
    (F : Fr h₀ L s.heap m) (N : News h₀ L s.heap news) (hLI : L ≠ I) (hI₀ : h₀.get? I = none) (off : OffAll [I] news) (hS : S 0 [] news)
    (step : ∀ i v oI oC C D ys m₂ nw h tk (E' : Value → Shared → Prop), i < n → P i v → LCg.NsObj oC m₂ → m₂ x = some v → Fr h₀ L h m → News h₀ L h ((I, oI) :: (C, oC) :: (D, LCg.lst ys) :: nw) → OffAll [I, C, D] nw → (@Ne Nat I C ∧ @Ne Nat I D ∧ @Ne Nat C D) → S i ys nw →
      wpAny (model prog w) A (eval elt (compEnvC scope cl C env)) (fun yv s' => InEnd h₀ L m { s with heap := h, toks := tk } I oI C oC D (LCg.lst ys) (S (i + 1) (ys ++ [yv])) s') E' { s with heap := h, toks := tk })
    (fin : ∀ ys nw, S n ys nw → FinC h₀ L m s Q ys nw) :
    wpAny (model prog w) A (newList []) (fun acc s₃ => wpAny (model prog w) A (newFunctionEnv scope env.globals cl [] env.qual none .none (some env)) (fun cenv s₄ =>
      codeAny (model prog w) A (.compStart (.ListComp elt [⟨.Name x px, iter, [], 0⟩] scope pos) 0 (.ref I) acc { cenv with scope := relabel scope env }) (compPost (model prog w) A E none Q acc cenv.locals) s₄) E s₃) E s := by
  have hLlt : L < s.heap.objs.size := F.ns.lt
  refine wpAny_newObj_type (wpAny_newFunctionEnv hcell (by intro y hy; simp at hy) (fun h₁ hns₁ hsb₁ => ?_) hkind)
  dsimp only at hns₁ hsb₁ ⊢
  have hC : (s.heap.push { cls := .type "list", data := .seq ([] : List Value).toArray }).objs.size = s.heap.objs.size + 1 := by rw [Heap.size_push]
  generalize hH : s.heap.push { cls := .type "list", data := .seq ([] : List Value).toArray } = H at hns₁ hsb₁ hC ⊢
  rw [hC] at hns₁ hsb₁ ⊢
  have hIlt : I < s.heap.objs.size := hfp I (W.sub I (List.mem_singleton.mpr rfl))
  have old : ∀ b o, s.heap.get? b = some o → h₁.get? b = some o := fun b o e => hsb₁.extBut b o (Nat.ne_of_lt (Nat.lt_succ_of_lt (Heap.lt_size e))) (Heap.get?_push_of_some _ (hH ▸ Heap.get?_push_of_some _ e))
  have hacc : h₁.get? s.heap.objs.size = some (LCg.lst []) := hsb₁.extBut _ _ (Nat.ne_of_lt (Nat.lt_succ_self _)) (Heap.get?_push_of_some _ (hH ▸ Heap.get?_push_size _ rfl))
  have fresh : ∀ b, s.heap.objs.size ≤ b → h₀.get? b = none := fun b hb => Heap.get?_none_of_le (Nat.le_trans F.above (Nat.le_of_lt (Nat.lt_of_lt_of_le hLlt hb)))
  have hD₀ := fresh _ (Nat.le_refl _)
  have hC₀ : h₀.get? (s.heap.objs.size + 1) = none := fresh _ (Nat.le_succ s.heap.objs.size)
  have hDL : s.heap.objs.size ≠ L := Nat.ne_of_gt hLlt
  have hCL : s.heap.objs.size + 1 ≠ L := Nat.ne_of_gt (Nat.lt_succ_of_lt hLlt)
  have hIC : @Ne Nat I (s.heap.objs.size + 1) := Nat.ne_of_lt (Nat.lt_succ_of_lt hIlt)
  have hID : @Ne Nat I s.heap.objs.size := Nat.ne_of_lt hIlt
  have hCD : @Ne Nat (s.heap.objs.size + 1) s.heap.objs.size := Nat.succ_ne_self _
  have hCf : s.heap.objs.size + 1 ∉ fp := fun hm => absurd (hfp _ hm) (Nat.not_lt.mpr (Nat.le_succ _))
  have hst₁ : St 0 h₁ := W.frame _ _ _ hst fun b _ o e => old b o e
  generalize hCe : s.heap.objs.size + 1 = C at *
  have hLD := hLlt
  generalize hDe : s.heap.objs.size = D at hacc hD₀ hDL hID hCD hLD ⊢
  obtain ⟨oC₁, heC₁, hoC₁⟩ := LCg.ns_obj hns₁
  have N₁ : News h₀ L h₁ ((C, oC₁) :: (D, LCg.lst []) :: news) := fun p hp => by
    rcases List.mem_cons.mp hp with rfl | hp
    · exact ⟨heC₁, hCL, hC₀⟩
    · rcases List.mem_cons.mp hp with rfl | hp
      · exact ⟨hacc, hDL, hD₀⟩
      · exact ⟨old _ _ (N p hp).1, (N p hp).2⟩
  have off₁ : OffAll [I, C, D] news := fun p hp hm => by
    have hlt := Heap.lt_size (N p hp).1
    simp only [List.mem_cons, List.not_mem_nil, or_false] at hm
    rcases hm with e | e | e
    · exact off p hp (by rw [e]; exact .head _)
    · have : p.1 < C := by rw [← hCe]; exact Nat.lt_succ_of_lt hlt
      exact absurd this (e ▸ Nat.lt_irrefl _)
    · have : p.1 < D := by rw [← hDe]; exact hlt
      exact absurd this (e ▸ Nat.lt_irrefl _)
  have loop : ∀ s₃ : Shared, (∃ tk, s₃ = { s with heap := h₁, toks := tk }) → codeAny (model prog w) A (.compLoop (.ListComp elt [⟨.Name x px, iter, [], 0⟩] scope pos) 0 (.ref I) (.ref D) (compEnvC scope cl C env)) (compPost (model prog w) A E none Q (.ref D) C) s₃ := by
    rintro s₃ ⟨tk₀, rfl⟩
    refine codeAny_compLoop_list
      (fun k s' => ∃ h' tk i ys oC m' nw, s' = { s with heap := h', toks := tk } ∧ i ≤ n ∧ k = n + 1 - i ∧ ys.length = i ∧ St i h' ∧ Fr h₀ L h' m ∧ News h₀ L h' ((C, oC) :: (D, LCg.lst ys) :: nw) ∧ LCg.NsObj oC m' ∧ OffAll [I, C, D] nw ∧ S i ys nw) ?_ (n + 1)
      ⟨h₁, tk₀, 0, [], oC₁, _, news, rfl, Nat.zero_le _, rfl, rfl, hst₁, F.keeps old, N₁, hoC₁, off₁, hS⟩
    intro k s' hq1
    refine shut fun hG => ?_
    obtain ⟨h', tk, i, ys, oC, m', nw, rfl, hi, rfl, hyl, hst', F', N', hC', off', hS'⟩ := hq1
    refine hG ?_
    clear hG
    have offI : ∀ p ∈ (C, oC) :: (D, LCg.lst ys) :: nw, p.1 ≠ I := by
      intro p hp
      rcases List.mem_cons.mp hp with rfl | hp
      · exact Ne.symm hIC
      · rcases List.mem_cons.mp hp with rfl | hp
        · exact Ne.symm hID
        · intro e; exact off' p hp (by rw [e]; exact .head _)
    by_cases hlt : i < n
    · refine W.item i _ _ _ hlt hst' fun v h₂ tk₂ hPv hst₂ hk₂ => ?_
      have N₂ := LCg.news_but N' hk₂ offI
      have F₂ := LCg.fr_but F' hk₂ hLI hI₀
      refine wpAny_assign_Name (wpAny_storeName_local (lookup_relabel_local hx) (hC'.ns (N₂ (C, oC) (.head _)).1) (fun h₃ hn₃ hs₃ => ?_) (by simp [compEnvC, relabel, hkind]))
      obtain ⟨oC₃, heC, hoC⟩ := LCg.ns_obj hn₃
      have hst₃ : St (i + 1) h₃ := W.frame _ _ _ hst₂ fun b hb o e => hs₃.extBut b o (fun q => hCf (by have q' : b = C := q; rw [← q']; exact hb)) e
      obtain ⟨oI, heI⟩ := hIo _ _ hst₃
      have F₃ : Fr h₀ L h₃ m := F₂.change hs₃ hCL hC₀
      have N₃ : News h₀ L h₃ ((I, oI) :: (C, oC₃) :: (D, LCg.lst ys) :: nw) := fun p hp => by
        rcases List.mem_cons.mp hp with rfl | hp
        · exact ⟨heI, Ne.symm hLI, hI₀⟩
        · rcases List.mem_cons.mp hp with rfl | hp
          · exact ⟨heC, hCL, hC₀⟩
          · have z := N₂ p (.tail _ hp)
            refine ⟨hs₃.extBut _ _ ?_ z.1, z.2⟩
            rcases List.mem_cons.mp hp with rfl | hp
            · exact Ne.symm hCD
            · intro e; exact off' p hp (by
                have e' : p.1 = C := e
                rw [e']; exact .tail _ (.head _))
      refine wpAny_mono (step i v oI oC₃ C D ys _ nw h₃ _ _ hlt hPv hoC (by simp) F₃ N₃ off' ⟨hIC, hID, hCD⟩ hS') (fun yv s₄ q => ?_) fun _ _ e => e
      refine shut fun hG => ?_
      obtain ⟨h₄, tk₄, nw₄, rfl, F₄, N₄, off₄, hS₄⟩ := q
      refine hG ?_
      clear hG
      have zD := (N₄ (D, LCg.lst ys) (.tail _ (.tail _ (.head _)))).1
      refine append_at (hsz := by show ys.toArray.size ≤ sizeLine; rw [List.size_toArray, sizeLine_eq]; omega) zD fun h₅ hs₅ hD₅ => ?_
      have F₅ := F₄.change hs₅ hDL hD₀
      have keep : ∀ p, p.1 ≠ D → p ∈ (I, oI) :: (C, oC₃) :: (D, LCg.lst ys) :: nw₄ → h₅.get? p.1 = some p.2 ∧ p.1 ≠ L ∧ h₀.get? p.1 = none := fun p hne hm => ⟨hs₅.extBut _ _ hne (N₄ p hm).1, (N₄ p hm).2⟩
      have N₅ : News h₀ L h₅ ((C, oC₃) :: (D, LCg.lst (ys ++ [yv])) :: nw₄) := fun p hp => by
        rcases List.mem_cons.mp hp with rfl | hp
        · exact keep _ hCD (.tail _ (.head _))
        · rcases List.mem_cons.mp hp with rfl | hp
          · exact ⟨hD₅.trans (congrArg some (LCg.lst_snoc ys yv)), hDL, hD₀⟩
          · exact keep _ (fun e => off₄ p hp (by rw [e]; exact .tail _ (.tail _ (.head _)))) (.tail _ (.tail _ (.tail _ hp)))
      have N₅' : News h₀ L h₅ nw₄ := fun p hp => N₅ p (.tail _ (.tail _ hp))
      exact ⟨n + 1 - (i + 1), by first | exact sub_step hlt | exact sub_step (by assumption) | omega, h₅, tk₄, i + 1, ys ++ [yv], oC₃, _, nw₄, rfl, hlt, rfl, by simp [hyl], hSt _ _ _ _ _ hst₃ heI (keep _ hID (.head _)).1 F₅.keep N₅' (hKp _ _ _ hS₄), F₅, N₅, hoC, off₄, hS₄⟩
    · obtain rfl : i = n := Nat.le_antisymm hi (Nat.not_lt.mp hlt)
      refine W.done _ _ _ hst' fun h₂ tk₂ hk₂ => ?_
      have N₂ := LCg.news_but N' hk₂ offI
      have F₂ := LCg.fr_but F' hk₂ hLI hI₀
      refine ⟨m', hC'.ns (N₂ (C, oC) (.head _)).1, fun h₃ hs₃ => fin ys nw hS' D h₃ tk₂ (F₂.change hs₃ hCL hC₀) (fun p hp => ?_) (fun p hp hm => off' p hp (.tail _ (.tail _ hm))) hLD⟩
      have z := N₂ p (.tail _ hp)
      refine ⟨hs₃.extBut _ _ ?_ z.1, z.2⟩
      rcases List.mem_cons.mp hp with rfl | hp
      · exact Ne.symm hCD
      · intro e; exact off' p hp (by
          have e' : p.1 = C := e
          rw [e']; exact .tail _ (.head _))
  exact codeAny_compStart_list (loop _ ⟨_, rfl⟩) (W.self 0 _ _ _ hst₁ (loop _ ⟨_, rfl⟩))
noncomputable def Src1 (prog : Program) (w : World) (A : Around) (h₀ : Heap) (L : Addr) (m : Str → Option Value) (env : Env) (elt : Expr) (x : Str) (scope : Scope) (cl : List (Str × Addr)) (Q : Value → Shared → Prop) (xv : Value) (s₁ : Shared) : Prop :=
  ∃ (I : Addr) (fp : List Addr) (n : Nat) (P : Nat → Value → Prop) (St : Nat → Heap → Prop) (Kp : List (Addr × Obj) → Prop) (news : List (Addr × Obj)) (S : Nat → List Value → List (Addr × Obj) → Prop) (o : Obj),
    (∀ (E : Value → Shared → Prop) (Q' : Value → Shared → Prop), Q' (.ref I) { s₁ with heap := s₁.heap.push o } → wpAny (model prog w) A (pyIter xv) Q' E s₁) ∧ I = s₁.heap.objs.size ∧ n ≤ 10000 ∧
    Walks prog w A I fp [I] n P St ∧ (∀ i h, St i h → ∃ o, h.get? I = some o) ∧
    (∀ i h h' o nw, St i h → h.get? I = some o → h'.get? I = some o → (∀ b o, h₀.get? b = some o → h'.get? b = some o) → News h₀ L h' nw → Kp nw → St i h') ∧ (∀ i ys nw, S i ys nw → Kp nw) ∧ St 0 (s₁.heap.push o) ∧ (∀ b ∈ fp, b < s₁.heap.objs.size + 1) ∧
    Fr h₀ L s₁.heap m ∧ News h₀ L s₁.heap news ∧ S 0 [] news ∧
    ∀ s : Shared, (∃ g, s = { s₁ with heap := g }) → (∀ i v oI oC C D ys m₂ nw h tk (E' : Value → Shared → Prop), i < n → P i v → LCg.NsObj oC m₂ → m₂ x = some v → Fr h₀ L h m → News h₀ L h ((I, oI) :: (C, oC) :: (D, LCg.lst ys) :: nw) → OffAll [I, C, D] nw → (@Ne Nat I C ∧ @Ne Nat I D ∧ @Ne Nat C D) → S i ys nw →
      wpAny (model prog w) A (eval elt (compEnvC scope cl C env)) (fun yv s' => InEnd h₀ L m { s with heap := h, toks := tk } I oI C oC D (LCg.lst ys) (S (i + 1) (ys ++ [yv])) s') E' { s with heap := h, toks := tk }) ∧
      (∀ ys nw, S n ys nw → FinC h₀ L m s Q ys nw)
theorem ListComp_1 {Q : Value → Shared → Prop} (_F₀ : Fr h₀ L s.heap m)
    (hclos : closureFor scope env = pure cl) (hcell : ∀ z ∈ scope.names, z.2 ≠ .cell) (hkind : scope.kind = .function)
    (hnames : ∀ z ∈ scope.names, z.2 = .local → scope.names.lookup z.1 = some .local) (hx : scope.names.lookup x = some .local)
    (h : wpAny (model prog w) A (eval iter env) (Src1 prog w A h₀ L m env elt x scope cl Q) E s)
    (hs : ∀ v, foldedSetIterable iter env v = pure v := by intro _; rfl) :
    wpAny (model prog w) A (eval (.ListComp elt [⟨.Name x px, iter, [], 0⟩] scope pos) env) Q E s := by
  rw [eval_ListComp]
  refine wpAny_comprehension_free (use := none) rfl hs hclos hkind hnames (wpAny_mono h (fun xv s₁ h₁ => ?_) fun _ _ e => e)
  refine shut fun hG => ?_
  obtain ⟨I, fp, n, P, St, Kp, news, S, o, hI, rfl, hn, W, hIo, hSt, hKp, hst, hfp, F, N, hS, hb⟩ := h₁
  refine hG ?_
  clear hG
  refine hI _ _ ?_
  obtain ⟨step, fin⟩ := hb { s₁ with heap := s₁.heap.push o } ⟨_, rfl⟩
  exact comp1_G S W hIo hSt hKp hn hcell hkind hx hst (fun b hb => by show b < (s₁.heap.push o).objs.size; rw [Heap.size_push]; exact hfp b hb) (F.push o) (N.grown fun _ _ e => Heap.get?_push_of_some _ e) (Nat.ne_of_lt F.ns.lt) (next_is_new F)
    (fun p hp hm => absurd (Heap.lt_size (N p hp).1) ((List.mem_singleton.mp hm) ▸ Nat.lt_irrefl _)) hS step fin
end
section
variable {prog : Program} {w : World} {A : Around} {h₀ : Heap} {L : Addr} {m : Str → Option Value} {elt : Expr} {x : Str} {scope : Scope} {cl : List (Str × Addr)} {env : Env} {Q : Value → Shared → Prop} {s₁ : Shared} {news : List (Addr × Obj)}
theorem Src1.range {r : Addr} {a b : Int} {t u v : Tok} {n : Nat} (S : Nat → List Value → List (Addr × Obj) → Prop)
    (hh : A.handled = none) (F : Fr h₀ L s₁.heap m) (N : News h₀ L s₁.heap news) (hr : IsRange s₁.heap r a b 1 t u v) (hsm : Builtin.Range.small a b 1 = true) (hn : Builtin.Range.rangeSize a b 1 = ((n : Nat) : Int)) (hn2 : n ≤ 10000) (hS : S 0 [] news)
    (h : ∀ g, (∀ i v I oI oC C D ys m₂ nw h tk (E' : Value → Shared → Prop), i < n → (∃ t, v = .int (a + (i : Int)) t) → LCg.NsObj oC m₂ → m₂ x = some v → Fr h₀ L h m → News h₀ L h ((I, oI) :: (C, oC) :: (D, LCg.lst ys) :: nw) → OffAll [I, C, D] nw → (@Ne Nat I C ∧ @Ne Nat I D ∧ @Ne Nat C D) → S i ys nw →
      wpAny (model prog w) A (eval elt (compEnvC scope cl C env)) (fun yv s' => InEnd h₀ L m { s₁ with heap := h, toks := tk } I oI C oC D (LCg.lst ys) (S (i + 1) (ys ++ [yv])) s') E' { s₁ with heap := h, toks := tk }) ∧
      (∀ ys nw, S n ys nw → FinC h₀ L m { s₁ with heap := g } Q ys nw)) : Src1 prog w A h₀ L m env elt x scope cl Q (.ref r) s₁ := by
  refine ⟨s₁.heap.objs.size, [s₁.heap.objs.size], n, _, _, fun _ => True, news, S, _, fun E Q' hq => wpAny_pyIter_range hr hsm hq, rfl, hn2, LCg.range_walks hh a n, fun i h st => ⟨_, st⟩, LCg.range_st, fun _ _ _ _ => trivial, (by show IsRangeIter _ _ _ _ _; rw [hn]; simpa using Heap.get?_push_size _ rfl), fun b hb => by rw [List.mem_singleton.mp hb]; exact Nat.lt_succ_self _, F, N, hS, ?_⟩
  rintro s ⟨g, rfl⟩
  obtain ⟨h1, h2⟩ := h g
  exact ⟨fun i v oI oC C D ys m₂ nw h tk E' a b c d f g' k l => h1 i v _ oI oC C D ys m₂ nw h tk E' a b c d f g' k l, h2⟩
theorem Src1.list {ax : Addr} {its : Array Value} (S : Nat → List Value → List (Addr × Obj) → Prop)
    (hh : A.handled = none) (F : Fr h₀ L s₁.heap m) (N : News h₀ L s₁.heap news) (hsrc : ∀ i ys nw, S i ys nw → LCg.SrcAt h₀ ax its nw) (hn2 : its.size ≤ 10000) (hS : S 0 [] news)
    (h : ∀ g, (∀ i v I oI oC C D ys m₂ nw h tk (E' : Value → Shared → Prop), i < its.size → its[i]? = some v → LCg.NsObj oC m₂ → m₂ x = some v → Fr h₀ L h m → News h₀ L h ((I, oI) :: (C, oC) :: (D, LCg.lst ys) :: nw) → OffAll [I, C, D] nw → (@Ne Nat I C ∧ @Ne Nat I D ∧ @Ne Nat C D) → S i ys nw →
      wpAny (model prog w) A (eval elt (compEnvC scope cl C env)) (fun yv s' => InEnd h₀ L m { s₁ with heap := h, toks := tk } I oI C oC D (LCg.lst ys) (S (i + 1) (ys ++ [yv])) s') E' { s₁ with heap := h, toks := tk }) ∧
      (∀ ys nw, S its.size ys nw → FinC h₀ L m { s₁ with heap := g } Q ys nw)) : Src1 prog w A h₀ L m env elt x scope cl Q (.ref ax) s₁ := by
  have hl : s₁.heap.IsList ax its := (hsrc _ _ _ hS).list F.keep N
  have haxlt : ax < s₁.heap.objs.size := by obtain ⟨_, e, _⟩ := hl; exact Heap.lt_size e
  refine ⟨s₁.heap.objs.size, [s₁.heap.objs.size, ax], its.size, _, _, LCg.SrcAt h₀ ax its, news, S, _, fun E Q' hq => wpAny_pyIter_list hl hq, rfl, hn2, Walks.list hh s₁.heap.objs.size ax (Nat.ne_of_lt haxlt) its, fun i h st => by obtain ⟨o, e, _⟩ := st.1; exact ⟨o, e⟩, LCg.list_st, hsrc, ⟨⟨_, Heap.get?_push_size _ rfl, rfl, rfl⟩, hl.push _⟩, fun b hb => ?_, F, N, hS, ?_⟩
  · rcases List.mem_cons.mp hb with rfl | hb
    · exact Nat.lt_succ_self _
    · rw [List.mem_singleton.mp hb]; exact Nat.lt_succ_of_lt haxlt
  · rintro s ⟨g, rfl⟩
    obtain ⟨h1, h2⟩ := h g
    exact ⟨fun i v oI oC C D ys m₂ nw h tk E' a b c d f g' k l => h1 i v _ oI oC C D ys m₂ nw h tk E' a b c d f g' k l, h2⟩
theorem Src1.tup {ax : Addr} {vs : List Value} (S : Nat → List Value → List (Addr × Obj) → Prop)
    (hh : A.handled = none) (F : Fr h₀ L s₁.heap m) (N : News h₀ L s₁.heap news) (hsrc : ∀ i ys nw, S i ys nw → (ax, tupO vs.toArray) ∈ nw) (hn2 : vs.length ≤ 10000) (hS : S 0 [] news)
    (h : ∀ g, (∀ i v I oI oC C D ys m₂ nw h tk (E' : Value → Shared → Prop), i < vs.length → vs[i]? = some v → LCg.NsObj oC m₂ → m₂ x = some v → Fr h₀ L h m → News h₀ L h ((I, oI) :: (C, oC) :: (D, LCg.lst ys) :: nw) → OffAll [I, C, D] nw → (@Ne Nat I C ∧ @Ne Nat I D ∧ @Ne Nat C D) → S i ys nw →
      wpAny (model prog w) A (eval elt (compEnvC scope cl C env)) (fun yv s' => InEnd h₀ L m { s₁ with heap := h, toks := tk } I oI C oC D (LCg.lst ys) (S (i + 1) (ys ++ [yv])) s') E' { s₁ with heap := h, toks := tk }) ∧
      (∀ ys nw, S vs.length ys nw → FinC h₀ L m { s₁ with heap := g } Q ys nw)) : Src1 prog w A h₀ L m env elt x scope cl Q (.ref ax) s₁ := by
  have at' : ∀ {hh : Heap} {nw : List (Addr × Obj)}, News h₀ L hh nw → (ax, tupO vs.toArray) ∈ nw → hh.IsTuple ax vs.toArray := fun N hm => ⟨_, (N _ hm).1, rfl, 0, rfl⟩
  have hl : s₁.heap.IsTuple ax vs.toArray := at' N (hsrc _ _ _ hS)
  have haxlt : ax < s₁.heap.objs.size := by obtain ⟨_, e, _⟩ := hl; exact Heap.lt_size e
  have hsz : vs.toArray.size = vs.length := by simp
  refine ⟨s₁.heap.objs.size, [s₁.heap.objs.size, ax], vs.toArray.size, _, _, fun nw => (ax, tupO vs.toArray) ∈ nw, news, S, _, fun E Q' hq => wpAny_pyIter_tuple hl hq, rfl, by rw [hsz]; exact hn2, Walks.tuple hh s₁.heap.objs.size ax (Nat.ne_of_lt haxlt) vs.toArray, fun i h st => by obtain ⟨o, e, _⟩ := st.1; exact ⟨o, e⟩, ?_, hsrc, ⟨⟨_, Heap.get?_push_size _ rfl, rfl, rfl⟩, hl.at fun o e => Heap.get?_push_of_some _ e⟩, fun b hb => ?_, F, N, hS, ?_⟩
  · intro i h h' o nw st e e' _ N' hm
    exact ⟨by obtain ⟨o', q, r⟩ := st.1; rw [e] at q; cases q; exact ⟨o, e', r⟩, at' N' hm⟩
  · rcases List.mem_cons.mp hb with rfl | hb
    · exact Nat.lt_succ_self _
    · rw [List.mem_singleton.mp hb]; exact Nat.lt_succ_of_lt haxlt
  · rintro s ⟨g, rfl⟩
    obtain ⟨h1, h2⟩ := h g
    exact ⟨fun i v oI oC C D ys m₂ nw h tk E' a b c d f g' k l => h1 i v _ oI oC C D ys m₂ nw h tk E' (by rw [← hsz]; exact a) (by simpa using b) c d f g' k l, fun ys nw q => h2 ys nw (by rw [← hsz]; exact q)⟩
end
end Mine

end
section
open PySem PySem.W PySem.Spec PySem.Calls PyProof.Rows
namespace Mine
/-- tuples of ints, laid in a ledger -/
inductive TupsIn (own : List (Addr × Obj)) : List Value → List (List Int) → Prop
  | nil : TupsIn own [] []
  | cons {T : Addr} {us : List Value} {r : List Int} {vs : List Value} {rs : List (List Int)} : (T, tupO us.toArray) ∈ own → IntsAre us r → TupsIn own vs rs → TupsIn own (.ref T :: vs) (r :: rs)
theorem TupsIn.mono {own own' : List (Addr × Obj)} {vs : List Value} {rs : List (List Int)} (h : TupsIn own vs rs) (hs : ∀ p ∈ own, p ∈ own') : TupsIn own' vs rs := by
  induction h with
  | nil => exact .nil
  | cons a b _ ih => exact .cons (hs _ a) b ih
theorem TupsIn.length {own : List (Addr × Obj)} {vs : List Value} {rs : List (List Int)} (h : TupsIn own vs rs) : vs.length = rs.length := by
  induction h with
  | nil => rfl
  | cons _ _ _ ih => simp [ih]
theorem TupsIn.snoc {own : List (Addr × Obj)} {vs : List Value} {rs : List (List Int)} (h : TupsIn own vs rs) {T : Addr} {us : List Value} {r : List Int} (hm : (T, tupO us.toArray) ∈ own) (hi : IntsAre us r) : TupsIn own (vs ++ [.ref T]) (rs ++ [r]) := by
  induction h with
  | nil => exact .cons hm hi .nil
  | cons a b _ ih => exact .cons a b ih
theorem TupsIn.get {own : List (Addr × Obj)} {vs : List Value} {rs : List (List Int)} (h : TupsIn own vs rs) : ∀ {k : Nat} {v : Value}, vs[k]? = some v → ∃ T us r, v = .ref T ∧ rs[k]? = some r ∧ (T, tupO us.toArray) ∈ own ∧ IntsAre us r := by
  induction h with
  | nil => intro k v e; simp at e
  | cons a b _ ih =>
    intro k v e
    cases k with
    | zero => simp at e; exact ⟨_, _, _, e.symm, rfl, a, b⟩
    | succ k => exact ih (by simpa using e)
/-- what a call gives that makes a list of tuples -/
noncomputable def TupsRet (rows : List (List Int)) (z : Nat) (v : Value) (h' : Heap) : Prop :=
  ∃ R vs n tl, v = .ref R ∧ h'.get? R = some (listOf (List.toArray vs) n) ∧ @LE.le Nat _ z R ∧ (∀ p ∈ tl, h'.get? p.1 = some p.2 ∧ @LE.le Nat _ z p.1 ∧ @Ne Nat p.1 R) ∧ TupsIn tl vs rows
theorem after_tups {h₀ h h' : Heap} {L R : Addr} {m : Str → Option Value} {news tl : List (Addr × Obj)} {o : Obj} {Pr : Prop} (F : Fr h₀ L h m) (N : News h₀ L h news)
    (e : ∀ b o, h.get? b = some o → h'.get? b = some o) (hz : @LE.le Nat _ h.objs.size R) (ho : h'.get? R = some o) (ht : ∀ p ∈ tl, h'.get? p.1 = some p.2 ∧ @LE.le Nat _ h.objs.size p.1 ∧ @Ne Nat p.1 R)
    (k : Fr h₀ L h' m → News h₀ L h' ((R, o) :: (news ++ tl)) → (∀ p ∈ news, p.1 < R) → (∀ p ∈ tl, ∀ q ∈ news, q.1 < p.1) → Pr) : Pr := by
  have hL : ∀ {x : Nat}, h.objs.size ≤ x → L < x := fun hx => Nat.lt_of_lt_of_le F.ns.lt hx
  refine k (ext_F F e) (fun p hp => ?_) (fun p hp => Nat.lt_of_lt_of_le (Heap.lt_size (N p hp).1) hz) fun p hp q hq => Nat.lt_of_lt_of_le (Heap.lt_size (N q hq).1) (ht p hp).2.1
  rcases List.mem_cons.mp hp with rfl | hp
  · exact ⟨ho, Nat.ne_of_gt (hL hz), Heap.get?_none_of_le (Nat.le_trans F.above (Nat.le_of_lt (hL hz)))⟩
  · rcases List.mem_append.mp hp with hp | hp
    · exact ext_N N e p hp
    · obtain ⟨a, b, _⟩ := ht p hp
      exact ⟨a, Nat.ne_of_gt (hL b), Heap.get?_none_of_le (Nat.le_trans F.above (Nat.le_of_lt (hL b)))⟩
end Mine
namespace Mine
theorem rowsP_length : ∀ (m D : Nat), (rowsP m D).length = D ^ m
  | 0, _ => rfl
  | m + 1, D => by
    have h : ∀ n : Nat, ((List.range n).flatMap fun (d : Nat) => (rowsP m D).map fun r => ((1 : Int) + (d : Int)) :: r).length = n * D ^ m := by
      intro n
      induction n with
      | zero => simp
      | succ n ih =>
        rw [List.range_succ, List.flatMap_append, List.length_append, ih]
        simp [rowsP_length m D, Nat.succ_mul]
    rw [show rowsP (m + 1) D = (List.range D).flatMap fun (d : Nat) => (rowsP m D).map fun r => ((1 : Int) + (d : Int)) :: r from rfl, h D, Nat.pow_succ, Nat.mul_comm]
theorem rowsP_le {m D : Nat} (hm : m ≤ 4) (hD : D ≤ 3) : (rowsP m D).length ≤ 81 := by
  rw [rowsP_length]
  calc D ^ m ≤ 3 ^ m := Nat.pow_le_pow_left hD m
    _ ≤ 3 ^ 4 := Nat.pow_le_pow_right (by decide) hm
    _ = 81 := by decide
/-- the rows whose first is among the first i -/
noncomputable def rowsUp (m D i : Nat) : List (List Int) := (List.range i).flatMap fun (d : Nat) => (rowsP m D).map fun r => ((1 : Int) + (d : Int)) :: r
theorem rowsUp_succ (m D i : Nat) : rowsUp m D (i + 1) = rowsUp m D i ++ (rowsP m D).map fun r => ((1 : Int) + (i : Int)) :: r := by
  unfold rowsUp; rw [List.range_succ, List.flatMap_append]; simp
theorem rowsUp_all (m D : Nat) : rowsUp m D D = rowsP (m + 1) D := rfl
theorem range_one_tab : ∀ n : Nat, n < 4 → Builtin.Range.small 1 ((n : Int) + 1) 1 = true ∧ Builtin.Range.rangeSize 1 ((n : Int) + 1) 1 = (n : Int) := by decide +kernel
theorem mem_app_l {α : Type} {a : α} {l r : List α} (h : a ∈ l) : a ∈ l ++ r := List.mem_append.mpr (.inl h)
theorem mem_app_r {α : Type} {a : α} {l r : List α} (h : a ∈ r) : a ∈ l ++ r := List.mem_append.mpr (.inr h)
end Mine
namespace Mine
/-- a turn of the fill's for -/
noncomputable def FillGo (h₀ : Heap) (L : Addr) (s : Shared) (m₀ : Str → Option Value) (led : List Value → Nat → List (Addr × Obj)) (vf : List Value) (row : Value) (nf : Nat) (b : Bool) (fl : Flow) (s' : Shared) : Prop :=
  fl = .next ∧ ∃ h' tk m', s' = { s with heap := h', toks := tk } ∧ Fr h₀ L h' m' ∧ News h₀ L h' (if b = true then led (vf ++ [row]) (nf + 1) else led vf nf) ∧ ∀ z, m' z = m₀ z
theorem ints_take {us : List Value} {ns : List Int} (h : IntsAre us ns) {i : Nat} {v : Value} (e : us[i]? = some v) : ∃ k t, ns[i]? = some k ∧ v = .int k t := ints_at h e
theorem ints_snoc' {n : Int} {t : Tok} : ∀ {vs : List Value} {ns : List Int}, IntsAre vs ns → IntsAre (vs ++ [.int n t]) (ns ++ [n])
  | _, _, .nil => .cons n t .nil
  | _, _, .cons a u h => .cons a u (ints_snoc' h)
theorem kraft_dec {D : Nat} {r : List Int} : (kraft D r == 2 ^ D) = decide (kraft D r = ((2 ^ D : Nat) : Int)) := by
  have : ((2 ^ D : Nat) : Int) = (2 : Int) ^ D := by simp
  rw [this]
  by_cases h : kraft D r = 2 ^ D <;> simp [h]
end Mine

end
section
open PySem PySem.W PySem.Spec PySem.Calls PyProof.Rows
namespace Mine
local macro_rules | `(tactic| walk_at "call ref") => `(tactic| k_extra "my call")
local macro_rules | `(tactic| walk_at "binaryOp Add ref ref") => `(tactic| k_extra "my add")
local macro_rules | `(tactic| walk_at "eval ListComp") => `(tactic| k_extra "my comp")
local macro_rules | `(tactic| k_all) => `(tactic| assumption)
theorem lawRows (w : World) {deep : Nat} (hdeep : deep ≤ 3) :
    ∀ (many : Nat) {p : Program} {loose : List Str} {mean : ExcName → Option Value} {mg mb : Str → Option Value} {dp un : Nat} {gd : Option (List Code)} {cn : Str} {cs : Scope} {a : Addr} {ccd : Value} {cl : List (Str × Addr)} {outer : List Env}
    {A₀ : Around} {base h₀ : Heap} {L : Addr} {m : Str → Option Value} {s : Shared} {Q E : Value → Shared → Prop}
    (B : Below A₀ base outer h₀) (F : Fr h₀ L s.heap m) (X : (hd1.heap_39 w.params).In h₀) (T : Top p loose mean mg mb h₀) (hk : cs.kind = .function)
    {xm : Int} {t1 t2 : Tok} (hxm : xm = (many : Int)) (hmany : many ≤ 4)
    (hd : dp + 10 * many + 30 < recursionLimit) (hu : un + 200 * many + 700 < cLine)
    (hret : ∀ r h' tk', (∀ b o, s.heap.get? b = some o → h'.get? b = some o) → TupsRet (rowsP many deep) s.heap.objs.size r h' → Q r { s with heap := h', toks := tk' }),
    wpAny (model PySem.Challenge.rw_ia0004_01.row.prog w) (ktrTop dp un gd cn cs L a ccd cl outer) (call (.ref 63) [.int xm t1, .int (deep : Int) t2]) Q E s := by
  intro many
  induction many with
  | zero =>
    intro p loose mean mg mb dp un gd cn cs a ccd cl outer A₀ base h₀ L m s Q E B F X T hk xm t1 t2 hxm hmany hd hu hret
    subst hxm
    revert X
    k_fill
    intro X
    k_with_none
    w_top off
    refine' con_defC (TupsRet (rowsP 0 deep) s.heap.objs.size) ?k1 ?k2 ?k3 (mu := []) ?k4 ?k5 ?kA ?kF ?kK ?k6 ?k7 ?k8 ?k9 ?kB ?kD ?_ ?_ ?c2 ?c3 ?c4
    (case kA => exact rfl); (case kF => exact rfl); (case kK => first | assumption | exact rfl); (case k1 => k_asm); (case k2 => k_asm); (case k3 => k_asm); (case k4 => first | k_asm | exact News.nil); (case k5 => k_asm); (case k6 => k_is); (case k7 => k_is); (case k8 => ktr_room); (case k9 => first | exact BindsTo.of_eq rfl | exact binds_K (by k_in) rfl (by k_is) rfl rfl rfl | (refine' kp_binds ?kx ?ke; (case kx => k_in); (case ke => exact fun _ => rfl)))
    (case kB => exact rfl)
    (case kD => decide +kernel)
    (case c2 => exact rfl)
    (case c3 => exact rfl)
    (case c4 => exact rfl)
    rotate_left
    · rintro r h' tk' he e1
      exact hret _ _ _ (fun b o e => he b o e List.not_mem_nil) e1
    intro g' L' h' tk' cells' hg F' N' Y' B' l1 X' T' hz'
    (try k_lt l1)
    k_cells Y'
    (try simp only [List.cons_append, List.nil_append] at N')
    (try dsimp only)
    show wpAny _ _ _ _ _ _
    k_fold
    k_steps
    (show Done _ _ _ _ _)
    (rename Fr _ _ _ _ => F1)
    (rename News _ _ _ _ => N1)
    rename_i D9 _ lD9 l9 _ ll9
    refine Done.mk' F1 ⟨l9, [.ref D9], 0, [(D9, tupO ([] : List Value).toArray)], rfl, News.get N1 (.head _), by omega, fun p hp => ?_, .cons (.head _) .nil .nil⟩
    rw [List.mem_singleton.mp hp]
    exact ⟨News.get N1 (.tail _ (.head _)), (show @LE.le Nat _ s.heap.objs.size D9 by omega), neN (by dsimp only; omega)⟩
  | succ many ih =>
    intro p loose mean mg mb dp un gd cn cs a ccd cl outer A₀ base h₀ L m s Q E B F X T hk xm t1 t2 hxm hmany hd hu hret
    subst hxm
    revert X
    k_fill
    intro X
    k_with_none
    w_top off
    refine' con_defC (TupsRet (rowsP (many + 1) deep) s.heap.objs.size) ?k1 ?k2 ?k3 (mu := []) ?k4 ?k5 ?kA ?kF ?kK ?k6 ?k7 ?k8 ?k9 ?kB ?kD ?_ ?_ ?c2 ?c3 ?c4
    (case kA => exact rfl); (case kF => exact rfl); (case kK => first | assumption | exact rfl); (case k1 => k_asm); (case k2 => k_asm); (case k3 => k_asm); (case k4 => first | k_asm | exact News.nil); (case k5 => k_asm); (case k6 => k_is); (case k7 => k_is); (case k8 => ktr_room); (case k9 => first | exact BindsTo.of_eq rfl | exact binds_K (by k_in) rfl (by k_is) rfl rfl rfl | (refine' kp_binds ?kx ?ke; (case kx => k_in); (case ke => exact fun _ => rfl)))
    (case kB => exact rfl)
    (case kD => decide +kernel)
    (case c2 => exact rfl)
    (case c3 => exact rfl)
    (case c4 => exact rfl)
    rotate_left
    · rintro r h' tk' he e1
      exact hret _ _ _ (fun b o e => he b o e List.not_mem_nil) e1
    clear hret
    intro g' L' h' tk' cells' hg F' N' Y' B' l1 X' T' hz'
    (try k_lt l1)
    k_cells Y'
    (rename (Obj.data _ = Data.cell (bindC _ _ _ (Str.ofString "deep"))) => d1)
    (rename (Obj.data _ = Data.cell (bindC _ _ _ (Str.ofString "many"))) => d2)
    (try simp only [List.cons_append, List.nil_append] at N')
    refine shut fun hG => ?_
    obtain ⟨oA, oB, dA, dB, NA⟩ : ∃ oA oB : Obj, oA.data = Data.cell (some (Value.int (deep : Int) t2)) ∧ oB.data = Data.cell (some (Value.int ((many + 1 : Nat) : Int) t1)) ∧ News g' L' h' [(L' + 1 + 1, oA), (L' + 1, oB)] := ⟨_, _, d1, d2, N'⟩
    refine hG ?_
    clear hG
    clear N' d1 d2
    (try dsimp only)
    show wpAny _ _ _ _ _ _
    k_fold
    k_with "my comp" => (k_dflt (refine ListComp_2 (F₀ := by k_asm) (by with_unfolding_all rfl) (by decide) (by rfl) (by decide) (by rfl) ?_))
    k_steps
    · exfalso; omega
    (rename Fr _ _ _ _ => F1)
    (rename News _ _ _ _ => N1)
    (rename IsRange _ _ _ _ _ _ _ _ => hr1)
    obtain ⟨rs1, rs2⟩ := range_one_tab deep (by omega)
    refine Src2.range (n := deep) (fun i ys nw => ∃ own, nw = (L' + 1 + 1, oA) :: (L' + 1, oB) :: own ∧ TupsIn own ys (rowsUp many deep i) ∧ (∀ p ∈ own, @LE.le Nat _ s.heap.objs.size p.1) ∧ ys.length ≤ 81 * i) rfl F1 N1 hr1 rs1 rs2 ⟨[], rfl, .nil, (fun _ h => nomatch h), Nat.zero_le _⟩ fun g => ⟨?step, ?fin⟩
    case step =>
      intro i v I oI oC C D ys m₂ nw h tk E' hi hq1 hC hx Fk Nk offk nek hq2
      refine shut fun hG => ?_
      obtain ⟨tv, rfl⟩ := hq1
      obtain ⟨own, rfl, hT, hz, hlen⟩ := hq2
      refine hG ?_
      clear hG
      k_with "my call" => (refine' ih ?B ?F ?X ?T ?hk ?hxm ?hmany ?hd ?hu ?_; (case B => k_asm); (case F => k_asm); (case X => k_asm); (case T => k_asm); (case hk => exact rfl); (case hd => ktr_room); (case hu => ktr_units); (case hxm => omega); (case hmany => omega); (intro r9 h9 tk9 e9 p9; (try dsimp only at e9 p9); (obtain ⟨R9, vs9, n9, tl9, rfl, gR9, zR9, ht9, hT9⟩ := p9); (refine' after_tups ?aF ?aN e9 zR9 gR9 ht9 ?_; (case aF => k_asm); (case aN => k_asm); intro F9 N9 lR9 lt9); (have lR90 := lR9); (try k_lt lR9); (try dsimp only); (try k_sweep); (try k_fold)))
      clear F1 N1 hr1
      repeat' (first | ((fail_if_success (with_reducible show wpAny _ _ (pyIter _) _ _ _)); first | (k_unfold; (try dsimp only)) | walk1 | (dsimp only; walk1)))
      (rename Fr _ _ _ _ => F2)
      (rename News _ _ _ _ => N2)
      obtain ⟨nIC, nID, nCD⟩ := nek
      have hvs9 : vs9.length = (rowsP many deep).length := hT9.length
      have h81 := rowsP_le (m := many) (D := deep) (by omega) hdeep
      refine inner_list (ax := R9) (its := vs9.toArray) (ys := ys) (fun j ys' nw => ∃ own', nw = (R9, listOf vs9.toArray n9) :: (I, oI) :: (L' + 1 + 1, oA) :: (L' + 1, oB) :: own' ∧ (∀ p ∈ tl9, p ∈ own') ∧ TupsIn own' ys' (rowsUp many deep i ++ ((rowsP many deep).take j).map fun r => ((1 : Int) + (i : Int)) :: r) ∧ (∀ p ∈ own', @LE.le Nat _ s.heap.objs.size p.1) ∧ ys'.length ≤ 81 * i + j ∧ j ≤ 81 ∧ ∀ p ∈ own', p.1 ≠ I)
        rfl ?src ?sz rfl rfl F2 (news := (R9, listOf vs9.toArray n9) :: (I, oI) :: (L' + 1 + 1, oA) :: (L' + 1, oB) :: (own ++ tl9)) ?N hC nCD ?cax ?off ?S0 ?step2 ?fin2
      case src => rintro j ys nw ⟨own', rfl, _⟩; exact .inr ⟨_, .head _, rfl, n9, rfl⟩
      case sz => rintro j ys nw ⟨own', rfl, _, _, _, hl, hj, _⟩; omega
      case N =>
        refine news_sub N2 ?_
        (repeat' (first | refine sub_cons (by repeat (first | exact List.Mem.head _ | exact List.mem_append_right _ (List.Mem.head _) | refine List.Mem.tail _ ?_)) ?_ | fail))
        (intro p hp; repeat (first | exact hp | refine List.Mem.tail _ ?_))
      case cax => exact neN (by omega)
      case off =>
        intro q hq hm
        simp only [List.mem_cons, List.mem_append] at hq
        rcases hq with rfl | rfl | rfl | rfl | hq | hq
        · simp only [List.mem_cons, List.not_mem_nil, or_false] at hm; rcases hm with e | e <;> (rw [← e] at lR9; omega)
        · simp only [List.mem_cons, List.not_mem_nil, or_false] at hm; rcases hm with e | e
          · exact nIC e
          · exact nID e
        · exact offk _ (.head _) (.tail _ hm)
        · exact offk _ (.tail _ (.head _)) (.tail _ hm)
        · exact offk _ (.tail _ (.tail _ hq)) (.tail _ hm)
        · simp only [List.mem_cons, List.not_mem_nil, or_false] at hm
          rcases hm with e | e
          · exact absurd (lt9 q hq (C, oC) (.tail _ (.head _))) (e ▸ Nat.lt_irrefl _)
          · exact absurd (lt9 q hq (D, LCg.lst ys) (.tail _ (.tail _ (.head _)))) (e ▸ Nat.lt_irrefl _)
      case S0 =>
        refine ⟨own ++ tl9, rfl, fun p hp => mem_app_r hp, ?_, fun p hp => ?_, by omega, by omega, fun p hp => ?_⟩
        · simpa using hT.mono fun p hp => mem_app_l hp
        · rcases List.mem_append.mp hp with hp | hp
          · exact hz p hp
          · have := lt9 p hp (L' + 1, oB) (by repeat (first | exact List.Mem.head _ | apply List.Mem.tail))
            exact Nat.le_trans hz' (Nat.le_of_lt (Nat.lt_trans (Nat.lt_succ_self _) this))
        · rcases List.mem_append.mp hp with hp | hp
          · intro e; exact offk p (.tail _ (.tail _ hp)) (e ▸ .head _)
          · exact Nat.ne_of_gt (lt9 p hp (I, oI) (.head _))
      case fin2 =>
        intro oC' m₃ ys' nw h5 tk5 hq1 hC5 hm5 F5 N5 off5
        refine shut fun hG => ?_
        obtain ⟨own', rfl, ht, hT5, hz5, hl5, hj5, hI5⟩ := hq1
        refine hG ?_
        clear hG
        refine ⟨⟨_, rfl⟩, h5, tk5, oC', m₃, ys', (L' + 1 + 1, oA) :: (L' + 1, oB) :: own', rfl, F5, news_sub N5 ?_, hC5, ?_, ⟨own', rfl, ?_, hz5, ?_⟩⟩
        · intro q hq
          revert q; (repeat' (first | refine sub_cons (by k_mem) ?_ | fail)); first | (intro p hp; (repeat (first | exact hp | refine List.Mem.tail _ ?_)); done) | exact fun p hp => nomatch hp
        · intro q hq hm
          rcases List.mem_cons.mp hm with e | hm
          · rcases List.mem_cons.mp hq with rfl | hq
            · exact offk _ (.head _) (e ▸ .head _)
            · rcases List.mem_cons.mp hq with rfl | hq
              · exact offk _ (.tail _ (.head _)) (e ▸ .head _)
              · exact hI5 q hq e
          · exact off5 q (.tail _ (.tail _ hq)) hm
        · rw [rowsUp_succ]
          rw [show vs9.toArray.size = (rowsP many deep).length by simp [hvs9], List.take_length] at hT5
          exact hT5
        · have : vs9.toArray.size = vs9.length := by simp
          omega
      case step2 =>
        intro J j v oJ oC' m₃ ys' nw h5 tk5 E5 hj hv hC5 hy5 hm5 F5 N5 off5 hq1 hq2
        refine shut fun hG => ?_
        obtain ⟨nJC, nJD⟩ := hq1
        obtain ⟨own', rfl, ht, hT5, hz5, hl5, hj5, hI5⟩ := hq2
        refine hG ?_
        clear hG
        refine shut fun hG => ?_
        obtain ⟨T9, us, r, rfl, hr, hmem, iU⟩ := hT9.get (k := j) (v := v) (by simpa using hv)
        refine hG ?_
        clear hG
        have hx5 : m₃ (Str.ofString "depth") = some (.int ((1 : Int) + (i : Int)) tv) := (hm5 _ (by decide)).trans hx
        have hj9 : j < (rowsP many deep).length := by rw [← hvs9]; simpa using hj
        have N6 : News g' L' h5 ((T9, tupO us.toArray) :: (J, oJ) :: (C, oC') :: (D, LCg.lst ys') :: (R9, listOf vs9.toArray n9) :: (I, oI) :: (L' + 1 + 1, oA) :: (L' + 1, oB) :: own') := fun p hp => by
          rcases List.mem_cons.mp hp with rfl | hp
          · exact N5 _ (by repeat (first | exact ht _ hmem | apply mem_tail1))
          · exact N5 p hp
        clear N5 F2 N2
        refine wpAny_tests_nil ?_
        simp only [if_true]
        have hus9 : us.length ≤ 100 := by
          have h1 := iU.length
          have h2 := ((mem_rowsP many deep r).mp (List.mem_of_getElem? hr)).1
          omega
        have fin5 : ∀ mm (Tn : Addr) h6 tk6 usn, Fr g' L' h6 mm → News g' L' h6 ((Tn, tupO (List.toArray usn)) :: (J, oJ) :: (C, oC') :: (D, LCg.lst ys') :: (R9, listOf vs9.toArray n9) :: (I, oI) :: (L' + 1 + 1, oA) :: (L' + 1, oB) :: own') → IntsAre usn (((1 : Int) + (i : Int)) :: r) →
            @LT.lt Nat _ J Tn → @LT.lt Nat _ C Tn → @LT.lt Nat _ D Tn → @LT.lt Nat _ I Tn → @LT.lt Nat _ (L' + 1) Tn →
            InEnd g' L' mm { s with heap := h5, toks := tk5 } J oJ C oC' D (LCg.lst ys') (fun nw => ∃ own', nw = (R9, listOf vs9.toArray n9) :: (I, oI) :: (L' + 1 + 1, oA) :: (L' + 1, oB) :: own' ∧ (∀ p ∈ tl9, p ∈ own') ∧ TupsIn own' (ys' ++ [Value.ref Tn]) (rowsUp many deep i ++ ((rowsP many deep).take (j + 1)).map fun r => ((1 : Int) + (i : Int)) :: r) ∧ (∀ p ∈ own', @LE.le Nat _ s.heap.objs.size p.1) ∧ (ys' ++ [Value.ref Tn]).length ≤ 81 * i + (j + 1) ∧ j + 1 ≤ 81 ∧ ∀ p ∈ own', p.1 ≠ I) { s with heap := h6, toks := tk6 } := by
          intro mm Tn h6 tk6 usn F6 N7 iN q1 q2 q3 q4 q5
          refine ⟨h6, tk6, (R9, listOf vs9.toArray n9) :: (I, oI) :: (L' + 1 + 1, oA) :: (L' + 1, oB) :: (Tn, tupO usn.toArray) :: own', rfl, F6, news_sub N7 ?_, ?_, ⟨(Tn, tupO usn.toArray) :: own', rfl, fun p hp => mem_tail1 (ht p hp), ?_, ?_, ?_, by omega, ?_⟩⟩
          · intro q hq
            revert q; (repeat' (first | refine sub_cons (by k_mem) ?_ | fail)); first | (intro p hp; (repeat (first | exact hp | refine List.Mem.tail _ ?_)); done) | exact fun p hp => nomatch hp
          · intro q hq hm
            simp only [List.mem_cons] at hq
            rcases hq with hq | hq | hq | hq | hq | hq
            · exact off5 q (by rw [hq]; exact .head _) hm
            · exact off5 q (by rw [hq]; exact .tail _ (.head _)) hm
            · exact off5 q (by rw [hq]; exact .tail _ (.tail _ (.head _))) hm
            · exact off5 q (by rw [hq]; exact .tail _ (.tail _ (.tail _ (.head _)))) hm
            · subst hq
              simp only [List.mem_cons, List.not_mem_nil, or_false] at hm
              rcases hm with e | e | e
              · exact absurd q1 (e ▸ Nat.lt_irrefl _)
              · exact absurd q2 (e ▸ Nat.lt_irrefl _)
              · exact absurd q3 (e ▸ Nat.lt_irrefl _)
            · exact off5 q (.tail _ (.tail _ (.tail _ (.tail _ hq)))) hm
          · rw [List.take_add_one, hr, List.map_append, ← List.append_assoc]
            exact (hT5.mono fun p hp => mem_tail1 hp).snoc (.head _) iN
          · intro p hp
            rcases List.mem_cons.mp hp with rfl | hp
            · exact Nat.le_trans hz' (Nat.le_of_lt (Nat.lt_trans (Nat.lt_succ_self _) q5))
            · exact hz5 p hp
          · simp; omega
          · intro p hp
            rcases List.mem_cons.mp hp with rfl | hp
            · exact Nat.ne_of_gt q4
            · exact hI5 p hp
        by_cases hus : us = []
        · k_with "my add" => ((k_dflt (refine' kde_addT1 (its2 := us.toArray) ?aF ?aN ?a1 ?a2 ?b1 ?b2 ?b3 ?_; (case aF => k_asm); (case aN => k_asm); (case a1 => exact News.isTup (by k_asm) (by k_mem)); (case a2 => exact News.isTup (by k_asm) (by k_mem)); (case b1 => exact List.cons_ne_nil _ _); (case b2 => exact hus); (case b3 => ((show 1 + us.length ≤ 16384); omega)))))
          k_steps
          (rename Fr _ _ _ _ => F6)
          (rename News _ _ _ _ => N7)
          refine fin5 _ _ _ _ [Value.int ((1 : Int) + (i : Int)) tv] F6 (news_sub N7 fun q hq => ?_) ?_ (by omega) (by omega) (by omega) (by omega) (by omega)
          · rcases List.mem_cons.mp hq with rfl | hq
            · exact .head _
            · exact .tail _ (.tail _ hq)
          · rw [hus] at iU
            cases iU
            exact .cons _ _ .nil
        · k_with "my add" => ((k_dflt (refine' kde_addT (its2 := us.toArray) ?aF ?aN ?a1 ?a2 ?b1 ?b2 ?b3 rfl ?_; (case aF => k_asm); (case aN => k_asm); (case a1 => exact News.isTup (by k_asm) (by k_mem)); (case a2 => exact News.isTup (by k_asm) (by k_mem)); (case b1 => exact List.cons_ne_nil _ _); (case b2 => exact hus); (case b3 => ((show 1 + us.length ≤ 16384); omega)))); intro Dm hm Fm Nm lm; (try k_lt lm); (try k_sweep))
          k_steps
          (rename Fr _ _ _ _ => F6)
          (rename News _ _ _ _ => N7)
          refine fin5 _ _ _ _ (Value.int ((1 : Int) + (i : Int)) tv :: us) F6 (news_sub N7 fun q hq => ?_) (.cons _ _ iU) (by omega) (by omega) (by omega) (by omega) (by omega)
          rcases List.mem_cons.mp hq with rfl | hq
          · exact .head _
          · exact .tail _ (.tail _ (.tail _ hq))
    case fin =>
      intro ys nw hq1
      refine shut fun hG => ?_
      obtain ⟨own, rfl, hT, hz, hlen⟩ := hq1
      refine hG ?_
      clear hG
      unfold FinC
      intro D h tk Fe Ne offe hLD
      (show Done _ _ _ _ _)
      refine Done.mk' Fe ⟨D, ys, ys.length, own, rfl, News.get Ne (.head _), Nat.le_trans hz' (Nat.le_of_lt hLD), fun p hp => ⟨News.get Ne (.tail _ (.tail _ (.tail _ hp))), hz p hp, fun e => offe p (.tail _ (.tail _ hp)) (e ▸ .head _)⟩, hT⟩
end Mine

end
section
open PySem PySem.W PySem.Spec PySem.Calls PyProof.Rows
namespace Mine
local macro_rules | `(tactic| walk_at "eval ListComp") => `(tactic| k_extra "my comp")
local macro_rules | `(tactic| walk_at "binaryOp Pow int int") => `(tactic| k_extra "my pow")
local macro_rules | `(tactic| walk_at "call builtin:sum") => `(tactic| k_extra "my sum")
local macro_rules | `(tactic| k_all) => `(tactic| assumption)
theorem fillTurn (w : World) {p : Program} {loose : List Str} {mean : ExcName → Option Value} {mg mb : Str → Option Value} {dp un : Nat} {gd : Option (List Code)} {a : Addr} {ccd : Value} {outer : List Env}
    {A₀ : Around} {base h₀ : Heap} {L : Addr} {m : Str → Option Value} {s : Shared} {T9 Fd : Addr}
    (B : Below A₀ base outer h₀) (F : Fr h₀ L s.heap (fun z => if z = Str.ofString "row" then some (.ref T9) else if z = Str.ofString "found" then some (.ref Fd) else m z)) (X : (hd1.heap_39 w.params).In h₀) (T : Top p loose mean mg mb h₀) {target iter : Expr} {body : List Stmt} {cs : Scope} (hw : forOf (hd1.heap_39 w.params) 58 = some (target, iter, body, cs))
    {I R9 : Addr} {oI oR oD : Obj} {vf us : List Value} {nf deep many : Nat} {own : List (Addr × Obj)} {r : List Int} {td : Tok} (hdeep : deep ≤ 3) (hmany : many ≤ 4)
    (N : News h₀ L s.heap ((I, oI) :: (R9, oR) :: (Fd, listOf vf.toArray nf) :: (L + 1, oD) :: own)) (hm : (T9, tupO us.toArray) ∈ own) (iU : IntsAre us r) (hr : r.length = many ∧ ∀ d ∈ r, 1 ≤ d ∧ d ≤ (deep : Int)) (dD : oD.data = .cell (some (.int (deep : Int) td)))
    (hoff : ∀ p ∈ own, p.1 ≠ Fd) (n1 : @Ne Nat I Fd) (n2 : @Ne Nat R9 Fd) (n3 : @LT.lt Nat _ (L + 1) Fd) (hvf : vf.length ≤ 1000)
    (hd : dp + 20 < recursionLimit) (hu : un + 500 < cLine) :
    wpAny (model PySem.Challenge.rw_ia0004_01.row.prog w) (ktrTop dp un gd (Str.ofString "_law_fill") cs L a ccd (cellsFrom (L + 1) cs.names []) outer) (execs body (envX (Str.ofString "_law_fill") cs L a ccd (cellsFrom (L + 1) cs.names [])))
      (FillGo h₀ L s (fun z => if z = Str.ofString "row" then some (.ref T9) else if z = Str.ofString "found" then some (.ref Fd) else m z) (fun vf' nf' => (I, oI) :: (R9, oR) :: (Fd, listOf vf'.toArray nf') :: (L + 1, oD) :: own) vf (.ref T9) nf (kraft deep r == 2 ^ deep)) (fun _ _ => False) s := by
  cases hw
  revert X
  k_fill
  intro X
  k_with_none
  w_top off
  show wpAny _ _ _ _ _ { s with heap := s.heap, toks := s.toks }
  dsimp only
  k_fold
  k_with "my comp" => (k_dflt (refine ListComp_1 (by k_asm) (by with_unfolding_all rfl) (by decide) (by rfl) (by decide) (by rfl) ?_))
  k_steps
  (rename Fr _ _ _ _ => F1)
  (rename News _ _ _ _ => N1)
  have hul : us.length = r.length := iU.length
  refine Src1.tup (vs := us) (fun i ys nw => nw = (I, oI) :: (R9, oR) :: (Fd, listOf vf.toArray nf) :: (L + 1, oD) :: own ∧ IntsAre ys ((r.take i).map fun d => (2 : Int) ^ ((deep : Int) - d).toNat)) rfl F1 N1 (fun i ys nw h => ?src) (by omega) ⟨rfl, .nil⟩ (fun g => ⟨?step, ?fin⟩)
  case src => rw [h.1]; repeat (first | exact hm | apply mem_tail1)
  case step =>
    rintro i v J oJ C oC D ys m₂ nw h5 tk5 E5 hi hv hC hx F5 N5 off5 ne5 ⟨rfl, iY⟩
    obtain ⟨d, td', hd', rfl⟩ := ints_at iU hv
    have hd2 := hr.2 d (List.mem_of_getElem? hd')
    clear F1 N1
    k_with "my pow" => (k_dflt (refine pow_nat (k := ((deep : Int) - d).toNat) (by omega) (by omega) ?_))
    k_steps
    (rename Fr _ _ _ _ => F6)
    (rename News _ _ _ _ => N6)
    refine ⟨_, _, (I, oI) :: (R9, oR) :: (Fd, listOf vf.toArray nf) :: (L + 1, oD) :: own, rfl, F6, N6, off5, rfl, ?_⟩
    have e : ((2 ^ ((deep : Int) - d).toNat : Nat) : Int) = (2 : Int) ^ ((deep : Int) - d).toNat := by simp
    rw [List.take_add_one, hd', List.map_append]
    show IntsAre _ (_ ++ [(2 : Int) ^ ((deep : Int) - d).toNat])
    rw [← e]
    exact ints_snoc' iY
  case fin =>
    rintro ys nw ⟨rfl, iY⟩
    unfold FinC
    intro D h5 tk5 F5 N5 off5 hLD
    rw [hul, List.take_length] at iY
    have nDF : @Ne Nat D Fd := fun e => off5 (Fd, listOf vf.toArray nf) (.tail _ (.tail _ (.head _))) (e ▸ .head _)
    clear F1 N1
    (try dsimp only)
    k_with "my sum" => ((k_dflt (refine' sumK rfl ?sF ?sN ?sl iY ?_; (case sF => k_asm); (case sN => k_asm); (case sl => exact news_seq (by k_asm) (by k_mem)))); intro h4 tk4 t4 F4 N4; (try k_sweep))
    k_with "my pow" => (k_dflt (refine pow_nat (k := deep) rfl (by omega) ?_))
    k_steps
    · (rename Fr _ _ _ _ => F6)
      (rename News _ _ _ _ => N6)
      (rename (_ = ((2 ^ deep : Nat) : Int)) => hk9)
      simp only [List.push_toArray] at N6
      refine ⟨rfl, _, _, _, rfl, F6, ?_, fun _ => rfl⟩
      rw [kraft_dec, decide_eq_true (show kraft deep r = _ from hk9), if_pos rfl]
      exact news_sub N6 fun q hq => mem_tail1 hq
    · (rename Fr _ _ _ _ => F6)
      (rename News _ _ _ _ => N6)
      (rename (_ ≠ ((2 ^ deep : Nat) : Int)) => hk9)
      refine ⟨rfl, _, _, _, rfl, F6, ?_, fun _ => rfl⟩
      rw [kraft_dec, decide_eq_false (show ¬ kraft deep r = _ from hk9), if_neg Bool.false_ne_true]
      exact news_sub N6 fun q hq => mem_tail1 hq
end Mine

end
section
open PySem PySem.W PySem.Spec PySem.Calls PyProof.Rows
namespace Mine
local macro_rules | `(tactic| walk_at "call ref") => `(tactic| k_extra "my call")
local macro_rules | `(tactic| walk_at "exec For Name Call cons nil") => `(tactic| (k_here; (rename Fr _ _ _ _ => lF'); (with_unfolding_all refine' For_turns lF' ?_); k_whole))
theorem lawFill (w : World) {p : Program} {loose : List Str} {mean : ExcName → Option Value} {mg mb : Str → Option Value} {dp un : Nat} {gd : Option (List Code)} {cn : Str} {cs : Scope} {a : Addr} {ccd : Value} {cl : List (Str × Addr)} {outer : List Env}
    {A₀ : Around} {base h₀ : Heap} {L : Addr} {m : Str → Option Value} {s : Shared} {Q E : Value → Shared → Prop}
    (B : Below A₀ base outer h₀) (F : Fr h₀ L s.heap m) (X : (hd1.heap_39 w.params).In h₀) (T : Top p loose mean mg mb h₀) (hk : cs.kind = .function)
    {many deep : Nat} {xm xd : Int} {t1 t2 : Tok} (hxm : xm = (many : Int)) (hxd : xd = (deep : Int)) (hm1 : 1 ≤ many) (hm4 : many ≤ 4) (hdeep : deep ≤ 3)
    (hd : dp + 200 < recursionLimit) (hu : un + 3000 < cLine)
    (hret : ∀ r h' tk', (∀ b o, s.heap.get? b = some o → h'.get? b = some o) → TupsRet (fillP many deep) s.heap.objs.size r h' → Q r { s with heap := h', toks := tk' }) :
    wpAny (model PySem.Challenge.rw_ia0004_01.row.prog w) (ktrTop dp un gd cn cs L a ccd cl outer) (call (.ref 58) [.int xm t1, .int xd t2]) Q E s := by
  subst hxm hxd
  revert X
  k_fill
  intro X
  k_with_none
  w_top off
  refine' con_defC (TupsRet (fillP many deep) s.heap.objs.size) ?k1 ?k2 ?k3 (mu := []) ?k4 ?k5 ?kA ?kF ?kK ?k6 ?k7 ?k8 ?k9 ?kB ?kD ?_ ?_ ?c2 ?c3 ?c4
  (case kA => exact rfl); (case kF => exact rfl); (case kK => first | assumption | exact rfl); (case k1 => k_asm); (case k2 => k_asm); (case k3 => k_asm); (case k4 => first | k_asm | exact News.nil); (case k5 => k_asm); (case k6 => k_is); (case k7 => k_is); (case k8 => ktr_room); (case k9 => first | exact BindsTo.of_eq rfl | exact binds_K (by k_in) rfl (by k_is) rfl rfl rfl | (refine' kp_binds ?kx ?ke; (case kx => k_in); (case ke => exact fun _ => rfl)))
  (case kB => exact rfl)
  (case kD => decide +kernel)
  (case c2 => exact rfl)
  (case c3 => exact rfl)
  (case c4 => exact rfl)
  rotate_left
  · rintro r h' tk' he e1
    exact hret _ _ _ (fun b o e => he b o e List.not_mem_nil) e1
  clear hret
  intro g' L' h' tk' cells' hg F' N' Y' B' l1 X' T' hz'
  (try k_lt l1)
  k_cells Y'
  (rename (Obj.data _ = Data.cell (bindC _ _ _ (Str.ofString "deep"))) => d1)
  (try simp only [List.cons_append, List.nil_append] at N')
  obtain ⟨oD, dD, NA⟩ : ∃ oD : Obj, oD.data = Data.cell (some (Value.int (deep : Int) t2)) ∧ News g' L' h' [(L' + 1, oD)] := ⟨_, d1, N'⟩
  clear N' d1
  (try dsimp only)
  show wpAny _ _ _ _ _ _
  k_fold
  by_cases hm : many = 1
  · subst hm
    k_steps
    (show Done _ _ _ _ _)
    (rename Fr _ _ _ _ => F1)
    (rename News _ _ _ _ => N1)
    rename_i D9 _ lD9 l9 _ ll9
    obtain ⟨q1, N2⟩ : ∃ q1, News g' L' _ ((l9, listOf [Value.ref D9].toArray 0) :: (D9, tupO [Value.int 0 q1].toArray) :: _) := ⟨_, N1⟩
    refine Done.mk' F1 ⟨l9, [.ref D9], 0, [(D9, tupO [Value.int 0 q1].toArray)], rfl, News.get N2 (.head _), by omega, fun p hp => ?_, ?_⟩
    · rw [List.mem_singleton.mp hp]
      exact ⟨News.get N2 (.tail _ (.head _)), (show @LE.le Nat _ s.heap.objs.size D9 by omega), neN (by dsimp only; omega)⟩
    · unfold fillP
      rw [if_pos rfl]
      exact .cons (.head _) (.cons _ _ .nil) .nil
  · k_with "my call" => (refine' lawRows w hdeep many ?B ?F ?X ?T ?hk rfl hm4 ?hd ?hu ?_; (case B => k_asm); (case F => k_asm); (case X => k_asm); (case T => k_asm); (case hk => exact rfl); (case hd => ktr_room); (case hu => ktr_units); (intro r9 h9 tk9 e9 p9; (try dsimp only at e9 p9); (obtain ⟨R9, vs9, n9, tl9, rfl, gR9, zR9, ht9, hT9⟩ := p9); (refine' after_tups ?aF ?aN e9 zR9 gR9 ht9 ?_; (case aF => k_asm); (case aN => k_asm); intro F9 N9 lR9 lt9); (have lR90 := lR9); (try k_lt lR9); (try dsimp only); (try k_sweep); (try k_fold)))
    repeat' (first | ((fail_if_success (with_reducible show wpAny _ _ (pyIter _) _ _ _)); first | (k_unfold; (try dsimp only)) | walk1 | (dsimp only; walk1)))
    · exfalso; omega
    refine shut fun hG => ?_
    obtain ⟨Fd, M0, hM0, F10, N10, ltF, hFR, hlF⟩ : ∃ (Fd : Addr) (M0 : Str → Option Value), M0 (Str.ofString "found") = some (.ref Fd) ∧ Fr g' L' h9 M0 ∧ News g' L' h9 ((R9, listOf vs9.toArray n9) :: (Fd, listOf ([] : List Value).toArray 0) :: (L' + 1, oD) :: tl9) ∧ (∀ p ∈ tl9, @LT.lt Nat _ Fd p.1) ∧ @LT.lt Nat _ Fd R9 ∧ @LT.lt Nat _ (L' + 1) Fd := ⟨_, _, rfl, F9, N9, fun p hp => lt9 p hp _ (.head _), lR9.1, by first | assumption | omega⟩
    refine hG ?_
    clear hG
    clear F9 N9
    have htF : ∀ p ∈ tl9, p.1 ≠ Fd := fun p hp => Nat.ne_of_gt (ltF p hp)
    have hvs9 : vs9.length = (rowsP many deep).length := hT9.length
    have h81 := rowsP_le (m := many) (D := deep) hm4 hdeep
    refine' iter_listTurns (ax := R9) (lo := listOf vs9.toArray n9) (vs := vs9) rfl F10 N10 (.head _) rfl rfl ?_
    intro I5 lI
    refine items_run (fun i m' nx => (∃ vf nf, nx = (R9, listOf vs9.toArray n9) :: (Fd, listOf (List.toArray vf) nf) :: (L' + 1, oD) :: tl9 ∧ TupsIn tl9 vf (((rowsP many deep).take i).filter fun r => kraft deep r == 2 ^ deep) ∧ vf.length ≤ i) ∧ ∀ z, z ≠ Str.ofString "row" → m' z = M0 z) ⟨⟨[], 0, rfl, .nil, Nat.le_refl _⟩, fun _ _ => rfl⟩ ?step ?fin
    case step =>
      intro i b m' nx v h tk hib hq1 hv Fk
      refine shut fun hG => ?_
      obtain ⟨⟨vf, nf, rfl, hTf, hlf⟩, hm'⟩ := hq1
      refine hG ?_
      clear hG
      refine AllObj.cons fun oI hoI => AllObj.nil fun Nk => ?_
      rw [List.getElem?_map] at hib
      obtain ⟨u, hu', rfl⟩ := Option.map_eq_some_iff.mp hib
      obtain rfl : v = u := hv
      refine shut fun hG => ?_
      obtain ⟨T9, us, r, rfl, hr, hmem, iU⟩ := hT9.get hu'
      refine hG ?_
      clear hG
      have hlt9 : i < vs9.length := (List.getElem?_eq_some_iff.mp hu').1
      have hfI : @LT.lt Nat _ Fd I5 := lI (Fd, _) (.tail _ (.head _))
      have hcI : @LT.lt Nat _ (L' + 1) I5 := lI (L' + 1, oD) (.tail _ (.tail _ (.head _)))
      have hrI : @LT.lt Nat _ R9 I5 := lI (R9, _) (.head _)
      simp only [List.cons_append, List.nil_append] at Nk
      repeat' (first | ((fail_if_success (with_reducible show wpAny _ _ (execs (_ :: _) _) _ _ _)); first | (k_unfold; (try dsimp only)) | walk1 | (dsimp only; walk1)))
      (rename Fr _ _ _ _ => F6)
      (rename News _ _ _ _ => N6)
      have F7 := fr_at (x := Str.ofString "found") (v := .ref Fd) F6 ((if_neg (by decide)).trans ((hm' _ (by decide)).trans hM0))
      have F8 := fr_at (x := Str.ofString "row") (v := .ref T9) F7 ((if_neg (by decide)).trans (if_pos rfl))
      refine wpAny_mono (fillTurn w (deep := deep) (many := many) B' F8 X' T' rfl hdeep hm4 N6 hmem iU ((mem_rowsP many deep r).mp (List.mem_of_getElem? hr)) dD htF (neN (by omega)) (neN (by omega)) (by omega) (by omega) ?hd ?hu) (fun fl s' q => ?_) (fun _ _ q => q.elim)
      case hd => ktr_room
      case hu => ktr_units
      refine shut fun hG => ?_
      obtain ⟨rfl, h', tk', m8, rfl, F', N', hz⟩ := q
      refine hG ?_
      clear hG
      have hnm : ∀ z, z ≠ Str.ofString "row" → m8 z = M0 z := by
        intro z hz1
        rw [hz z]
        simp only [if_neg hz1]
        by_cases hz2 : z = Str.ofString "found"
        · rw [hz2, if_pos rfl, hM0]
        · simp only [if_neg hz2]; exact hm' z hz1
      have off : ∀ (vf' : List Value) (nf' : Nat), ∀ p ∈ (R9, listOf vs9.toArray n9) :: (Fd, listOf vf'.toArray nf') :: (L' + 1, oD) :: tl9, ∀ q ∈ [(I5, oI)], p.1 ≠ q.1 := by
        intro vf' nf' p hp q hq
        rw [List.mem_singleton.mp hq]
        simp only [List.mem_cons] at hp
        rcases hp with rfl | rfl | rfl | hp
        · exact Nat.ne_of_lt hrI
        · exact Nat.ne_of_lt hfI
        · exact Nat.ne_of_lt hcI
        · exact Nat.ne_of_lt (lI p (mem_tail1 (mem_tail1 (mem_tail1 hp))))
      have hflt : ((rowsP many deep).take (i + 1)).filter (fun r => kraft deep r == 2 ^ deep) = ((rowsP many deep).take i).filter (fun r => kraft deep r == 2 ^ deep) ++ (if (kraft deep r == 2 ^ deep) = true then [r] else []) := by
        rw [List.take_add_one, hr, List.filter_append]
        simp [List.filter_cons]
      cases hbb : (kraft deep r == 2 ^ deep) with
      | true =>
        rw [hbb] at N'
        rw [hbb] at hflt
        simp only [if_true] at N' hflt
        refine ⟨h', tk', m8, _, rfl, F', N', off _ _, ⟨.head _, trivial⟩, ⟨_, _, rfl, ?_, by simp; omega⟩, hnm⟩
        rw [hflt]
        exact hTf.snoc hmem iU
      | false =>
        rw [hbb] at N'
        rw [hbb] at hflt
        simp only [Bool.false_eq_true, if_false, List.append_nil] at N' hflt
        refine ⟨h', tk', m8, _, rfl, F', N', off _ _, ⟨.head _, trivial⟩, ⟨_, _, rfl, ?_, by omega⟩, hnm⟩
        rw [hflt]
        exact hTf
    case fin =>
      intro m' nx h tk hq1 Fk Nk
      refine shut fun hG => ?_
      obtain ⟨⟨vf, nf, rfl, hTf, hlf⟩, hm'⟩ := hq1
      refine hG ?_
      clear hG
      have F7 := fr_at (x := Str.ofString "found") (v := .ref Fd) Fk ((hm' _ (by decide)).trans hM0)
      clear Fk F10 N10
      (try dsimp only)
      k_steps
      (show Done _ _ _ _ _)
      (rename Fr _ _ _ _ => F1)
      (rename News _ _ _ _ => N1)
      refine Done.mk' F1 ⟨Fd, vf, nf, tl9, rfl, News.get N1 (.tail _ (.head _)), by omega, fun p hp => ⟨News.get N1 (mem_tail1 (mem_tail1 (mem_tail1 hp))), ?_, htF p hp⟩, ?_⟩
      · exact Nat.le_trans hz' (Nat.le_of_lt (Nat.lt_trans (Nat.lt_succ_self _) (lt9 p hp (L' + 1, oD) (.tail _ (.head _)))))
      · rw [List.length_map, hvs9, List.take_length] at hTf
        unfold fillP
        rw [if_neg hm]
        exact hTf
end Mine

end
section
open PySem PySem.W PySem.Spec PySem.Calls PyProof.Rows
namespace Mine
section
variable {prog : Program} {w : World} {A : Around} {E : Value → Shared → Prop} {R : Result → Shared → Prop} {s : Shared} {h₀ : Heap} {L : Addr} {m : Str → Option Value} {elt iter : Expr} {x : Str} {px : Pos} {scope : Scope} {cl : List (Str × Addr)} {pos : Pos} {env : Env}
noncomputable abbrev cellO (v : Option Value) : Obj := { cls := .type "cell", data := .cell v }
theorem newEnv_cell {M : Model} {Q : Env → Shared → Prop} (hcf : ∀ n, cellsFrom n scope.names cl = (x, n) :: cl) (hpc : ∀ H, pushCells H scope.names = H.push (cellO none))
    (hQ : Q (newEnv scope s.heap.objs.size env.globals ((x, s.heap.objs.size + 1) :: cl) env.qual none .none (some env) builtinsNs) { s with heap := (s.heap.push { cls := .type "dict", data := .dict #[] }).push (cellO none) }) :
    wpAny M A (newFunctionEnv scope env.globals cl [] env.qual none .none (some env)) Q E s := by
  simp only [newFunctionEnv, Option.isSome_some, if_true]
  refine wpAny_bind (wpAny_alloc ?_)
  refine wpAny_bind (wpAny_layCells _ (fun name kind cells => by cases hkc : kind == NameKind.cell <;> simp [hkc]) _ _ _ _ ?_)
  rw [show ({ s with heap := s.heap.push { cls := .type "dict", data := .dict #[] } } : Shared).heap.objs.size = s.heap.objs.size + 1 from Heap.size_push ..]
  rw [hcf, hpc]
  rw [List.forIn_nil]
  exact wpAny_bind (wpAny_pure (wpAny_pure hQ))
/-- one for, no test; the name it binds is a cell -/
theorem compC_G {I : Addr} {fp : List Addr} {n : Nat} {P : Nat → Value → Prop} {St : Nat → Heap → Prop} {Kp : List (Addr × Obj) → Prop} {news : List (Addr × Obj)} {Q : Value → Shared → Prop} (S : Nat → List Value → List (Addr × Obj) → Prop)
    (W : Walks prog w A I fp [I] n P St) (hIo : ∀ i h, St i h → ∃ o, h.get? I = some o)
    (hSt : ∀ i h h' o nw, St i h → h.get? I = some o → h'.get? I = some o → (∀ b o, h₀.get? b = some o → h'.get? b = some o) → News h₀ L h' nw → Kp nw → St i h')
    (hKp : ∀ i ys nw, S i ys nw → Kp nw) (hn : n ≤ 10000)
    (hcf : ∀ n, cellsFrom n scope.names cl = (x, n) :: cl) (hpc : ∀ H, pushCells H scope.names = H.push (cellO none)) (hkind : scope.kind = .function) (hx : (relabel scope env).names.lookup x = some .cell) (hst : St 0 s.heap) (hfp : ∀ b ∈ fp, b < s.heap.objs.size)
    (F : Fr h₀ L s.heap m) (N : News h₀ L s.heap news) (hLI : L ≠ I) (hI₀ : h₀.get? I = none) (off : OffAll [I] news) (hS : S 0 [] news)
    (step : ∀ i v oI oC C oK K D ys nw h tk (E' : Value → Shared → Prop), i < n → P i v → oK.data = .cell (some v) → Fr h₀ L h m → News h₀ L h ((I, oI) :: (C, oC) :: (D, LCg.lst ys) :: (K, oK) :: nw) → OffAll [I, C, D, K] nw → (@LT.lt Nat _ I D ∧ @LT.lt Nat _ D C ∧ @LT.lt Nat _ C K) → S i ys nw →
      wpAny (model prog w) A (eval elt (compEnvC scope ((x, K) :: cl) C env)) (fun yv s' => InEnd h₀ L m { s with heap := h, toks := tk } I oI C oC D (LCg.lst ys) (fun nw' => ∃ nw'', nw' = (K, oK) :: nw'' ∧ OffAll [K] nw'' ∧ S (i + 1) (ys ++ [yv]) nw'') s') E' { s with heap := h, toks := tk })
    (fin : ∀ ys nw, S n ys nw → FinC h₀ L m s Q ys nw) :
    wpAny (model prog w) A (newList []) (fun acc s₃ => wpAny (model prog w) A (newFunctionEnv scope env.globals cl [] env.qual none .none (some env)) (fun cenv s₄ =>
      codeAny (model prog w) A (.compStart (.ListComp elt [⟨.Name x px, iter, [], 0⟩] scope pos) 0 (.ref I) acc { cenv with scope := relabel scope env }) (compPost (model prog w) A E none Q acc cenv.locals) s₄) E s₃) E s := by
  have hLlt : L < s.heap.objs.size := F.ns.lt
  refine wpAny_newObj_type (newEnv_cell hcf hpc ?_)
  dsimp only
  have hC : (s.heap.push { cls := .type "list", data := .seq ([] : List Value).toArray }).objs.size = s.heap.objs.size + 1 := by rw [Heap.size_push]
  generalize hH : s.heap.push { cls := .type "list", data := .seq ([] : List Value).toArray } = H at hC ⊢
  rw [hC]
  have hnsC : (H.push { cls := .type "dict", data := .dict #[] }).Ns (s.heap.objs.size + 1) (fun _ => none) := by rw [← hC]; exact Heap.Ns.new H (.type "dict")
  have hK1 : (H.push { cls := .type "dict", data := .dict #[] }).objs.size = s.heap.objs.size + 2 := by rw [Heap.size_push, hC]
  have hkK : ((H.push { cls := .type "dict", data := .dict #[] }).push (cellO none)).get? (s.heap.objs.size + 2) = some (cellO none) := by rw [← hK1]; exact Heap.get?_push_size _ rfl
  have hnsC' : ((H.push { cls := .type "dict", data := .dict #[] }).push (cellO none)).Ns (s.heap.objs.size + 1) (fun _ => none) := hnsC.keeps fun b o e => Heap.get?_push_of_some _ e
  have old : ∀ b o, s.heap.get? b = some o → ((H.push { cls := .type "dict", data := .dict #[] }).push (cellO none)).get? b = some o := fun b o e => Heap.get?_push_of_some _ (Heap.get?_push_of_some _ (hH ▸ Heap.get?_push_of_some _ e))
  have hacc : ((H.push { cls := .type "dict", data := .dict #[] }).push (cellO none)).get? s.heap.objs.size = some (LCg.lst []) := Heap.get?_push_of_some _ (Heap.get?_push_of_some _ (hH ▸ Heap.get?_push_size _ rfl))
  generalize (H.push { cls := .type "dict", data := .dict #[] }).push (cellO none) = h₁ at hkK hnsC' old hacc ⊢
  clear hnsC hK1
  have hIlt : I < s.heap.objs.size := hfp I (W.sub I (List.mem_singleton.mpr rfl))
  have fresh : ∀ b, s.heap.objs.size ≤ b → h₀.get? b = none := fun b hb => Heap.get?_none_of_le (Nat.le_trans F.above (Nat.le_of_lt (Nat.lt_of_lt_of_le hLlt hb)))
  have hst₁ : St 0 h₁ := W.frame _ _ _ hst fun b _ o e => old b o e
  have hfpD : ∀ b ∈ fp, b < s.heap.objs.size := hfp
  have newsD : ∀ p ∈ news, p.1 < s.heap.objs.size := fun p hp => Heap.lt_size (N p hp).1
  have hD₀ := fresh _ (Nat.le_refl _)
  obtain ⟨D, hDe⟩ : ∃ D, D = s.heap.objs.size := ⟨_, rfl⟩
  obtain ⟨C, hCe⟩ : ∃ C, C = D + 1 := ⟨_, rfl⟩
  obtain ⟨K, hKe⟩ : ∃ K, K = D + 2 := ⟨_, rfl⟩
  rw [← hDe] at hkK hnsC' hacc hIlt hLlt fresh hfpD newsD hD₀ ⊢
  rw [← hCe] at hnsC' ⊢
  rw [show C + 1 = K by rw [hKe, hCe]]
  rw [← hKe] at hkK
  have hC₀ := fresh C (by rw [hCe]; exact Nat.le_succ _)
  have hK₀ := fresh K (by rw [hKe]; exact Nat.le_trans (Nat.le_succ _) (Nat.le_succ _))
  have hDC : @LT.lt Nat _ D C := by rw [hCe]; exact Nat.lt_succ_self _
  have hCK : @LT.lt Nat _ C K := by rw [hCe, hKe]; exact Nat.lt_succ_self _
  have hDK : @LT.lt Nat _ D K := Nat.lt_trans hDC hCK
  have hDL : D ≠ L := Nat.ne_of_gt hLlt
  have hCL : C ≠ L := Nat.ne_of_gt (Nat.lt_trans hLlt hDC)
  have hKL : K ≠ L := Nat.ne_of_gt (Nat.lt_trans hLlt hDK)
  have hIC : @Ne Nat I C := Nat.ne_of_lt (Nat.lt_trans hIlt hDC)
  have hID : @Ne Nat I D := Nat.ne_of_lt hIlt
  have hIK : @Ne Nat I K := Nat.ne_of_lt (Nat.lt_trans hIlt hDK)
  have hKf : K ∉ fp := fun hm => absurd (hfpD _ hm) (Nat.not_lt.mpr (Nat.le_of_lt hDK))
  clear hDe hCe hKe
  obtain ⟨oC₁, heC₁, hoC₁⟩ := LCg.ns_obj hnsC'
  have N₁ : News h₀ L h₁ ((C, oC₁) :: (D, LCg.lst []) :: (K, cellO none) :: news) := fun p hp => by
    rcases List.mem_cons.mp hp with rfl | hp
    · exact ⟨heC₁, hCL, hC₀⟩
    · rcases List.mem_cons.mp hp with rfl | hp
      · exact ⟨hacc, hDL, hD₀⟩
      · rcases List.mem_cons.mp hp with rfl | hp
        · exact ⟨hkK, hKL, hK₀⟩
        · exact ⟨old _ _ (N p hp).1, (N p hp).2⟩
  have off₁ : OffAll [I, C, D, K] news := fun p hp hm => by
    have hlt := newsD p hp
    simp only [List.mem_cons, List.not_mem_nil, or_false] at hm
    rcases hm with e | e | e | e
    · exact off p hp (by rw [e]; exact .head _)
    · exact absurd (e ▸ Nat.lt_trans hlt hDC) (Nat.lt_irrefl _)
    · exact absurd (e ▸ hlt) (Nat.lt_irrefl _)
    · exact absurd (e ▸ Nat.lt_trans hlt hDK) (Nat.lt_irrefl _)
  have loop : ∀ s₃ : Shared, (∃ tk, s₃ = { s with heap := h₁, toks := tk }) → codeAny (model prog w) A (.compLoop (.ListComp elt [⟨.Name x px, iter, [], 0⟩] scope pos) 0 (.ref I) (.ref D) (compEnvC scope ((x, K) :: cl) C env)) (compPost (model prog w) A E none Q (.ref D) C) s₃ := by
    rintro s₃ ⟨tk₀, rfl⟩
    refine codeAny_compLoop_list
      (fun k s' => ∃ h' tk i ys oC vK oK nw, s' = { s with heap := h', toks := tk } ∧ i ≤ n ∧ k = n + 1 - i ∧ ys.length = i ∧ St i h' ∧ Fr h₀ L h' m ∧ News h₀ L h' ((C, oC) :: (D, LCg.lst ys) :: (K, oK) :: nw) ∧ LCg.NsObj oC (fun _ => none) ∧ oK.data = Data.cell vK ∧ OffAll [I, C, D, K] nw ∧ S i ys nw) ?_ (n + 1)
      ⟨h₁, tk₀, 0, [], oC₁, none, cellO none, news, rfl, Nat.zero_le _, rfl, rfl, hst₁, F.keeps old, N₁, hoC₁, rfl, off₁, hS⟩
    intro k s' hq1
    refine shut fun hG => ?_
    obtain ⟨h', tk, i, ys, oC, vK, oK, nw, rfl, hi, rfl, hyl, hst', F', N', hC', hoK, off', hS'⟩ := hq1
    refine hG ?_
    clear hG
    have offI : ∀ p ∈ (C, oC) :: (D, LCg.lst ys) :: (K, oK) :: nw, p.1 ≠ I := by
      intro p hp
      rcases List.mem_cons.mp hp with rfl | hp
      · exact Ne.symm hIC
      · rcases List.mem_cons.mp hp with rfl | hp
        · exact Ne.symm hID
        · rcases List.mem_cons.mp hp with rfl | hp
          · exact Ne.symm hIK
          · intro e; exact off' p hp (by rw [e]; exact .head _)
    by_cases hlt : i < n
    · refine W.item i _ _ _ hlt hst' fun v h₂ tk₂ hPv hst₂ hk₂ => ?_
      have N₂ := LCg.news_but N' hk₂ offI
      have F₂ := LCg.fr_but F' hk₂ hLI hI₀
      refine wpAny_assign_Name (wpAny_storeName_cell (by simp [compEnvC, relabel, hkind]) hx (by simp [compEnvC]) ⟨oK, (N₂ (K, oK) (.tail _ (.tail _ (.head _)))).1, hoK⟩ fun h₃ hn₃ hs₃ => ?_)
      obtain ⟨oK₃, heK, hoK₃⟩ := hn₃
      have hst₃ : St (i + 1) h₃ := W.frame _ _ _ hst₂ fun b hb o e => hs₃.extBut b o (fun q => hKf (by have q' : b = K := q; rw [← q']; exact hb)) e
      obtain ⟨oI, heI⟩ := hIo _ _ hst₃
      have F₃ : Fr h₀ L h₃ m := F₂.change hs₃ hKL hK₀
      have keep₃ : ∀ p, p.1 ≠ K → p ∈ (C, oC) :: (D, LCg.lst ys) :: (K, oK) :: nw → h₃.get? p.1 = some p.2 ∧ p.1 ≠ L ∧ h₀.get? p.1 = none := fun p hne hm => ⟨hs₃.extBut _ _ hne (N₂ p hm).1, (N₂ p hm).2⟩
      have N₃ : News h₀ L h₃ ((I, oI) :: (C, oC) :: (D, LCg.lst ys) :: (K, oK₃) :: nw) := fun p hp => by
        rcases List.mem_cons.mp hp with rfl | hp
        · exact ⟨heI, Ne.symm hLI, hI₀⟩
        · rcases List.mem_cons.mp hp with rfl | hp
          · exact keep₃ _ (Nat.ne_of_lt hCK) (.head _)
          · rcases List.mem_cons.mp hp with rfl | hp
            · exact keep₃ _ (Nat.ne_of_lt hDK) (.tail _ (.head _))
            · rcases List.mem_cons.mp hp with rfl | hp
              · exact ⟨heK, hKL, hK₀⟩
              · exact keep₃ _ (fun e => off' p hp (by rw [e]; exact .tail _ (.tail _ (.tail _ (.head _))))) (.tail _ (.tail _ (.tail _ hp)))
      refine wpAny_mono (step i v oI oC C oK₃ K D ys nw h₃ _ _ hlt hPv hoK₃ F₃ N₃ off' ⟨hIlt, hDC, hCK⟩ hS') (fun yv s₄ q => ?_) fun _ _ e => e
      refine shut fun hG => ?_
      obtain ⟨h₄, tk₄, nw₄', rfl, F₄, N₄, off₄, nw₄, rfl, offK, hS₄⟩ := q
      refine hG ?_
      clear hG
      have zD := (N₄ (D, LCg.lst ys) (.tail _ (.tail _ (.head _)))).1
      refine append_at (hsz := by show ys.toArray.size ≤ sizeLine; rw [List.size_toArray, sizeLine_eq]; omega) zD fun h₅ hs₅ hD₅ => ?_
      have F₅ := F₄.change hs₅ hDL hD₀
      have keep : ∀ p, p.1 ≠ D → p ∈ (I, oI) :: (C, oC) :: (D, LCg.lst ys) :: (K, oK₃) :: nw₄ → h₅.get? p.1 = some p.2 ∧ p.1 ≠ L ∧ h₀.get? p.1 = none := fun p hne hm => ⟨hs₅.extBut _ _ hne (N₄ p hm).1, (N₄ p hm).2⟩
      have N₅ : News h₀ L h₅ ((C, oC) :: (D, LCg.lst (ys ++ [yv])) :: (K, oK₃) :: nw₄) := fun p hp => by
        rcases List.mem_cons.mp hp with rfl | hp
        · exact keep _ (Nat.ne_of_gt hDC) (.tail _ (.head _))
        · rcases List.mem_cons.mp hp with rfl | hp
          · exact ⟨hD₅.trans (congrArg some (LCg.lst_snoc ys yv)), hDL, hD₀⟩
          · exact keep _ (fun e => off₄ p hp (by rw [e]; exact .tail _ (.tail _ (.head _)))) (.tail _ (.tail _ (.tail _ hp)))
      have N₅' : News h₀ L h₅ nw₄ := fun p hp => N₅ p (.tail _ (.tail _ (.tail _ hp)))
      refine ⟨n + 1 - (i + 1), by first | exact sub_step hlt | exact sub_step (by assumption) | omega, h₅, tk₄, i + 1, ys ++ [yv], oC, _, oK₃, nw₄, rfl, hlt, rfl, by simp [hyl], hSt _ _ _ _ _ hst₃ heI (keep _ hID (.head _)).1 F₅.keep N₅' (hKp _ _ _ hS₄), F₅, N₅, hC', hoK₃, fun p hp hm => ?_, hS₄⟩
      simp only [List.mem_cons, List.not_mem_nil, or_false] at hm
      have o4 := off₄ p (.tail _ hp)
      simp only [List.mem_cons, List.not_mem_nil, or_false, not_or] at o4
      rcases hm with e | e | e | e
      · exact o4.1 e
      · exact o4.2.1 e
      · exact o4.2.2 e
      · exact offK p hp (by rw [e]; exact .head _)
    · obtain rfl : i = n := Nat.le_antisymm hi (Nat.not_lt.mp hlt)
      refine W.done _ _ _ hst' fun h₂ tk₂ hk₂ => ?_
      have N₂ := LCg.news_but N' hk₂ offI
      have F₂ := LCg.fr_but F' hk₂ hLI hI₀
      refine ⟨_, hC'.ns (N₂ (C, oC) (.head _)).1, fun h₃ hs₃ => fin ys nw hS' D h₃ tk₂ (F₂.change hs₃ hCL hC₀) (fun p hp => ?_) (fun p hp hm => off' p hp (by rw [List.mem_singleton.mp hm]; exact .tail _ (.tail _ (.head _)))) hLlt⟩
      have hp' : p ∈ (D, LCg.lst ys) :: (K, oK) :: nw := by
        rcases List.mem_cons.mp hp with rfl | hp
        · exact .head _
        · exact .tail _ (.tail _ hp)
      have z := N₂ p (.tail _ hp')
      refine ⟨hs₃.extBut _ _ ?_ z.1, z.2⟩
      rcases List.mem_cons.mp hp with rfl | hp
      · exact Nat.ne_of_lt hDC
      · intro e; exact off' p hp (by
          have e' : p.1 = C := e
          rw [e']; exact .tail _ (.head _))
  exact codeAny_compStart_list (loop _ ⟨_, rfl⟩) (W.self 0 _ _ _ hst₁ (loop _ ⟨_, rfl⟩))
/-- what the iterable must be: a list on the ledger -/
noncomputable def SrcC (prog : Program) (w : World) (A : Around) (h₀ : Heap) (L : Addr) (m : Str → Option Value) (env : Env) (elt : Expr) (x : Str) (scope : Scope) (cl : List (Str × Addr)) (Q : Value → Shared → Prop) (xv : Value) (s₁ : Shared) : Prop :=
  ∃ (ax : Addr) (its : Array Value) (S : Nat → List Value → List (Addr × Obj) → Prop) (news : List (Addr × Obj)), xv = .ref ax ∧ A.handled = none ∧ Fr h₀ L s₁.heap m ∧ News h₀ L s₁.heap news ∧ (∀ i ys nw, S i ys nw → LCg.SrcAt h₀ ax its nw) ∧ its.size ≤ 10000 ∧ S 0 [] news ∧
    ∀ g, (∀ i v I oI oC C oK K D ys nw h tk (E' : Value → Shared → Prop), i < its.size → its[i]? = some v → oK.data = .cell (some v) → Fr h₀ L h m → News h₀ L h ((I, oI) :: (C, oC) :: (D, LCg.lst ys) :: (K, oK) :: nw) → OffAll [I, C, D, K] nw → (@LT.lt Nat _ I D ∧ @LT.lt Nat _ D C ∧ @LT.lt Nat _ C K) → S i ys nw →
      wpAny (model prog w) A (eval elt (compEnvC scope ((x, K) :: cl) C env)) (fun yv s' => InEnd h₀ L m { s₁ with heap := h, toks := tk } I oI C oC D (LCg.lst ys) (fun nw' => ∃ nw'', nw' = (K, oK) :: nw'' ∧ OffAll [K] nw'' ∧ S (i + 1) (ys ++ [yv]) nw'') s') E' { s₁ with heap := h, toks := tk }) ∧
      (∀ ys nw, S its.size ys nw → FinC h₀ L m { s₁ with heap := g } Q ys nw)
theorem ListComp_C {Q : Value → Shared → Prop} (_F₀ : Fr h₀ L s.heap m)
    (hclos : closureFor scope env = pure cl) (hcf : ∀ n, cellsFrom n scope.names cl = (x, n) :: cl) (hpc : ∀ H, pushCells H scope.names = H.push (cellO none)) (hkind : scope.kind = .function)
    (hnames : ∀ z ∈ scope.names, z.2 = .local → scope.names.lookup z.1 = some .local) (hx : (relabel scope env).names.lookup x = some .cell)
    (h : wpAny (model prog w) A (eval iter env) (SrcC prog w A h₀ L m env elt x scope cl Q) E s)
    (hs : ∀ v, foldedSetIterable iter env v = pure v := by intro _; rfl) :
    wpAny (model prog w) A (eval (.ListComp elt [⟨.Name x px, iter, [], 0⟩] scope pos) env) Q E s := by
  rw [eval_ListComp]
  refine wpAny_comprehension_free (use := none) rfl hs hclos hkind hnames (wpAny_mono h (fun xv s₁ h₁ => ?_) fun _ _ e => e)
  refine shut fun hG => ?_
  obtain ⟨ax, its, S, news, rfl, hh, F, N, hsrc, hn2, hS, hb⟩ := h₁
  refine hG ?_
  clear hG
  have hl : s₁.heap.IsList ax its := (hsrc _ _ _ hS).list F.keep N
  have haxlt : ax < s₁.heap.objs.size := by obtain ⟨_, e, _⟩ := hl; exact Heap.lt_size e
  refine wpAny_pyIter_list hl ?_
  generalize ho : (_ : Obj) = o
  obtain ⟨step, fin⟩ := hb (s₁.heap.push o)
  subst ho
  exact compC_G (s := { s₁ with heap := s₁.heap.push _ }) S (Walks.list hh s₁.heap.objs.size ax (Nat.ne_of_lt haxlt) its) (fun i h st => by obtain ⟨o, e, _⟩ := st.1; exact ⟨o, e⟩) LCg.list_st hsrc hn2 hcf hpc hkind hx ⟨⟨_, Heap.get?_push_size _ rfl, rfl, rfl⟩, hl.push _⟩
    (fun b hb => by
      show b < (s₁.heap.push _).objs.size
      rw [Heap.size_push]
      rcases List.mem_cons.mp hb with rfl | hb
      · exact Nat.lt_succ_self _
      · rw [List.mem_singleton.mp hb]; exact Nat.lt_succ_of_lt haxlt)
    (F.push _) (N.grown fun _ _ e => Heap.get?_push_of_some _ e) (Nat.ne_of_lt F.ns.lt) (next_is_new F)
    (fun p hp hm => absurd (Heap.lt_size (N p hp).1) ((List.mem_singleton.mp hm) ▸ Nat.lt_irrefl _)) hS (fun i v oI oC C oK K D ys nw h tk E' a b c d e f g k => step i v _ oI oC C oK K D ys nw h tk E' a b c d e f g k) fin
end
end Mine

end
section
open PySem PySem.W PySem.Spec PySem.Calls PyProof.Rows
namespace Mine
theorem tup_sub {prog : Program} {w : World} {A : Around} {E : Value → Shared → Prop} {s : Shared} {h₀ : Heap} {L T : Addr} {news : List (Addr × Obj)} {us : List Value} {r : List Int} {k : Int} {u : Tok} {value slice : PySem.Expr} {Q : Value → Shared → Prop} (N : News h₀ L s.heap news) (hm : (T, tupO us.toArray) ∈ news) (hi : IntsAre us r) (h0 : 0 ≤ k) (h1 : k < r.length) (hfit : k < 2 ^ 63) (h : ∀ t, Q (.int (r.getD k.toNat 0) t) s)
    (hs : subscripted slice false (.ref T) (.int k u) = operate [.ref T, .int k u] (getItem (.ref T) (.int k u)) := by with_unfolding_all rfl) :
    wpAny (model prog w) A (subscriptTail value slice (.ref T) (.int k u)) Q E s := by
  have hl := hi.length
  have hlt : k.toNat < us.length := by omega
  obtain ⟨t, e⟩ := ints_some hi (List.getElem?_eq_getElem hlt)
  have ht : IsTup s.heap T us.toArray := ⟨_, (N _ hm).1, rfl, 0, rfl⟩
  exact tail_any ht.typeIs slot_tuple_getitem.lookup (getItem_tuple ht (by omega) hfit (seqIndex_of h0 (by simpa using (by omega : k < us.length))) (x := .int (r.getD k.toNat 0) t) (by simp [List.getElem?_eq_getElem hlt, e]) (h t)) hs
theorem dot_take (ns r : List Int) (i : Nat) : ((List.range (i + 1)).map fun k => ns.getD k 0 * r.getD k 0) = ((List.range i).map fun k => ns.getD k 0 * r.getD k 0) ++ [ns.getD i 0 * r.getD i 0] := by
  rw [List.range_succ, List.map_append]; rfl
local macro_rules | `(tactic| walk_at "call ref") => `(tactic| k_extra "my call")
local macro_rules | `(tactic| walk_at "eval ListComp") => `(tactic| k_extra "my comp")
local macro_rules | `(tactic| walk_at "subscriptTail") => `(tactic| k_extra "my item")
local macro_rules | `(tactic| walk_at "binaryOp Mult int int") => `(tactic| k_extra "my mul")
local macro_rules | `(tactic| walk_at "call builtin:len") => `(tactic| k_extra "my len")
local macro_rules | `(tactic| walk_at "call builtin:sum") => `(tactic| k_extra "my sum")
local macro_rules | `(tactic| walk_at "call builtin:min") => `(tactic| k_extra "my min")
theorem lawZ (w : World) {p : Program} {loose : List Str} {mean : ExcName → Option Value} {mg mb : Str → Option Value} {dp un : Nat} {gd : Option (List Code)} {a : Addr} {ccd : Value} {outer : List Env}
    {A₀ : Around} {base h₀ : Heap} {L : Addr} {m : Str → Option Value} {s : Shared} {c : Int} {tc : Tok}
    (B : Below A₀ base outer h₀) (F : Fr h₀ L s.heap (fun z => if z = Str.ofString "cost" then some (.int c tc) else m z)) (X : (hd1.heap_39 w.params).In h₀) (T : Top p loose mean mg mb h₀) {body : List Stmt} {cs : Scope} (hw : bodyOf (hd1.heap_39 w.params) 68 = some (body, cs))
    {W : Addr} {oWo oDe oDp oWt : Obj} {ta tb : Array Value} {vsW : List Value} {nW : Nat} {ns : List Int} (h1 : 1 ≤ ns.length) (h5 : ns.length ≤ 5)
    (N : News h₀ L s.heap [(W, listOf vsW.toArray nW), (L + 4, oWo), (L + 3, oDe), (L + 2, oDp), (L + 1, oWt), (34, tabObj ta), (41, tabObj tb)])
    (iW : IntsAre vsW ns) (dWt : oWt.data = .cell (some (.ref W)))
    (hb : ns.length ≤ 4 → (∀ r ∈ fillP ns.length (max 1 (ns.length - 1)), c ≤ dotP ns r) ∧ ∃ r ∈ fillP ns.length (max 1 (ns.length - 1)), c = dotP ns r)
    (hd : dp + 300 < recursionLimit) (hu : un + 4000 < cLine) :
    wpAny (model PySem.Challenge.rw_ia0004_01.row.prog w) (ktrTop dp un gd (Str.ofString "law") cs L a ccd (cellsFrom (L + 1) cs.names []) outer) (execs (body.drop 10) (envX (Str.ofString "law") cs L a ccd (cellsFrom (L + 1) cs.names [])))
      (LawEnd h₀ L [(45, 41), (38, 34)] s) (fun _ _ => False) s := by
  cases hw
  have hlW : vsW.length = ns.length := iW.length
  have h5' : ns.length ≤ 5 := h5
  revert X
  k_fill
  intro X
  k_with_none
  w_top off
  show wpAny _ _ _ _ _ { s with heap := s.heap, toks := s.toks }
  dsimp only [List.drop]
  k_fold
  k_with "my len" => (k_dflt (refine' len_is (k := ns.length) ?lN ?lm ?lk ?lz ?_; (case lN => k_asm); (case lm => k_mem); (case lk => (simp [hlW])); (case lz => omega)))
  k_with "my comp" => (k_dflt (refine ListComp_C (by k_asm) (by with_unfolding_all rfl) (fun _ => rfl) (fun _ => rfl) (by rfl) (by decide) (by rfl) ?_))
  k_with "my call" => (refine' lawFill w (many := ns.length) (deep := max 1 (ns.length - 1)) ?B ?F ?X ?T ?hk ?xm ?xd h1 ?m4 ?d3 ?hd ?hu ?_; (case B => k_asm); (case F => k_asm); (case X => k_asm); (case T => k_asm); (case hk => exact rfl); (case hd => ktr_room); (case hu => ktr_units); (case xm => first | rfl | omega); (case xd => exact clamp_one _ h1); (case m4 => omega); (case d3 => omega); (intro r9 h9 tk9 e9 p9; (try dsimp only at e9 p9); (obtain ⟨R9, vs9, n9, tl9, rfl, gR9, zR9, ht9, hT9⟩ := p9); (refine' after_tups ?aF ?aN e9 zR9 gR9 ht9 ?_; (case aF => k_asm); (case aN => k_asm); intro F9 N9 lR9 lt9); (have lR90 := lR9); (try k_lt lR9); (try dsimp only); (try k_sweep); (try k_fold)))
  repeat' (first | ((fail_if_success (with_reducible show SrcC _ _ _ _ _ _ _ _ _ _ _ _ _ _)); first | (k_unfold; (try dsimp only)) | walk1 | (dsimp only; walk1)))
  · (rename Fr _ _ _ _ => F1)
    (rename News _ _ _ _ => N1)
    have h4 : (4 : Int) < (ns.length : Int) := by assumption
    rw [decide_eq_true h4]
    exact ⟨rfl, _, _, _, rfl, F1, GrownAt.of N1 (by k_mem), GrownAt.of N1 (by k_mem), trivial⟩
  have hn4 : ns.length ≤ 4 := by omega
  obtain ⟨hb1, hb2⟩ := hb hn4
  clear hb
  have hvs9 : vs9.length = (fillP ns.length (max 1 (ns.length - 1))).length := hT9.length
  have hfill : (fillP ns.length (max 1 (ns.length - 1))).length ≤ 81 := by
    unfold fillP
    split
    · decide
    · exact Nat.le_trans (List.length_filter_le _ _) (rowsP_le hn4 (by omega))
  have hrlen : ∀ r ∈ fillP ns.length (max 1 (ns.length - 1)), r.length = ns.length := by
    intro r hr
    unfold fillP at hr
    split at hr
    · rename_i e1
      rw [List.mem_singleton.mp hr, e1]; rfl
    · exact ((mem_rowsP _ _ r).mp (List.mem_filter.mp hr).1).1
  have hrb : ∀ r ∈ fillP ns.length (max 1 (ns.length - 1)), ∀ k : Nat, 0 ≤ r.getD k 0 ∧ r.getD k 0 ≤ 3 := by
    intro r hr k
    have hd : ∀ d ∈ r, 0 ≤ d ∧ d ≤ 3 := by
      unfold fillP at hr
      split at hr
      · rw [List.mem_singleton.mp hr]; intro d hd; rw [List.mem_singleton.mp hd]; decide
      · intro d hd
        have := ((mem_rowsP _ _ r).mp (List.mem_filter.mp hr).1).2 d hd
        omega
    by_cases hk : k < r.length
    · rw [List.getD_eq_getElem?_getD, List.getElem?_eq_getElem hk]; exact hd _ (List.getElem_mem hk)
    · rw [List.getD_eq_getElem?_getD, List.getElem?_eq_none (by omega)]; decide
  generalize hrows : fillP ns.length (max 1 (ns.length - 1)) = rows at *
  clear gR9 zR9 ht9 e9
  refine ⟨R9, vs9.toArray, fun i ys nw => nw = (R9, listOf vs9.toArray n9) :: (W, listOf vsW.toArray nW) :: (L + 4, oWo) :: (L + 3, oDe) :: (L + 2, oDp) :: (L + 1, oWt) :: (34, tabObj ta) :: (41, tabObj tb) :: tl9 ∧ IntsAre ys ((rows.take i).map (dotP ns)), _, rfl, rfl, F9, N9, ?src, ?sz, ⟨rfl, .nil⟩, fun g => ⟨?step, ?fin⟩⟩
  case src => rintro i ys nw ⟨rfl, _⟩; exact .inr ⟨_, .head _, rfl, n9, rfl⟩
  case sz => simp; omega
  case step =>
    rintro i v I oI oC C oK K D ys nw h5 tk5 E5 hi hv dK F5 N5 off5 ⟨oID, oDC, oCK⟩ ⟨rfl, iY⟩
    refine shut fun hG => ?_
    obtain ⟨T9, us, r, rfl, hr, hmem, iU⟩ := hT9.get (k := i) (v := v) (by simpa using hv)
    refine hG ?_
    clear hG
    have hrl := hrlen r (List.mem_of_getElem? hr)
    have hrk := hrb r (List.mem_of_getElem? hr)
    have N6 : News h₀ L h5 ((T9, tupO us.toArray) :: (I, oI) :: (C, oC) :: (D, LCg.lst ys) :: (K, oK) :: (R9, listOf vs9.toArray n9) :: (W, listOf vsW.toArray nW) :: (L + 4, oWo) :: (L + 3, oDe) :: (L + 2, oDp) :: (L + 1, oWt) :: (34, tabObj ta) :: (41, tabObj tb) :: tl9) := fun p hp => by
      rcases List.mem_cons.mp hp with rfl | hp
      · exact N5 _ (by repeat (first | exact hmem | apply mem_tail1))
      · exact N5 p hp
    clear N5 F9 N9
    k_with "my comp" => (k_dflt (refine ListComp_1 (by k_asm) (by with_unfolding_all rfl) (by decide) (by rfl) (by decide) (by rfl) ?_))
    repeat' (first | ((fail_if_success (with_reducible show Src1 _ _ _ _ _ _ _ _ _ _ _ _ _ _)); first | (k_unfold; (try dsimp only)) | walk1 | (dsimp only; walk1)))
    (rename Fr _ _ _ _ => F1)
    (rename News _ _ _ _ => N1)
    (rename IsRange _ _ _ _ _ _ _ _ => hr1)
    refine Src1.range (n := ns.length) (fun i2 ys2 nw2 => nw2 = (T9, tupO us.toArray) :: (I, oI) :: (C, oC) :: (D, LCg.lst ys) :: (K, oK) :: (R9, listOf vs9.toArray n9) :: (W, listOf vsW.toArray nW) :: (L + 4, oWo) :: (L + 3, oDe) :: (L + 2, oDp) :: (L + 1, oWt) :: (34, tabObj ta) :: (41, tabObj tb) :: tl9 ∧ IntsAre ys2 ((List.range i2).map fun k => ns.getD k 0 * r.getD k 0)) rfl F1 N1 hr1 (range_small h5') range_size (by omega) ⟨rfl, .nil⟩ fun g => ⟨?step2, ?fin2⟩
    case step2 =>
      intro i2 v2 J oJ C2 oC2 D2 ys2 m2 nw2 h6 tk6 E6 hi2 hq1 hC2 hx2 F6 N6 off6 hq2 hq3
      refine shut fun hG => ?_
      obtain ⟨t2, rfl⟩ := hq1
      obtain ⟨nJC, nJD, nCD⟩ := hq2
      obtain ⟨rfl, iY2⟩ := hq3
      refine hG ?_
      clear hG
      rw [Int.zero_add] at hx2
      clear F1 N1 hr1
      k_with "my item" => first
        | (k_dflt (refine' ksa_sub ?N ?m iW ?h0 ?h1 ?hf ?_ ?hs; (case N => k_asm); (case m => k_mem); (case h0 => omega); (case h1 => omega); (case hf => omega); (case hs => with_unfolding_all rfl)); intro t7)
        | (k_dflt (refine' tup_sub ?N ?m iU ?h0 ?h1 ?hf ?_ ?hs; (case N => k_asm); (case m => k_mem); (case h0 => omega); (case h1 => omega); (case hf => omega); (case hs => with_unfolding_all rfl)); intro t7)
      k_with "my mul" => (k_dflt (refine mul_int (hm := IntMulOk.of_right (intBits_le_64 (by have := hrk i2; simp only [Int.toNat_natCast]; omega) (by have := hrk i2; simp only [Int.toNat_natCast]; omega))) ?_))
      k_steps
      (rename Fr _ _ _ _ => F8)
      (rename News _ _ _ _ => N8)
      refine ⟨_, _, _, rfl, F8, N8, off6, rfl, ?_⟩
      rw [dot_take]
      exact ints_snoc' iY2
    case fin2 => 
      rintro ys2 nw2 ⟨rfl, iY2⟩
      unfold FinC
      intro D2 h7 tk7 F7 N7 off7 hLD2
      change IntsAre ys2 ((List.range ns.length).map fun k => ns.getD k 0 * r.getD k 0) at iY2
      clear F1 N1 hr1
      (try dsimp only)
      k_with "my sum" => ((k_dflt (refine' sumK rfl ?sF ?sN ?sl iY2 ?_; (case sF => k_asm); (case sN => k_asm); (case sl => exact news_seq (by k_asm) (by k_mem)))); intro h4 tk4 t4 F4 N4; (try k_sweep))
      k_steps
      (rename Fr _ _ _ _ => F8)
      (rename News _ _ _ _ => N8)
      have hID : @LT.lt Nat _ I K := Nat.lt_trans oID (Nat.lt_trans oDC oCK)
      refine ⟨_, _, (K, oK) :: (R9, listOf vs9.toArray n9) :: (W, listOf vsW.toArray nW) :: (L + 4, oWo) :: (L + 3, oDe) :: (L + 2, oDp) :: (L + 1, oWt) :: (34, tabObj ta) :: (41, tabObj tb) :: tl9, rfl, F8, news_sub N8 (fun q hq => mem_tail1 (mem_tail1 hq)), ?_, _, rfl, ?_, rfl, ?_⟩
      · intro q hq hm
        rcases List.mem_cons.mp hq with rfl | hq
        · simp only [List.mem_cons, List.not_mem_nil, or_false] at hm
          rcases hm with e | e | e
          · exact absurd hID (e ▸ Nat.lt_irrefl _)
          · exact absurd oCK (e ▸ Nat.lt_irrefl _)
          · exact absurd (Nat.lt_trans oDC oCK) (e ▸ Nat.lt_irrefl _)
        · refine off5 q hq ?_
          simp only [List.mem_cons, List.not_mem_nil, or_false] at hm ⊢
          rcases hm with e | e | e
          · exact .inl e
          · exact .inr (.inl e)
          · exact .inr (.inr (.inl e))
      · intro q hq hm
        exact off5 q hq (by rw [List.mem_singleton.mp hm]; simp)
      · rw [List.take_add_one, hr, List.map_append]
        exact ints_snoc' iY
  case fin =>
    rintro ys nw ⟨rfl, iY⟩
    unfold FinC
    intro D h7 tk7 F7 N7 off7 hLD
    rw [show vs9.toArray.size = rows.length by simp [hvs9], List.take_length] at iY
    clear F9 N9
    (try dsimp only)
    k_with "my min" => ((k_dflt (refine' kso_min ?sF ?sN ?sl iY ?sz rfl ?_; (case sF => k_asm); (case sN => k_asm); (case sl => exact news_seq (by k_asm) (by k_mem)); (case sz => (obtain ⟨r0, hr0, _⟩ := hb2; rw [List.length_map]; exact List.length_pos_of_mem hr0)))); intro h4 M4 t4 tk4 F4 N4 hM1 hM2; (try k_sweep))
    k_steps
    (rename Fr _ _ _ _ => F8)
    (rename News _ _ _ _ => N8)
    have hcM : c = M4 := by
      obtain ⟨r0, hr0, e0⟩ := hb2
      obtain ⟨r1, hr1, e1⟩ := List.mem_map.mp hM1
      have h1 := hb1 r1 hr1
      have h2 := hM2 _ (List.mem_map.mpr ⟨r0, hr0, rfl⟩)
      omega
    rw [hcM, beq_self_eq_true]
    exact ⟨rfl, _, _, _, rfl, F8, GrownAt.of N8 (by k_mem), GrownAt.of N8 (by k_mem), trivial⟩
end Mine

end
section
open PySem PySem.W PySem.Spec PySem.Calls PyProof.Rows
namespace Mine
theorem lk_list_keys : typeLookup (.type "list") (Str.ofString "keys") = pure none := am_miss_of_fast (by kernel_rfl)
theorem getAttr?_miss_list {prog : Program} {w : World} {A : Around} {E : Value → Shared → Prop} {s : Shared} {a : Addr} {xs : Array Value} {k : Nat} {sl : Array (Option Value)} {name : Str} {Q : Option Value → Shared → Prop}
    (hx : s.heap.get? a = some { cls := .type "list", dict := none, data := .seq xs k, slots := sl }) (hmiss : typeLookup (.type "list") name = pure none) (hname : (["__module__", "__name__", "__qualname__", "__doc__", "__annotations__"] : List Str).contains name = false) (hA : A.handled = none)
    (h : ∀ h' tk, (∀ b o, s.heap.get? b = some o → h'.get? b = some o) → Q none { s with heap := h', toks := tk }) (hsz : name.length + 100 ≤ sizeLine := by size_fits) :
    wpAny (model prog w) A (getAttr? (.ref a) name) Q E s := by
  obtain ⟨hp, g, d, tk, os⟩ := s
  have hT : ∀ tk', (⟨hp, g, d, tk', os⟩ : Shared).TypeIs (.ref a) "list" := fun _ => ⟨_, hx, rfl⟩
  have f1 := sub_AttributeError
  have f3 := F.slot_list_getattribute.lookup
  have f4 := F.slot_list_getattribute.bind (.ref a)
  have f5 := am_list_getattr_none
  unfold getAttr? getAttrBy? getAttrBy
  repeat (any_goals (first | assumption | exact hT _ | ((with_reducible show wpAny _ _ (call (Value.builtin "list.__getattribute__") _ _) _ _ _); refine call_meets F.slot_list_getattribute (hT _) am_entry_list_getattribute (F.args_list_getattribute_2 _ _) (meets_getattribute_miss_list a xs k sl name _ hmiss hname hsz) ⟨hx, hA, fun h' tk' e hx' => ?_⟩) | wp_step))
  obtain ⟨t', u', he⟩ := hx'.there
  show wpAny _ _ (getattributeRaised _ _ _ _ _ _ _) _ _ _
  unfold getattributeRaised
  repeat (any_goals (first | assumption | wp_step))
  exact h _ _ hx'.keeps
theorem plain_dict_loop : plainId "dict.update.loop" = true := by decide +kernel
theorem entry_dict_loop : entryFor table "dict.update.loop" = some Builtin.«dict.update.loop» := entryFor_of_tree (by kernel_rfl)
theorem pairItems_tuple {prog : Program} {w : World} {A : Around} {E : Value → Shared → Prop} {s : Shared} {T : Addr} {o : Obj} {xs : Array Value} {n : Nat} {Q : List Value → Shared → Prop} (ho : s.heap.get? T = some o) (hc : o.cls = .type "tuple") (hd : o.data = .seq xs n) (h : Q xs.toList s) :
    wpAny (model prog w) A (Builtin.Dict.pairItems (.ref T)) Q E s := by
  unfold Builtin.Dict.pairItems
  refine wpAny_bind (wpAny_typeOf (show s.TypeIs (.ref T) "tuple" from ⟨o, ho, hc⟩) ?_)
  rw [if_pos (by decide)]
  exact wpAny_bind (wpAny_seqItems ho hd (wpAny_pure h))
/-- pairs, laid as tuples -/
noncomputable def PairsIn (h : Heap) (items : Array Value) (ws : List (Str × Value)) : Prop :=
  ∀ (i : Nat) (k : Str) (v : Value), ws[i]? = some (k, v) → ∃ (T : Addr) (o : Obj) (t : Tok) (n : Nat), items[i]? = some (Value.ref T) ∧ h.get? T = some o ∧ o.cls = .type "tuple" ∧ o.data = .seq #[.str k t, v] n
section
variable {prog : Program} {w : World} {A : Around} {E : Value → Shared → Prop} {R : Result → Shared → Prop} {s : Shared}
theorem code_dict_loop (hh : A.handled = none) {d I l : Addr} {items : Array Value} {ws : List (Str × Value)} (hne : l ≠ I) (hdI : d ≠ I) (hdl : d ≠ l) (hlen : ws.length = items.size) (hz : items.size ≤ sizeLine) :
    ∀ (k i : Nat) (j : Int) (t : Tok) (s : Shared), items.size - i = k → i ≤ items.size → s.heap.IsListIter I l i → s.heap.IsList l items → PairsIn s.heap items ws → s.heap.DictOf (PySem.strKind prog w) d (merged [] (ws.take i)) →
      (∀ h' tk, h'.DictOf (PySem.strKind prog w) d (merged [] ws) → (∀ b o, b ≠ I → b ≠ d → s.heap.get? b = some o → h'.get? b = some o) → R (.ok (.ret .none)) { s with heap := h', toks := tk }) →
      codeAny (model prog w) A (.builtin "dict.update.loop" ⟨[.ref d, .ref I, .int j t, .none], []⟩) R s := by
  have W := Walks.list (prog := prog) (w := w) (A := A.in1) (by simpa using hh) I l hne items
  intro k
  induction k with
  | zero =>
    intro i j t s hk hi hit hl hp hD hR
    have hin : i = items.size := by omega
    subst hin
    refine codeAny_builtin entry_dict_loop ?_
    rw [Around.under_plainId plain_dict_loop _]
    show wpAny _ A.in1 (pyNext (.ref I) >>= _) _ _ s
    refine wpAny_bind (W.done s _ _ ⟨hit, hl⟩ fun h' tk hk' => ?_)
    show wpAny _ A.in1 (ret Value.none) _ _ _
    rw [← hlen, List.take_length] at hD
    refine wpAny_pure (hR h' tk (hD.at (fun o e => hk' d o (by simpa using hdI) e)) fun b o b1 b2 e => hk' b o (by simpa using b1) e)
  | succ k ih =>
    intro i j t s hk hi hit hl hp hD hR
    have hlt : i < items.size := by omega
    obtain ⟨⟨key, val⟩, hkv⟩ : ∃ kv, ws[i]? = some kv := ⟨ws[i]'(by omega), List.getElem?_eq_getElem _⟩
    refine codeAny_builtin entry_dict_loop ?_
    rw [Around.under_plainId plain_dict_loop _]
    show wpAny _ A.in1 (pyNext (.ref I) >>= _) _ _ s
    refine wpAny_bind (W.item i s _ _ hlt ⟨hit, hl⟩ fun v h' tk hv st' hk' => ?_)
    obtain ⟨T, o, tt, n, e1, e2, e3, e4⟩ := hp i key val hkv
    obtain rfl : v = .ref T := by rw [hv] at e1; exact Option.some.inj e1
    have hTI : T ≠ I := fun e => by
      obtain ⟨oi, ei, ci, _⟩ := hit
      rw [e, ei] at e2
      cases e2
      rw [e3] at ci; exact absurd ci (by decide)
    have e2' := hk' T o (by simpa using hTI) e2
    have hD' : h'.DictOf (PySem.strKind prog w) d (merged [] (ws.take i)) := hD.at (fun o e => hk' d o (by simpa using hdI) e)
    have hTd : T ≠ d := fun e => by
      obtain ⟨od, ed, cd⟩ := hD.typeIs (s := s)
      rw [e, ed] at e2
      cases e2
      rw [e3] at cd; exact absurd cd (by decide)
    show wpAny _ A.in1 (holding [Value.ref T] _ >>= _) _ _ _
    refine wpAny_bind (wpAny_holding (wpAny_bind (wpAny_tryCatch (pairItems_tuple e2' e3 e4 ?_))))
    show wpAny _ A.in1 (holding [Value.str key tt, val] (dictSet d (.str key tt) val)) _ _ _
    have hmx : (merged [] (ws.take i)).length ≤ sizeLine := by
      have e1 := merged_length_le [] (ws.take i)
      have e2 : (ws.take i).length ≤ ws.length := by rw [List.length_take]; omega
      simp only [List.length_nil, Nat.zero_add] at e1
      omega
    refine wpAny_holding (wpAny_dictSet_pairs (hsz := hmx) (knd := PySem.strKind prog w) (k := key) (strKind_is _ _ _ _) hD' fun h'' hD'' hs'' => ?_)
    refine wpAny_pure ⟨plainId_quiet plain_dict_loop _, ih (i + 1) _ _ _ (by omega) hlt ?_ ?_ ?_ ?_ fun h3 tk3 hD3 hk3 => hR h3 tk3 hD3 fun b o b1 b2 e => hk3 b o b1 b2 ((hs''.2 b b2).trans (hk' b o (by simpa using b1) e))⟩
    · exact st'.1.at fun o e => (hs''.2 I (Ne.symm hdI)).trans e
    · exact st'.2.at fun o e => (hs''.2 l (Ne.symm hdl)).trans e
    · intro i' k' v' e'
      obtain ⟨T', o', t', n', f1, f2, f3, f4⟩ := hp i' k' v' e'
      have hTI' : T' ≠ I := fun e => by
        obtain ⟨oi, ei, ci, _⟩ := hit
        rw [e, ei] at f2
        cases f2
        rw [f3] at ci; exact absurd ci (by decide)
      have hTd' : T' ≠ d := fun e => by
        obtain ⟨od, ed, cd⟩ := hD.typeIs (s := s)
        rw [e, ed] at f2
        cases f2
        rw [f3] at cd; exact absurd cd (by decide)
      exact ⟨T', o', t', n', f1, (hs''.2 T' hTd').trans (hk' T' o' (by simpa using hTI') f2), f3, f4⟩
    · rw [merged_take_succ _ _ _ _ hkv]; exact hD''
theorem call_dict_pairs {l : Addr} {items : Array Value} {nl : Nat} {sl : Array (Option Value)} {ws : List (Str × Value)} {Q : Value → Shared → Prop} (hh : A.handled = none) (hl : s.heap.get? l = some { cls := .type "list", dict := none, data := .seq items nl, slots := sl }) (hp : PairsIn s.heap items ws) (hlen : ws.length = items.size) (hz : items.size ≤ sizeLine)
    (h : ∀ h' tk, (∀ b o, s.heap.get? b = some o → h'.get? b = some o) → h'.DictOf (PySem.strKind prog w) s.heap.objs.size (merged [] ws) → Q (.ref s.heap.objs.size) { s with heap := h', toks := tk }) :
    wpAny (model prog w) A (call (.type "dict") [.ref l]) Q E s := by
  refine callType_codes (Q₁ := fun obj s₁ => obj = .ref s.heap.objs.size ∧ s₁ = { s with heap := s.heap.push { cls := .type "dict", data := .dict #[] } }) F.kt_called_dict (F.kt_typeCall_dict_1 _) F.entry_dict_init (kt_code_dict_new _ ⟨rfl, rfl⟩) ?_
  rintro obj s₁ ⟨rfl, rfl⟩
  have hnew : (s.heap.push { cls := .type "dict", data := .dict #[] }).DictOf (PySem.strKind prog w) s.heap.objs.size [] := Heap.DictOf.new s.heap
  have hl1 : (s.heap.push { cls := .type "dict", data := .dict #[] }).get? l = some { cls := .type "list", dict := none, data := .seq items nl, slots := sl } := Heap.get?_push_of_some _ hl
  have hlt := Heap.lt_size hl
  generalize hd : s.heap.objs.size = d at *
  refine ⟨hnew.typeIs, F.args_dict_init_2 _ _, ?_⟩
  unfold Builtin.«dict.__init__»
  refine wpAny_bind ?_
  unfold Builtin.Dict.selfAndRest
  refine wpAny_bind (wpAny_notOrdered_dict hnew.typeIs ?_)
  show wpAny _ _ (pure (d, [Value.ref l])) _ _ _
  refine wpAny_pure ?_
  show wpAny _ _ (Builtin.Dict.updateFrom "dict.__init__" d (.ref l) [] .none) _ _ _
  unfold Builtin.Dict.updateFrom
  refine wpAny_bind (wpAny_typeOf (T := "list") ⟨_, hl1, rfl⟩ ?_)
  rw [if_pos (by decide)]
  refine wpAny_bind (getAttr?_miss_list hl1 lk_list_keys (by decide +kernel) (by simpa using hh) (fun h2 tk2 hk2 => ?_) (by decide +kernel))
  rw [if_pos (by rfl)]
  refine wpAny_bind (wpAny_rule ?_)
  have hl2 : h2.IsList l items := ⟨_, hk2 _ _ hl1, rfl, nl, rfl⟩
  refine wpAny_bind (wpAny_pyIter_list hl2 ?_)
  have hltd : d < h2.objs.size := by
    obtain ⟨od, ed, _⟩ := hnew.typeIs (s := { s with heap := s.heap.push { cls := .type "dict", data := .dict #[] } })
    exact Heap.lt_size (hk2 _ _ ed)
  refine wpAny_pure ⟨plainId_quiet plain_dict_loop _, code_dict_loop (by simpa using hh) (Nat.ne_of_lt (Nat.lt_trans hlt hltd)) (Nat.ne_of_lt hltd) (Nat.ne_of_gt hlt) hlen hz _ 0 _ _ _ rfl (Nat.zero_le _) ⟨_, Heap.get?_push_size _ rfl, rfl, rfl⟩ (hl2.push _) ?_ ?_ ?_⟩
  · intro i k v e
    obtain ⟨T, o, t, n, e1, e2, e3, e4⟩ := hp i k v e
    exact ⟨T, o, t, n, e1, Heap.get?_push_of_some _ (hk2 _ _ (Heap.get?_push_of_some _ e2)), e3, e4⟩
  · rw [List.take_zero]
    exact (hnew.at fun o e => hk2 _ _ e).push _
  · intro h' tk hD hk'
    refine ⟨rfl, h h' tk (fun b o e => ?_) hD⟩
    have hb := Heap.lt_size e
    refine hk' b o (fun q => ?_) (fun q => ?_) (Heap.get?_push_of_some _ (hk2 _ _ (Heap.get?_push_of_some _ e)))
    · have : d < h2.objs.size := hltd
      rw [hd] at hb
      rw [q] at hb
      exact absurd (Nat.lt_trans hb this) (Nat.lt_irrefl _)
    · rw [hd] at hb; rw [q] at hb; exact absurd hb (Nat.lt_irrefl _)
end
end Mine

end
section
open PySem PySem.W PySem.Spec PySem.Calls PyProof.Rows
namespace Mine
noncomputable def xW (num la d : Int) : Int := num * 2 ^ (d - la).toNat
noncomputable def figOf (x : Int) (d : Nat) : List Int := (bitsOf (Builtin.Int.intBits x) x ++ List.replicate d 0).take d
noncomputable def txtOf (fig : List Int) : Str := Txt.join (Str.ofString "") (fig.reverse.map fun d => Str.ofString (toString d))
noncomputable def stW (g : List Int) : Nat → Int × Int
  | 0 => (0, 0)
  | i + 1 => (xW (stW g i).1 (stW g i).2 (g.getD i 0) + 1, g.getD i 0)
noncomputable def txtW (g : List Int) (i : Nat) : Str := txtOf (figOf (xW (stW g i).1 (stW g i).2 (g.getD i 0)) (g.getD i 0).toNat)
noncomputable def turnB (num la d : Int) : Bool := decide (0 ≤ d ∧ d ≤ 4 ∧ 0 ≤ la ∧ la ≤ d ∧ 0 ≤ xW num la d ∧ xW num la d < 64 ∧ (∀ f ∈ figOf (xW num la d) d.toNat, 0 ≤ f ∧ f ≤ 1) ∧ (figOf (xW num la d) d.toNat).length = d.toNat ∧ dval (figOf (xW num la d) d.toNat) = xW num la d)
noncomputable def sortedGs : List (List Int) := [[0], [1, 1], [1, 2, 2], [1, 2, 3, 3], [2, 2, 2, 2], [1, 2, 3, 4, 4], [2, 2, 2, 3, 3], [1, 3, 3, 3, 3]]
theorem sorted_gs : ∀ n : Nat, n < 6 → ∀ gs ∈ gsOf n, gs.reverse.Pairwise (· ≤ ·) ∧ gs.reverse ∈ sortedGs := by decide +kernel
theorem turn_all : ∀ g ∈ sortedGs, ∀ i : Nat, i < g.length → turnB (stW g i).1 (stW g i).2 (g.getD i 0) = true := by decide +kernel
noncomputable def wordsW (g : List Int) : List Str := (List.range g.length).map (txtW g)
theorem words_nodup : ∀ g ∈ sortedGs, (wordsW g).Nodup := by decide +kernel
theorem words_free : ∀ g ∈ sortedGs, ∀ one ∈ wordsW g, ∀ other ∈ wordsW g, one ≠ other → Txt.slice other none (some (one.length : Int)) ≠ one := by decide +kernel
theorem words_short : ∀ g ∈ sortedGs, ∀ one ∈ wordsW g, one.length ≤ 4 := by decide +kernel
theorem gs_small : ∀ g ∈ sortedGs, 1 ≤ g.length ∧ g.length ≤ 5 := by decide +kernel
theorem sorted_is {ds ns' gs : List Int} {n : Nat} (hn : n < 6) (hg : gs ∈ gsOf n) (hp : ds.Perm gs) (hp' : ns'.Perm ds) (hs : ns'.Pairwise (· ≤ ·)) : ns' ∈ sortedGs := by
  obtain ⟨h1, h2⟩ := sorted_gs n hn gs hg
  have hperm : ns'.Perm gs.reverse := hp'.trans (hp.trans (List.reverse_perm gs).symm)
  rw [hperm.eq_of_pairwise (le := (· ≤ ·)) (fun a b _ _ h h' => Int.le_antisymm h h') hs h1]
  exact h2
end Mine

end
section
open PySem PySem.W PySem.Spec PySem.Calls PyProof.Rows
namespace Mine
noncomputable def DT (own : List (Addr × Obj)) (tb : Array Value) : Prop :=
  tb = #[] ∨ ∃ c9 oc vs t, tb = #[rawInt 47, rawInt 4, .ref c9] ∧ (c9, oc) ∈ own ∧ oc.data = .fields vs ∧ vs[1]? = some (.str d2iQual t)
structure WordPost (h₀ : Heap) (L : Addr) (s : Shared) (m : Str → Option Value) (Wd : Addr) (oWo : Obj) (vsW : List Value) (rest : List (Addr × Obj)) (x d : Int) (txt : Str) (fl : Flow) (s' : Shared) : Prop where
  nx : fl = .next
  ex : ∃ h' tk m' t nW' tn tl, s' = { s with heap := h', toks := tk } ∧ Fr h₀ L h' m' ∧ News h₀ L h' ((Wd, listOf (List.toArray (vsW ++ [Value.str txt t])) nW') :: (L + 4, oWo) :: rest) ∧ m' (Str.ofString "number") = some (.int (x + 1) tn) ∧ m' (Str.ofString "last") = some (.int d tl) ∧ ∀ z, z ≠ Str.ofString "number" → z ≠ Str.ofString "last" → z ≠ Str.ofString "figures" → z ≠ Str.ofString "depth" → m' z = m z
theorem bit_len {f : Int} (h : 0 ≤ f ∧ f ≤ 1) : (Str.ofString (toString f)).length = 1 := by
  rcases (show f = 0 ∨ f = 1 by omega) with rfl | rfl <;> decide +kernel
theorem fig_weight : ∀ (l : List Int), (∀ f ∈ l, 0 ≤ f ∧ f ≤ 1) → ((l.map fun d => Str.ofString (toString d)).map (·.length)).sum = l.length
  | [], _ => rfl
  | f :: r, h => by
    rw [List.map_cons, List.map_cons, List.sum_cons, bit_len (h f (.head _)), fig_weight r fun g hg => h g (.tail _ hg), List.length_cons]
    omega
theorem strs_snoc {ys : List Value} {l : List Str} (h : StrsAre ys l) (y : Str) (t : Tok) : StrsAre (ys ++ [.str y t]) (l ++ [y]) := by
  induction h with
  | nil => exact .cons _ _ .nil
  | cons a b _ ih => exact .cons a b ih
local macro_rules | `(tactic| walk_at "eval ListComp") => `(tactic| k_extra "my comp")
local macro_rules | `(tactic| walk_at "call type:str") => `(tactic| k_extra "my str")
local macro_rules | `(tactic| walk_at "call builtin:str.join") => `(tactic| k_extra "my join")
local macro_rules | `(tactic| k_all) => `(tactic| assumption)
theorem wordEnd (w : World) {p : Program} {loose : List Str} {mean : ExcName → Option Value} {mg mb : Str → Option Value} {dp un : Nat} {gd : Option (List Code)} {a : Addr} {ccd : Value} {outer : List Env}
    {A₀ : Around} {base h₀ : Heap} {L : Addr} {m : Str → Option Value} {s : Shared} {x d : Int} {tx td : Tok} {De Wd : Addr}
    (B : Below A₀ base outer h₀) (F : Fr h₀ L s.heap (fun z => if z = Str.ofString "depth" then some (.int d td) else if z = Str.ofString "number" then some (.int x tx) else if z = Str.ofString "figures" then some (.ref De) else m z)) (X : (hd1.heap_39 w.params).In h₀) (T : Top p loose mean mg mb h₀) {target iter : Expr} {body : List Stmt} {cs : Scope} (hw : forOf (hd1.heap_39 w.params) 68 = some (target, iter, body, cs))
    {oWo : Obj} {vsW wse : List Value} {nW nDe : Nat} {fig : List Int} {rest : List (Addr × Obj)} (hvW : vsW.length ≤ 10) (ie : IntsAre wse fig) (hf : fig.length ≤ 4) (hbit : ∀ f ∈ fig, 0 ≤ f ∧ f ≤ 1)
    (N : News h₀ L s.heap ((De, listOf wse.toArray nDe) :: (Wd, listOf vsW.toArray nW) :: (L + 4, oWo) :: rest)) (dW : oWo.data = .cell (some (.ref Wd)))
    (hoff : ∀ p ∈ rest, p.1 ≠ Wd) (o2 : @LT.lt Nat _ (L + 4) Wd) (o3 : @LT.lt Nat _ Wd De)
    (hd : dp + 100 < recursionLimit) (hu : un + 2000 < cLine) :
    wpAny (model PySem.Challenge.rw_ia0004_01.row.prog w) (ktrTop dp un gd (Str.ofString "law") cs L a ccd (cellsFrom (L + 1) cs.names []) outer) (execs (body.drop 3) (envX (Str.ofString "law") cs L a ccd (cellsFrom (L + 1) cs.names [])))
      (WordPost h₀ L s m Wd oWo vsW rest x d (txtOf fig)) (fun _ _ => False) s := by
  cases hw
  have hwl : wse.length = fig.length := ie.length
  revert X
  k_fill
  intro X
  k_with_none
  w_top off
  show wpAny _ _ _ _ _ { s with heap := s.heap, toks := s.toks }
  dsimp only [List.drop]
  k_fold
  k_with "my comp" => (k_dflt (refine ListComp_1 (by k_asm) (by with_unfolding_all rfl) (by decide) (by rfl) (by decide) (by rfl) ?_))
  repeat' (first | ((fail_if_success (with_reducible show Src1 _ _ _ _ _ _ _ _ _ _ _ _ _ _)); first | (k_unfold; (try dsimp only)) | walk1 | (dsimp only; walk1)))
  (rename Fr _ _ _ _ => F1)
  (rename News _ _ _ _ => N1)
  (rename (IntsAre _ fig.reverse) => i1)
  rename_i D1 ws1 _ l1 _
  have hws1 : ws1.length = fig.length := by rw [i1.length]; simp
  refine Src1.list (its := ws1.toArray) (fun i ys nw => nw = (D1, listOf ws1.toArray 0) :: (De, listOf wse.toArray nDe) :: (Wd, listOf vsW.toArray nW) :: (L + 4, oWo) :: rest ∧ StrsAre ys ((fig.reverse.take i).map fun d => Str.ofString (toString d))) rfl F1 N1 ?src ?sz ⟨rfl, .nil⟩ fun g => ⟨?step, ?fin⟩
  case src => rintro i ys nw ⟨rfl, _⟩; exact .inr ⟨_, .head _, rfl, 0, rfl⟩
  case sz => simp; omega
  case step =>
    rintro i v J oJ C oC D ys m₂ nw h5 tk5 E5 hi hv hC hx F5 N5 off5 ⟨nJC, nJD, nCD⟩ ⟨rfl, iY⟩
    obtain ⟨f, tf, hf', rfl⟩ := ints_at i1 (i := i) (v := v) (by simpa using hv)
    have hb := hbit f (List.mem_reverse.mp (List.mem_of_getElem? hf'))
    clear F1 N1
    k_with "my str" => (k_dflt (refine str_of_int_fit (N := 10) (by split <;> omega) (by decide) ?_); intro hlen5)
    k_steps
    (rename Fr _ _ _ _ => F6)
    (rename News _ _ _ _ => N6)
    refine ⟨_, _, _, rfl, F6, N6, off5, rfl, ?_⟩
    rw [List.take_add_one, hf', List.map_append]
    exact strs_snoc iY _ _
  case fin =>
    rintro ys nw ⟨rfl, iY⟩
    unfold FinC
    intro D h5 tk5 F5 N5 off5 hLD
    rw [show ws1.toArray.size = fig.reverse.length by simp [hws1], List.take_length] at iY
    have nDF : @Ne Nat D Wd := fun e => off5 (Wd, listOf vsW.toArray nW) (.tail _ (.tail _ (.head _))) (e ▸ .head _)
    have nD1 : @Ne Nat D1 Wd := by omega
    clear F1 N1
    (try dsimp only)
    k_with "my join" => (k_dflt (refine' join_listW ?jl ?ji (by decide +kernel) ?jw ?_; (case jl => exact news_seq (by k_asm) (by k_mem)); (case ji => exact iY); (case jw => (rw [fig_weight _ (fun f hf => hbit f (List.mem_reverse.mp hf))]; simp; omega))); intro t4 tk4; (try k_sweep))
    k_steps
    (show WordPost _ _ _ _ _ _ _ _ _ _ _ _ _)
    (rename Fr _ _ _ _ => F6)
    (rename News _ _ _ _ => N6)
    simp only [List.push_toArray] at N6
    obtain ⟨nn, N7⟩ : ∃ nn, News h₀ L _ ((Wd, listOf (List.toArray (vsW ++ [Value.str (txtOf fig) t4])) nn) :: (L + 4, oWo) :: rest) := ⟨_, news_sub N6 fun q hq => mem_tail1 (mem_tail1 (mem_tail1 (mem_tail1 hq)))⟩
    refine ⟨rfl, _, _, _, t4, nn, _, _, rfl, F6, N7, rfl, rfl, ?_⟩
    · intro z z1 z2 z3 z4
      simp only [if_neg z1, if_neg z2, if_neg z3, if_neg z4]
end Mine

end
section
open PySem PySem.W PySem.Spec PySem.Calls PyProof.Rows
namespace Mine
structure WordGo (h₀ : Heap) (L : Addr) (s : Shared) (m : Str → Option Value) (I Wd : Addr) (oI : Obj) (c8 : Addr) (oc8 oWo : Obj) (vsW : List Value) (own : List (Addr × Obj)) (x d : Int) (txt : Str) (fl : Flow) (s' : Shared) : Prop where
  nx : fl = .next
  ex : ∃ h' tk m' tb' more t nW' tn tl, s' = { s with heap := h', toks := tk } ∧ Fr h₀ L h' m' ∧ News h₀ L h' ((I, oI) :: (Wd, listOf (List.toArray (vsW ++ [Value.str txt t])) nW') :: (41, tabObj tb') :: (34, tabObj #[rawInt 32, rawInt 4, .ref c8]) :: (c8, oc8) :: (L + 4, oWo) :: (more ++ own)) ∧
    (∀ p ∈ more, @LT.lt Nat _ I p.1 ∧ @LT.lt Nat _ Wd p.1 ∧ @LT.lt Nat _ 41 p.1) ∧ DT (more ++ own) tb' ∧ m' (Str.ofString "number") = some (.int (x + 1) tn) ∧ m' (Str.ofString "last") = some (.int d tl) ∧
    ∀ z, z ≠ Str.ofString "number" → z ≠ Str.ofString "last" → z ≠ Str.ofString "figures" → z ≠ Str.ofString "depth" → m' z = m z
local macro_rules | `(tactic| walk_at "call ref") => `(tactic| k_extra "my call")
local macro_rules | `(tactic| walk_at "binaryOp Mult ref int") => `(tactic| k_extra "my mul")
local macro_rules | `(tactic| walk_at "binaryOp Mult int int") => `(tactic| k_extra "my times")
local macro_rules | `(tactic| walk_at "binaryOp Add ref ref") => `(tactic| k_extra "my add")
local macro_rules | `(tactic| walk_at "binaryOp Pow int int") => `(tactic| k_extra "my pow")
local macro_rules | `(tactic| walk_at "subscriptTail") => `(tactic| k_extra "my slice")
local macro_rules | `(tactic| walk_at "subscriptTail Name Slice ref ref") => `(tactic| k_extra "my slice")
local macro_rules | `(tactic| k_all) => `(tactic| assumption)
theorem wordTurn (w : World) {p : Program} {loose : List Str} {mean : ExcName → Option Value} {mg mb : Str → Option Value} {dp un : Nat} {gd : Option (List Code)} {a : Addr} {ccd : Value} {outer : List Env}
    {A₀ : Around} {base h₀ : Heap} {L : Addr} {m : Str → Option Value} {s : Shared} {num la : Int} {dN : Nat} {td tn tl : Tok}
    (B : Below A₀ base outer h₀) (F : Fr h₀ L s.heap (fun z => if z = Str.ofString "depth" then some (.int (dN : Int) td) else if z = Str.ofString "number" then some (.int num tn) else if z = Str.ofString "last" then some (.int la tl) else m z)) (X : (hd1.heap_39 w.params).In h₀) (T : Top p loose mean mg mb h₀) {target iter : Expr} {body : List Stmt} {cs : Scope} (hw : forOf (hd1.heap_39 w.params) 68 = some (target, iter, body, cs))
    (C : CodeHd base 38 34) (C' : CodeHd base 45 41) (ht : turnB num la (dN : Int) = true)
    {I Wd c8 : Addr} {oI oc8 oWo : Obj} {vsW : List Value} {nW : Nat} {tb vs8 : Array Value} {t8 : Tok} {own : List (Addr × Obj)} (hvW : vsW.length ≤ 10)
    (N : News h₀ L s.heap ((I, oI) :: (Wd, listOf vsW.toArray nW) :: (41, tabObj tb) :: (34, tabObj #[rawInt 32, rawInt 4, .ref c8]) :: (c8, oc8) :: (L + 4, oWo) :: own)) (hT : DT own tb) (dW : oWo.data = .cell (some (.ref Wd))) (d8 : oc8.data = .fields vs8) (v8 : vs8[1]? = some (.str i2dQual t8))
    (hoff : ∀ p ∈ own, p.1 ≠ Wd) (hoff' : ∀ p ∈ own, p.1 ≠ 41) (o1 : @LT.lt Nat _ 41 L) (o2 : @LT.lt Nat _ (L + 4) Wd) (o3 : @Ne Nat c8 Wd) (o4 : @Ne Nat I Wd) (o5 : @LT.lt Nat _ 41 c8) (o6 : @LT.lt Nat _ 41 I)
    (hd : dp + 200 < recursionLimit) (hu : un + 5000 < cLine) :
    wpAny (model PySem.Challenge.rw_ia0004_01.row.prog w) (ktrTop dp un gd (Str.ofString "law") cs L a ccd (cellsFrom (L + 1) cs.names []) outer) (execs body (envX (Str.ofString "law") cs L a ccd (cellsFrom (L + 1) cs.names [])))
      (WordGo h₀ L s (fun z => if z = Str.ofString "depth" then some (.int (dN : Int) td) else if z = Str.ofString "number" then some (.int num tn) else if z = Str.ofString "last" then some (.int la tl) else m z) I Wd oI c8 oc8 oWo vsW own (xW num la dN) dN (txtOf (figOf (xW num la dN) dN))) (fun _ _ => False) s := by
  cases hw
  unfold turnB at ht
  rw [decide_eq_true_eq] at ht
  refine shut fun hG => ?_
  obtain ⟨_, f1, f2, f3, f4, f5, f6, f7, f8⟩ := ht
  refine hG ?_
  clear hG
  rw [Int.toNat_natCast] at f6 f7 f8
  have hx : num * ((2 ^ ((dN : Int) - la).toNat : Nat) : Int) = xW num la (dN : Int) := by unfold xW; simp
  generalize hxe : xW num la (dN : Int) = x at *
  generalize hfe : figOf x dN = fig at *
  revert X
  k_fill
  intro X
  k_with_none
  w_top off
  show wpAny _ _ _ _ _ { s with heap := s.heap, toks := s.toks }
  dsimp only
  k_fold
  k_with "my pow" => (k_dflt (refine pow_nat (k := ((dN : Int) - la).toNat) (by omega) (by omega) ?_))
  k_with "my times" => (k_dflt (refine mul_int (hm := IntMulOk.of_right (intBits_le_64 (by have := Nat.pow_pos (n := ((dN : Int) - la).toNat) (show 0 < 2 by decide); omega) (by have hp : 2 ^ ((dN : Int) - la).toNat ≤ 2 ^ 4 := Nat.pow_le_pow_right (by decide) (by omega); omega))) ?_); rw [hx])
  k_with "my mul" => ((k_dflt (refine' mul_ints (j := dN) ?mF ?mN ?mm ?mx ?mj ?_; (case mF => k_asm); (case mN => k_asm); (case mm => k_mem); (case mx => exact rfl); (case mj => omega))); intro D7 h7 F7 N7 l7 i7; (try k_lt l7); (try k_sweep))
  k_with "my add" => ((k_dflt (refine' kmk_add_ints ?aF ?aN ?aa ?ab i6 i7 ?_ ?az; (case aF => k_asm); (case aN => k_asm); (case aa => exact news_list (by k_asm) (by k_mem)); (case ab => exact news_list (by k_asm) (by k_mem)); (case az => (rw [sizeLine_eq, bitsOf_length, List.length_replicate]; have := (bits_of f4 f5).2.1; omega)))); intro Da usa ha Fa Na la ia; (try k_lt la); (try k_sweep))
  k_with "my slice" => ((k_dflt (refine' slice_to (k := dN) ?sx ?sF ?sN ?sl ia ?sz ?_; (case sF => k_asm); (case sN => k_asm); (case sl => exact news_list (by k_asm) (by k_mem)); (case sx => rfl); (case sz => (rw [ia.length, List.length_append, bitsOf_length, List.length_replicate]; have := (bits_of f4 f5).2.1; omega)))); intro De wse he Fe Ne le ie; (try k_lt le); (try k_sweep); change IntsAre wse (figOf x dN) at ie; rw [hfe] at ie)
  k_with "my call" => (refine' i2dHit w (C := by k_asm) (c9 := c8) ?B ?F ?X ?T ?hk ?N ?cr ?x0 ?x1 ?hd ?hu ?_; (case B => k_asm); (case F => k_asm); (case X => k_asm); (case T => k_asm); (case hk => exact rfl); (case hd => ktr_room); (case hu => ktr_units); (case N => exact news_sub (by k_asm) (by lcg_sub)); (case cr => exact codeRec_news (oc := oc8) (by k_asm) (by k_mem) d8 v8); (case x0 => exact f4); (case x1 => exact f5); (intro l6 vs6 n6 h6 tk6 e6 z6 g6 i6; (try dsimp only at e6 z6); (refine' after_list ?aF ?aN e6 z6 g6 ?_; (case aF => k_asm); (case aN => k_asm); intro F6 N6 ll6; (try k_lt ll6)); (try dsimp only); (try k_sweep); (try k_fold)))
  rcases hT with rfl | ⟨c9, oc9, vs9, t9, rfl, hm9, d9, v9⟩
  · k_with "my call" => (refine' d2iNew w (C := by k_asm) ?B ?F ?X ?T ?hk ?N ?lP ?hl ie ?bits ?len ?hd ?hu ?_; (case B => k_asm); (case F => k_asm); (case X => k_asm); (case T => k_asm); (case hk => exact rfl); (case hd => ktr_room); (case hu => ktr_units); (case N => exact news_sub (by k_asm) (by lcg_sub)); (case hl => exact news_list (by k_asm) (by k_mem)); (case lP => exact neN (by omega)); (case bits => exact f6); (case len => omega); (intro h9 tk9 t9 c9 e9 g9 z9 cn9; (try dsimp only at e9 z9); (refine' after_new ?aF ?aN ?aU e9 g9 z9 cn9 ?_; (case aF => k_asm); (case aN => k_asm); (case aU => k_upd); intro oc9 vs9 t9' d9 v9 F9 N9 lc9; (have lc90 := lc9); (try k_lt lc9)); (try dsimp only); (try k_sweep); (try k_fold)))
    repeat' (first | ((fail_if_success (with_reducible show wpAny _ _ (execs (PySem.Stmt.Expr _ _ :: _) _) _ _ _)); first | (k_unfold; (try dsimp only)) | walk1 | (dsimp only; walk1)))
    · exact absurd f8 (by assumption)
    (rename News _ _ _ _ => N9)
    (rename Fr _ _ _ _ => F9)
    have F10 := fr_at (x := Str.ofString "figures") (v := .ref De) F9 (by rfl)
    have F11 := fr_at (x := Str.ofString "number") F10 (by rfl)
    have F12 := fr_at (x := Str.ofString "depth") (v := .int (dN : Int) td) F11 (by rfl)
    dsimp only
    refine wpAny_mono (wordEnd w (Wd := Wd) (De := De) (fig := fig) (vsW := vsW) (wse := wse) (nDe := 0) (nW := nW) (oWo := oWo) (rest := (I, oI) :: (41, tabObj #[rawInt 47, rawInt 4, .ref c9]) :: (34, tabObj #[rawInt 32, rawInt 4, .ref c8]) :: (c8, oc8) :: (c9, oc9) :: own) B F12 X T rfl hvW ie (by omega) f6 (news_sub N9 ?hsub) dW ?hoff o2 (by omega) (by omega) (by omega)) ?_ (fun _ _ q => q.elim)
    case hsub =>
      (repeat' (first | refine sub_cons (by k_mem) ?_ | fail)); first | (intro p hp; (repeat (first | exact hp | refine List.Mem.tail _ ?_)); done) | exact fun p hp => nomatch hp
    case hoff =>
      intro p hp
      simp only [List.mem_cons] at hp
      rcases hp with rfl | rfl | rfl | rfl | rfl | hp
      · exact o4
      · exact Nat.ne_of_lt (Nat.lt_trans o1 (by omega))
      · exact neN (by dsimp only; omega)
      · exact o3
      · exact neN (by dsimp only; omega)
      · exact hoff p hp
    intro fl s' hq1
    refine shut fun hG => ?_
    obtain ⟨rfl, h', tk', m', t', nW', tn', tl', rfl, F', N', g1, g2, g3⟩ := hq1
    refine hG ?_
    clear hG
    refine ⟨rfl, h', tk', m', _, [(c9, oc9)], t', nW', tn', tl', rfl, F', news_sub N' ?_, ?_, .inr ⟨c9, oc9, _, _, rfl, List.mem_append_left _ (.head _), d9, v9⟩, g1, g2, ?_⟩
    · (repeat' (first | refine sub_cons (by k_mem) ?_ | fail)); first | (intro p hp; (repeat (first | exact hp | refine List.Mem.tail _ ?_)); done) | exact fun p hp => nomatch hp
    · intro p hp; rw [List.mem_singleton.mp hp]; exact ⟨by dsimp only; omega, by dsimp only; omega, by dsimp only; omega⟩
    · intro z z1 z2 z3 z4
      rw [g3 z z1 z2 z3 z4]
      simp only [if_neg z1, if_neg z2, if_neg z3, if_neg z4]
  · k_with "my call" => (refine' d2iHit w (C := by k_asm) (c9 := c9) ?B ?F ?X ?T ?hk ?N ?cr ?lP ?hl ie ?bits ?len ?hd ?hu ?_; (case B => k_asm); (case F => k_asm); (case X => k_asm); (case T => k_asm); (case hk => exact rfl); (case hd => ktr_room); (case hu => ktr_units); (case N => exact news_sub (by k_asm) (by lcg_sub)); (case cr => ((rename News _ _ _ _ => N7); exact codeRec_news (oc := oc9) N7 (by repeat (first | exact hm9 | apply mem_tail1)) d9 v9)); (case hl => exact news_list (by k_asm) (by k_mem)); (case lP => exact neN (by omega)); (case bits => exact f6); (case len => omega); (intro h9 tk9 t9 e9; (try dsimp only at e9); (have F9 := ext_F (by k_asm) e9); (have N9 := ext_N (by k_asm) e9); (try dsimp only); (try k_sweep); (try k_fold)))
    repeat' (first | ((fail_if_success (with_reducible show wpAny _ _ (execs (PySem.Stmt.Expr _ _ :: _) _) _ _ _)); first | (k_unfold; (try dsimp only)) | walk1 | (dsimp only; walk1)))
    · exact absurd f8 (by assumption)
    (rename News _ _ _ _ => N9)
    (rename Fr _ _ _ _ => F9)
    have F10 := fr_at (x := Str.ofString "figures") (v := .ref De) F9 (by rfl)
    have F11 := fr_at (x := Str.ofString "number") F10 (by rfl)
    have F12 := fr_at (x := Str.ofString "depth") (v := .int (dN : Int) td) F11 (by rfl)
    dsimp only
    refine wpAny_mono (wordEnd w (Wd := Wd) (De := De) (fig := fig) (vsW := vsW) (wse := wse) (nDe := 0) (nW := nW) (oWo := oWo) (rest := (I, oI) :: (41, tabObj #[rawInt 47, rawInt 4, .ref c9]) :: (34, tabObj #[rawInt 32, rawInt 4, .ref c8]) :: (c8, oc8) :: own) B F12 X T rfl hvW ie (by omega) f6 (news_sub N9 ?hsub) dW ?hoff o2 (by omega) (by omega) (by omega)) ?_ (fun _ _ q => q.elim)
    case hsub =>
      (repeat' (first | refine sub_cons (by k_mem) ?_ | fail)); first | (intro p hp; (repeat (first | exact hp | refine List.Mem.tail _ ?_)); done) | exact fun p hp => nomatch hp
    case hoff =>
      intro p hp
      simp only [List.mem_cons] at hp
      rcases hp with rfl | rfl | rfl | rfl | hp
      · exact o4
      · exact Nat.ne_of_lt (Nat.lt_trans o1 (by omega))
      · exact neN (by dsimp only; omega)
      · exact o3
      · exact hoff p hp
    intro fl s' hq1
    refine shut fun hG => ?_
    obtain ⟨rfl, h', tk', m', t', nW', tn', tl', rfl, F', N', g1, g2, g3⟩ := hq1
    refine hG ?_
    clear hG
    refine ⟨rfl, h', tk', m', _, [], t', nW', tn', tl', rfl, F', news_sub N' ?_, ?_, .inr ⟨c9, oc9, _, _, rfl, hm9, d9, v9⟩, g1, g2, ?_⟩
    · (repeat' (first | refine sub_cons (by k_mem) ?_ | fail)); first | (intro p hp; (repeat (first | exact hp | refine List.Mem.tail _ ?_)); done) | exact fun p hp => nomatch hp
    · intro p hp; exact nomatch hp
    · intro z z1 z2 z3 z4
      rw [g3 z z1 z2 z3 z4]
      simp only [if_neg z1, if_neg z2, if_neg z3, if_neg z4]
end Mine

end
section
open PySem PySem.W PySem.Spec PySem.Calls PyProof.Rows
namespace Mine
theorem strs_at {vs : List Value} {l : List Str} (h : StrsAre vs l) : ∀ {i : Nat} {v : Value}, vs[i]? = some v → ∃ y t, l[i]? = some y ∧ v = .str y t := by
  induction h with
  | nil => intro i v e; simp at e
  | cons y t _ ih =>
    intro i v e
    cases i with
    | zero => simp at e; exact ⟨y, t, rfl, e.symm⟩
    | succ i => exact ih (by simpa using e)
/-- pairs of a str and a value, laid in a ledger -/
inductive PairsL (own : List (Addr × Obj)) : List Value → List (Str × Value) → Prop
  | nil : PairsL own [] []
  | cons {T : Addr} {k : Str} {t : Tok} {v : Value} {vs : List Value} {ws : List (Str × Value)} : (T, tupO [Value.str k t, v].toArray) ∈ own → PairsL own vs ws → PairsL own (.ref T :: vs) ((k, v) :: ws)
theorem PairsL.mono {own own' : List (Addr × Obj)} {vs : List Value} {ws : List (Str × Value)} (h : PairsL own vs ws) (hs : ∀ p ∈ own, p ∈ own') : PairsL own' vs ws := by
  induction h with
  | nil => exact .nil
  | cons a _ ih => exact .cons (hs _ a) ih
theorem PairsL.length {own : List (Addr × Obj)} {vs : List Value} {ws : List (Str × Value)} (h : PairsL own vs ws) : vs.length = ws.length := by
  induction h with
  | nil => rfl
  | cons _ _ ih => simp [ih]
theorem PairsL.snoc {own : List (Addr × Obj)} {vs : List Value} {ws : List (Str × Value)} (h : PairsL own vs ws) {T : Addr} {k : Str} {t : Tok} {v : Value} (hm : (T, tupO [Value.str k t, v].toArray) ∈ own) : PairsL own (vs ++ [.ref T]) (ws ++ [(k, v)]) := by
  induction h with
  | nil => exact .cons hm .nil
  | cons a _ ih => exact .cons a ih
theorem PairsL.pairs {own news : List (Addr × Obj)} {vs : List Value} {ws : List (Str × Value)} {h₀ h : Heap} {L : Addr} (H : PairsL own vs ws) (N : News h₀ L h news) (hs : ∀ p ∈ own, p ∈ news) : PairsIn h vs.toArray ws := by
  induction H with
  | nil => intro i k v e; simp at e
  | cons a _ ih =>
    intro i k v e
    cases i with
    | zero =>
      simp at e
      obtain ⟨rfl, rfl⟩ := e
      exact ⟨_, _, _, 0, by simp, (N _ (hs _ a)).1, rfl, rfl⟩
    | succ i =>
      refine shut fun hG => ?_
      obtain ⟨T, o, t, n, e1, e2⟩ := ih i k v (by simpa using e)
      refine hG ?_
      clear hG
      exact ⟨T, o, t, n, by simpa using e1, e2⟩
theorem strs_len {vs : List Value} {l : List Str} (h : StrsAre vs l) : vs.length = l.length := by
  induction h with
  | nil => rfl
  | cons _ _ _ ih => simp [ih]
local macro_rules | `(tactic| walk_at "eval ListComp") => `(tactic| k_extra "my comp")
local macro_rules | `(tactic| walk_at "call builtin:len") => `(tactic| k_extra "my len")
local macro_rules | `(tactic| walk_at "call type:dict") => `(tactic| k_extra "my dict")
local macro_rules | `(tactic| walk_at "compareOp NotEq ref ref") => `(tactic| k_extra "my ne")
theorem lawY (w : World) {p : Program} {loose : List Str} {mean : ExcName → Option Value} {mg mb : Str → Option Value} {dp un : Nat} {gd : Option (List Code)} {a : Addr} {ccd : Value} {outer : List Env}
    {A₀ : Around} {base h₀ : Heap} {L : Addr} {m : Str → Option Value} {s : Shared} {c : Int} {tc : Tok}
    (B : Below A₀ base outer h₀) (F : Fr h₀ L s.heap (fun z => if z = Str.ofString "cost" then some (.int c tc) else m z)) (X : (hd1.heap_39 w.params).In h₀) (T : Top p loose mean mg mb h₀) {body : List Stmt} {cs : Scope} (hw : bodyOf (hd1.heap_39 w.params) 68 = some (body, cs))
    {W Wd : Addr} {oWo oDe oDp oWt : Obj} {ta tb : Array Value} {vsW vsS : List Value} {nW nS : Nat} {ns g : List Int} (h1 : 1 ≤ ns.length) (h5 : ns.length ≤ 5) (hg : g ∈ sortedGs) (hgl : g.length = ns.length)
    (N : News h₀ L s.heap ((Wd, listOf vsS.toArray nS) :: (W, listOf vsW.toArray nW) :: (L + 4, oWo) :: (L + 3, oDe) :: (L + 2, oDp) :: (L + 1, oWt) :: (34, tabObj ta) :: (41, tabObj tb) :: []))
    (iW : IntsAre vsW ns) (iS : StrsAre vsS (wordsW g)) (dWt : oWt.data = .cell (some (.ref W))) (dWo : oWo.data = .cell (some (.ref Wd)))
    (hb : ns.length ≤ 4 → (∀ r ∈ fillP ns.length (max 1 (ns.length - 1)), c ≤ dotP ns r) ∧ ∃ r ∈ fillP ns.length (max 1 (ns.length - 1)), c = dotP ns r)
    (hd : dp + 300 < recursionLimit) (hu : un + 4000 < cLine) :
    wpAny (model PySem.Challenge.rw_ia0004_01.row.prog w) (ktrTop dp un gd (Str.ofString "law") cs L a ccd (cellsFrom (L + 1) cs.names []) outer) (execs (body.drop 8) (envX (Str.ofString "law") cs L a ccd (cellsFrom (L + 1) cs.names [])))
      (LawEnd h₀ L [(45, 41), (38, 34)] s) (fun _ _ => False) s := by
  have hfree := words_free g hg
  have hshort := words_short g hg
  have hnod := words_nodup g hg
  have hwl : (wordsW g).length = ns.length := by simp [wordsW, hgl]
  generalize wordsW g = words at *
  have hvS : vsS.length = words.length := strs_len iS
  have hlW : vsW.length = ns.length := iW.length
  have hbody : body.drop 10 = (body.drop 8).drop 2 := by rw [List.drop_drop]
  have hZ : ∀ {s' : Shared} {m' : Str → Option Value}, Fr h₀ L s'.heap (fun z => if z = Str.ofString "cost" then some (.int c tc) else m' z) → News h₀ L s'.heap [(W, listOf vsW.toArray nW), (L + 4, oWo), (L + 3, oDe), (L + 2, oDp), (L + 1, oWt), (34, tabObj ta), (41, tabObj tb)] → wpAny (model PySem.Challenge.rw_ia0004_01.row.prog w) (ktrTop dp un gd (Str.ofString "law") cs L a ccd (cellsFrom (L + 1) cs.names []) outer) (execs (body.drop 10) (envX (Str.ofString "law") cs L a ccd (cellsFrom (L + 1) cs.names [])))
      (LawEnd h₀ L [(45, 41), (38, 34)] s') (fun _ _ => False) s' := fun F' N' => lawZ w B F' X T hw h1 h5 N' iW dWt hb hd hu
  clear hbody
  cases hw
  revert X
  k_fill
  intro X
  k_with_none
  w_top off
  show wpAny _ _ _ _ _ { s with heap := s.heap, toks := s.toks }
  dsimp only [List.drop] at hZ ⊢
  k_fold
  k_with "my comp" => (k_dflt (refine ListComp_2 (F₀ := by k_asm) (by with_unfolding_all rfl) (by decide) (by rfl) (by decide) (by rfl) ?_))
  k_with "my len" => (k_dflt (refine' len_is (k := ns.length) ?lN ?lm ?lk ?lz ?_; (case lN => k_asm); (case lm => k_mem); (case lk => (simp [hlW])); (case lz => omega)))
  repeat' (first | ((fail_if_success (with_reducible show Src2 _ _ _ _ _ _ _ _ _ _ _ _ _ _ _)); first | (k_unfold; (try dsimp only)) | walk1 | (dsimp only; walk1)))
  (rename Fr _ _ _ _ => F1)
  (rename News _ _ _ _ => N1)
  refine Src2.list (its := vsS.toArray) (fun i ys nw => nw = (Wd, listOf vsS.toArray nS) :: (W, listOf vsW.toArray nW) :: (L + 4, oWo) :: (L + 3, oDe) :: (L + 2, oDp) :: (L + 1, oWt) :: (34, tabObj ta) :: (41, tabObj tb) :: [] ∧ ys = []) rfl F1 N1 ?src ⟨rfl, rfl⟩ fun g => ⟨?step, ?fin⟩
  case src => rintro i ys nw ⟨rfl, _⟩; exact .inr ⟨_, .head _, rfl, nS, rfl⟩
  case step =>
    rintro i v I oI oC C D ys m₂ nw h tk E' hi hv hC hx Fk Nk offk ⟨nIC, nID, nCD⟩ ⟨rfl, rfl⟩
    obtain ⟨one, t1, ho1, rfl⟩ := strs_at iS (i := i) (v := v) (by simpa using hv)
    have hm1 := List.mem_of_getElem? ho1
    clear F1 N1
    repeat' (first | ((fail_if_success (with_reducible show wpAny _ _ (pyIter _) _ _ _)); first | (k_unfold; (try dsimp only)) | walk1 | (dsimp only; walk1)))
    (rename Fr _ _ _ _ => F2)
    (rename News _ _ _ _ => N2)
    refine inner_list (ax := Wd) (its := vsS.toArray) (ys := []) (fun j ys' nw => nw = (I, oI) :: (Wd, listOf vsS.toArray nS) :: (W, listOf vsW.toArray nW) :: (L + 4, oWo) :: (L + 3, oDe) :: (L + 2, oDp) :: (L + 1, oWt) :: (34, tabObj ta) :: (41, tabObj tb) :: [] ∧ ys' = []) rfl ?src ?sz rfl rfl F2 (news := (I, oI) :: (Wd, listOf vsS.toArray nS) :: (W, listOf vsW.toArray nW) :: (L + 4, oWo) :: (L + 3, oDe) :: (L + 2, oDp) :: (L + 1, oWt) :: (34, tabObj ta) :: (41, tabObj tb) :: []) ?N hC nCD ?cax ?off ⟨rfl, rfl⟩ ?step2 ?fin2
    case src => rintro j ys nw ⟨rfl, _⟩; exact .inr ⟨_, .tail _ (.head _), rfl, nS, rfl⟩
    case sz => rintro j ys nw ⟨_, rfl⟩; exact Nat.zero_le _
    case N =>
      refine news_sub N2 fun q hq => ?_
      revert q; (repeat' (first | refine sub_cons (by k_mem) ?_ | fail)); first | (intro p hp; (repeat (first | exact hp | refine List.Mem.tail _ ?_)); done) | exact fun p hp => nomatch hp
    case cax => exact fun e => offk (Wd, listOf vsS.toArray nS) (.head _) (e ▸ .tail _ (.head _))
    case off =>
      intro q hq hm
      rcases List.mem_cons.mp hq with rfl | hq
      · simp only [List.mem_cons, List.not_mem_nil, or_false] at hm
        rcases hm with e | e
        · exact nIC e
        · exact nID e
      · exact offk q hq (.tail _ hm)
    case fin2 =>
      rintro oC' m₃ ys' nw h5 tk5 ⟨rfl, rfl⟩ hC5 hm5 F5 N5 off5
      refine ⟨⟨_, rfl⟩, h5, tk5, oC', m₃, [], (Wd, listOf vsS.toArray nS) :: (W, listOf vsW.toArray nW) :: (L + 4, oWo) :: (L + 3, oDe) :: (L + 2, oDp) :: (L + 1, oWt) :: (34, tabObj ta) :: (41, tabObj tb) :: [], rfl, F5, news_sub N5 ?_, hC5, offk, rfl, rfl⟩
      intro q hq
      revert q; (repeat' (first | refine sub_cons (by k_mem) ?_ | fail)); first | (intro p hp; (repeat (first | exact hp | refine List.Mem.tail _ ?_)); done) | exact fun p hp => nomatch hp
    case step2 =>
      rintro J j v oJ oC' m₃ ys' nw h5 tk5 E5 hj hv2 hC5 hy5 hm5 F5 N5 off5 ⟨nJC, nJD⟩ ⟨rfl, rfl⟩
      obtain ⟨other, t2, ho2, rfl⟩ := strs_at iS (i := j) (v := v) (by simpa using hv2)
      have hm2 := List.mem_of_getElem? ho2
      have hf2 := hfree one hm1 other hm2
      have hs2 := hshort other hm2
      have hs1 := hshort one hm1
      have hx5 : m₃ (Str.ofString "one") = some (.str one t1) := (hm5 _ (by decide)).trans hx
      clear F2 N2 hfree hshort hnod
      refine wpAny_tests_one ?_
      k_steps
      all_goals first
        | ((rename ((_ == one) = true) => qa); (rename ((one != other) = true) => qb); exact absurd (eq_of_beq qa) (hf2 (by simpa using qb)))
        | ((rename Fr _ _ _ _ => F6); (rename News _ _ _ _ => N6); exact ⟨_, _, _, rfl, F6, N6, off5, rfl, by first | trivial | rfl⟩)
  case fin =>
    rintro ys nw ⟨rfl, rfl⟩
    unfold FinC
    intro D h7 tk7 F7 N7 off7 hLD
    clear F1 N1
    (try dsimp only)
    k_with "my comp" => (k_dflt (refine ListComp_1 (by k_asm) (by with_unfolding_all rfl) (by decide) (by rfl) (by decide) (by rfl) ?_))
    k_with "my ne" => (k_dflt (refine' ne_ints_false (ns := []) (ms := []) rfl ?ea .nil ?eb .nil ?eu ?_; (case ea => exact news_seq (by k_asm) (by k_mem)); (case eb => exact news_seq (by k_asm) (by k_mem)); (case eu => ktr_units)))
    repeat' (first | ((fail_if_success (with_reducible show Src1 _ _ _ _ _ _ _ _ _ _ _ _ _ _)); first | (k_unfold; (try dsimp only)) | walk1 | (dsimp only; walk1)))
    (rename Fr _ _ _ _ => F1)
    (rename News _ _ _ _ => N1)
    refine Src1.list (its := vsS.toArray) (fun i ys nw => ∃ own ws, nw = (Wd, listOf vsS.toArray nS) :: (W, listOf vsW.toArray nW) :: (L + 4, oWo) :: (L + 3, oDe) :: (L + 2, oDp) :: (L + 1, oWt) :: (34, tabObj ta) :: (41, tabObj tb) :: own ∧ ws.map (·.1) = words.take i ∧ PairsL own ys ws) rfl F1 (news_sub N1 (show ∀ p ∈ (Wd, listOf vsS.toArray nS) :: (W, listOf vsW.toArray nW) :: (L + 4, oWo) :: (L + 3, oDe) :: (L + 2, oDp) :: (L + 1, oWt) :: (34, tabObj ta) :: (41, tabObj tb) :: [], p ∈ _ by lcg_sub)) ?src ?sz ⟨[], [], rfl, rfl, .nil⟩ fun g => ⟨?step, ?fin⟩
    case src => rintro i ys nw ⟨own, ws, rfl, _⟩; exact .inr ⟨_, .head _, rfl, nS, rfl⟩
    case sz => simp; omega
    case step =>
      intro i v J oJ C oC D ys m₂ nw h5 tk5 E5 hi hv hC hx F5 N5 off5 hq1 hq2
      refine shut fun hG => ?_
      obtain ⟨nJC, nJD, nCD⟩ := hq1
      obtain ⟨own, ws, rfl, hws, hP⟩ := hq2
      refine hG ?_
      clear hG
      obtain ⟨word, tw, how, rfl⟩ := strs_at iS (i := i) (v := v) (by simpa using hv)
      clear F1 N1
      k_steps
      (rename Fr _ _ _ _ => F6)
      (rename News _ _ _ _ => N6)
      rename_i T6 _ lT6
      obtain ⟨q1, N7⟩ : ∃ q1, News h₀ L _ ((T6, tupO [Value.str word tw, Value.int 1 q1].toArray) :: _) := ⟨_, N6⟩
      refine ⟨_, _, (Wd, listOf vsS.toArray nS) :: (W, listOf vsW.toArray nW) :: (L + 4, oWo) :: (L + 3, oDe) :: (L + 2, oDp) :: (L + 1, oWt) :: (34, tabObj ta) :: (41, tabObj tb) :: (T6, tupO [Value.str word tw, Value.int 1 q1].toArray) :: own, rfl, F6, news_sub N7 ?_, ?_, _, ws ++ [(word, Value.int 1 q1)], rfl, ?_, (hP.mono fun p hp => mem_tail1 hp).snoc (.head _)⟩
      · (repeat' (first | refine sub_cons (by k_mem) ?_ | fail)); first | (intro p hp; (repeat (first | exact hp | refine List.Mem.tail _ ?_)); done) | exact fun p hp => nomatch hp
      · have hne : ∀ z ∈ [J, oC, D], z < T6 := all_cons lT6.1 (all_cons lT6.2.1 (all_cons lT6.2.2.1 (fun _ h => nomatch h)))
        (repeat' (first | refine all_cons (off5 _ (by k_mem)) ?_ | refine all_cons (fun hm => absurd (hne _ hm) (Nat.lt_irrefl _)) ?_ | fail)); (intro q hq; refine off5 q ?_; repeat (first | exact hq | refine List.Mem.tail _ ?_))
      · rw [List.map_append, hws, List.take_add_one, how]; rfl
    case fin =>
      intro ys nw hq1
      refine shut fun hG => ?_
      obtain ⟨own, ws, rfl, hws, hP⟩ := hq1
      refine hG ?_
      clear hG
      unfold FinC
      intro D8 h8 tk8 F8 N8 off8 hLD8
      rw [show vsS.toArray.size = words.length by simp [hvS], List.take_length] at hws
      have hwl2 : ws.length = words.length := by rw [← hws]; simp
      have hmer : merged [] ws = ws := merged_nil_of_nodup ws (by rw [hws]; exact hnod)
      have hyl : ys.length = ws.length := hP.length
      clear F1 N1
      (try dsimp only)
      k_with "my dict" => ((k_dflt (refine' call_dict_pairs (items := ys.toArray) (ws := ws) (sl := #[]) rfl ?dl ?dp ?dn ?dz ?_; (case dl => exact (N8 _ (.head _)).1); (case dp => exact hP.pairs N8 (fun p hp => by repeat (first | exact hp | apply mem_tail1))); (case dn => simp [hyl]); (case dz => (rw [sizeLine_eq]; simp; omega)))); intro h9 tk9 e9 D9; (have F9 := ext_F F8 e9); (have N9 := ext_N N8 e9); (have hsm := F8.notModules (modules_low T.nolimit)); rw [hmer] at D9)
      k_with "my len" => first
        | (k_dflt (refine' len_is (k := ns.length) ?lN ?lm ?lk ?lz ?_; (case lN => k_asm); (case lm => k_mem); (case lk => (simp [hlW])); (case lz => omega)))
        | (k_dflt (refine' call_len_dict hsm D9 (by omega) ?_))
      repeat' (first | ((fail_if_success (with_reducible show wpAny _ _ (execs (PySem.Stmt.Return (some (PySem.Expr.BoolOp _ _ _)) _ :: _) _) _ _ _)); first | (k_unfold; (try dsimp only)) | walk1 | (dsimp only; walk1)))
      all_goals first
        | (exfalso; omega)
        | (dsimp only; refine wpAny_mono (hZ F9 (news_sub N9 (by lcg_sub))) ?_ (fun _ _ q => q.elim); rintro fl s' ⟨rfl, h', tk', m', rfl, F', G'⟩; exact ⟨rfl, h', tk', m', rfl, F', G'⟩)
end Mine

end
section
open PySem PySem.W PySem.Spec PySem.Calls PyProof.Rows
namespace Mine
theorem words_take (g : List Int) {i : Nat} (h : i < g.length) : (wordsW g).take (i + 1) = (wordsW g).take i ++ [txtW g i] := by
  have e : (wordsW g)[i]? = some (txtW g i) := by simp [wordsW, h]
  rw [List.take_add_one, e]; rfl
local macro_rules | `(tactic| walk_at "exec For Name Call cons nil") => `(tactic| (k_here; (rename Fr _ _ _ _ => lF'); (with_unfolding_all refine' For_turns lF' ?_); k_whole))
local macro_rules | `(tactic| walk_at "call builtin:sorted") => `(tactic| k_extra "my sorted")
theorem lawX (w : World) {p : Program} {loose : List Str} {mean : ExcName → Option Value} {mg mb : Str → Option Value} {dp un : Nat} {gd : Option (List Code)} {a : Addr} {ccd : Value} {outer : List Env}
    {A₀ : Around} {base h₀ : Heap} {L : Addr} {m : Str → Option Value} {s : Shared} {c : Int} {tc : Tok}
    (B : Below A₀ base outer h₀) (F : Fr h₀ L s.heap (fun z => if z = Str.ofString "cost" then some (.int c tc) else m z)) (X : (hd1.heap_39 w.params).In h₀) (T : Top p loose mean mg mb h₀) {body : List Stmt} {cs : Scope} (hw : bodyOf (hd1.heap_39 w.params) 68 = some (body, cs))
    (C : CodeHd base 38 34) (C' : CodeHd base 45 41)
    {W Dd c8 : Addr} {oWo oDe oDp oWt oc8 : Obj} {vs8 : Array Value} {t8 : Tok} {vsW vsD : List Value} {nW nD : Nat} {ns ds gs : List Int} (h1 : 1 ≤ ns.length) (h5 : ns.length ≤ 5) (hgs : gs ∈ gsOf ns.length) (hds : ds.Perm gs) (hdl : ds.length = ns.length)
    (N : News h₀ L s.heap [(Dd, listOf vsD.toArray nD), (W, listOf vsW.toArray nW), (L + 4, oWo), (L + 3, oDe), (L + 2, oDp), (L + 1, oWt), (34, tabObj #[rawInt 32, rawInt 4, .ref c8]), (c8, oc8), (41, tabObj #[])])
    (iW : IntsAre vsW ns) (iD : IntsAre vsD ds) (dWt : oWt.data = .cell (some (.ref W))) (dDp : oDp.data = .cell (some (.ref Dd))) (dWo : ∃ v, oWo.data = .cell v)
    (d8 : oc8.data = .fields vs8) (v8 : vs8[1]? = some (.str i2dQual t8)) (o1 : @LT.lt Nat _ 41 L) (o5 : @LT.lt Nat _ L c8)
    (oW : @LT.lt Nat _ L W) (oD : @LT.lt Nat _ L Dd) (oW4 : @LT.lt Nat _ (L + 4) W) (oD4 : @LT.lt Nat _ (L + 4) Dd) (o84 : @LT.lt Nat _ (L + 4) c8)
    (hb : ns.length ≤ 4 → (∀ r ∈ fillP ns.length (max 1 (ns.length - 1)), c ≤ dotP ns r) ∧ ∃ r ∈ fillP ns.length (max 1 (ns.length - 1)), c = dotP ns r)
    (hd : dp + 300 < recursionLimit) (hu : un + 6000 < cLine) :
    wpAny (model PySem.Challenge.rw_ia0004_01.row.prog w) (ktrTop dp un gd (Str.ofString "law") cs L a ccd (cellsFrom (L + 1) cs.names []) outer) (execs (body.drop 6) (envX (Str.ofString "law") cs L a ccd (cellsFrom (L + 1) cs.names [])))
      (LawEnd h₀ L [(45, 41), (38, 34)] s) (fun _ _ => False) s := by
  obtain ⟨vWo, dWo⟩ := dWo
  have hY : ∀ {s' : Shared} {m' : Str → Option Value} {Wd : Addr} {oWo' : Obj} {vsS : List Value} {nS : Nat} {tb : Array Value} {g : List Int}, g ∈ sortedGs → g.length = ns.length → Fr h₀ L s'.heap (fun z => if z = Str.ofString "cost" then some (.int c tc) else m' z) → News h₀ L s'.heap [(Wd, listOf vsS.toArray nS), (W, listOf vsW.toArray nW), (L + 4, oWo'), (L + 3, oDe), (L + 2, oDp), (L + 1, oWt), (34, tabObj #[rawInt 32, rawInt 4, .ref c8]), (41, tabObj tb)] → StrsAre vsS (wordsW g) → oWo'.data = .cell (some (.ref Wd)) → wpAny (model PySem.Challenge.rw_ia0004_01.row.prog w) (ktrTop dp un gd (Str.ofString "law") cs L a ccd (cellsFrom (L + 1) cs.names []) outer) (execs (body.drop 8) (envX (Str.ofString "law") cs L a ccd (cellsFrom (L + 1) cs.names [])))
      (LawEnd h₀ L [(45, 41), (38, 34)] s') (fun _ _ => False) s' := fun hg hgl F' N' iS dW => lawY w B F' X T hw h1 h5 hg hgl N' iW iS dWt dW hb hd (by omega)
  cases hw
  revert X
  k_fill
  intro X
  k_with_none
  w_top off
  show wpAny _ _ _ _ _ { s with heap := s.heap, toks := s.toks }
  dsimp only [List.drop] at hY ⊢
  k_fold
  k_with "my sorted" => ((k_dflt (refine' kso_sorted ?sF ?sN ?sl iD ?sz ?_; (case sF => k_asm); (case sN => k_asm); (case sl => exact news_list (by k_asm) (by k_mem)); (case sz => omega))); intro D5 vs5 g5 n5 h5' F5' N5' l5 i5 e5 p5 s5 b5; (try k_lt l5); (try k_sweep))
  repeat' (first | ((fail_if_success (with_reducible show wpAny _ _ (pyIter _) _ _ _)); first | (k_unfold; (try dsimp only)) | walk1 | (dsimp only; walk1)))
  have hg : g5 ∈ sortedGs := sorted_is (n := ns.length) (by omega) hgs hds p5 s5
  have hgl : g5.length = ns.length := e5.trans hdl
  have hturn := turn_all g5 hg
  have hv5 : vs5.length = g5.length := i5.length
  clear hgs hds p5 s5 b5 iD e5
  (rename (Obj.data _ = Data.cell (some (Value.ref _))) => dW9)
  refine shut fun hG => ?_
  obtain ⟨Wd, oW9, M0, dW, hMn, hMl, hMc, F10, N10, q1, q2, q3, q4, q5, q6, q7⟩ : ∃ (Wd : Addr) (oW9 : Obj) (M0 : Str → Option Value), oW9.data = Data.cell (some (Value.ref Wd)) ∧ (∃ t, M0 (Str.ofString "number") = some (.int 0 t)) ∧ (∃ t, M0 (Str.ofString "last") = some (.int 0 t)) ∧ M0 (Str.ofString "cost") = some (.int c tc) ∧ Fr h₀ L h5' M0 ∧ News h₀ L h5' ((D5, listOf vs5.toArray n5) :: (Wd, listOf ([] : List Value).toArray 0) :: (41, tabObj #[]) :: (34, tabObj #[rawInt 32, rawInt 4, .ref c8]) :: (c8, oc8) :: (L + 4, oW9) :: [(Dd, listOf vsD.toArray nD), (W, listOf vsW.toArray nW), (L + 3, oDe), (L + 2, oDp), (L + 1, oWt)]) ∧
      @LT.lt Nat _ (L + 4) Wd ∧ @LT.lt Nat _ c8 Wd ∧ @LT.lt Nat _ Dd Wd ∧ @LT.lt Nat _ W Wd ∧ @LT.lt Nat _ Wd D5 ∧ @LT.lt Nat _ 41 Wd ∧ @LT.lt Nat _ 41 D5 := ⟨_, _, _, dW9, ⟨_, rfl⟩, ⟨_, rfl⟩, rfl, F5', news_sub N5' (by lcg_sub), by omega, by omega, by omega, by omega, by omega, by omega, by omega⟩
  clear F5' N5' dW9
  refine hG ?_
  clear hG
  refine' iter_listTurns (ax := D5) (lo := listOf vs5.toArray n5) (vs := vs5) rfl F10 N10 (.head _) rfl rfl ?_
  intro I5 lI
  have lID : @LT.lt Nat _ D5 I5 := lI (D5, _) (.head _)
  have lIc : @LT.lt Nat _ c8 I5 := by omega
  refine items_run (fun i m' nx => ∃ own tb vs nS tn tl, nx = (D5, listOf vs5.toArray n5) :: (Wd, listOf (List.toArray vs) nS) :: (41, tabObj tb) :: (34, tabObj #[rawInt 32, rawInt 4, .ref c8]) :: (c8, oc8) :: (L + 4, oW9) :: own ∧ (∀ p ∈ [(Dd, listOf vsD.toArray nD), (W, listOf vsW.toArray nW), (L + 3, oDe), (L + 2, oDp), (L + 1, oWt)], p ∈ own) ∧ (∀ p ∈ own, p.1 ≠ Wd ∧ p.1 ≠ 41 ∧ p.1 ≠ I5) ∧ DT own tb ∧ StrsAre vs ((wordsW g5).take i) ∧ vs.length = i ∧ m' (Str.ofString "number") = some (.int (stW g5 i).1 tn) ∧ m' (Str.ofString "last") = some (.int (stW g5 i).2 tl) ∧ m' (Str.ofString "cost") = some (.int c tc)) ?h0 ?step ?fin
  case h0 =>
    obtain ⟨tn, hMn⟩ := hMn
    obtain ⟨tl, hMl⟩ := hMl
    refine ⟨_, _, [], 0, tn, tl, rfl, fun p hp => hp, ?_, .inl rfl, .nil, rfl, hMn, hMl, hMc⟩
    intro p hp
    simp only [List.mem_cons, List.not_mem_nil, or_false] at hp
    rcases hp with rfl | rfl | rfl | rfl | rfl <;> exact ⟨neN (by dsimp only; omega), neN (by dsimp only; omega), neN (by dsimp only; omega)⟩
  case step =>
    intro i b m' nx v h tk hib hq hv Fk
    refine shut fun hG => ?_
    obtain ⟨own, tb, vs, nS, tn, tl, rfl, hrest, hown, hDT, hS, hvl, hn, hl, hc⟩ := hq
    refine hG ?_
    clear hG
    refine AllObj.cons fun oI hoI => AllObj.nil fun Nk => ?_
    rw [List.getElem?_map] at hib
    obtain ⟨u, hu', rfl⟩ := Option.map_eq_some_iff.mp hib
    obtain rfl : v = u := hv
    obtain ⟨d, td, hd5, rfl⟩ := ints_at i5 hu'
    have hlt : i < g5.length := (List.getElem?_eq_some_iff.mp hd5).1
    have hgd : g5.getD i 0 = d := by rw [List.getD_eq_getElem?_getD, hd5]; rfl
    have ht := hturn i hlt
    rw [hgd] at ht
    have hd0 : 0 ≤ d := by
      unfold turnB at ht
      exact (of_decide_eq_true ht).1
    obtain ⟨dN, rfl⟩ : ∃ dN : Nat, d = (dN : Int) := ⟨d.toNat, by omega⟩
    simp only [List.cons_append, List.nil_append] at Nk
    repeat' (first | ((fail_if_success (with_reducible show wpAny _ _ (execs (_ :: _) _) _ _ _)); first | (k_unfold; (try dsimp only)) | walk1 | (dsimp only; walk1)))
    (rename Fr _ _ _ _ => F6)
    (rename News _ _ _ _ => N6)
    have F7 := fr_at (x := Str.ofString "last") (v := .int (stW g5 i).2 tl) F6 ((if_neg (by decide)).trans hl)
    have F8 := fr_at (x := Str.ofString "number") (v := .int (stW g5 i).1 tn) F7 ((if_neg (by decide)).trans ((if_neg (by decide)).trans hn))
    have F9 := fr_at (x := Str.ofString "depth") (v := .int (dN : Int) td) F8 ((if_neg (by decide)).trans ((if_neg (by decide)).trans (if_pos rfl)))
    have hDT9 : DT ((D5, listOf vs5.toArray n5) :: own) tb := by
      rcases hDT with e | ⟨c9, oc, ws, t9, e1, e2, e3⟩
      · exact .inl e
      · exact .inr ⟨c9, oc, ws, t9, e1, .tail _ e2, e3⟩
    have hown9 : ∀ p ∈ (D5, listOf vs5.toArray n5) :: own, p.1 ≠ Wd ∧ p.1 ≠ 41 ∧ p.1 ≠ I5 := by
      intro p hp
      rcases List.mem_cons.mp hp with rfl | hp
      · exact ⟨neN (by dsimp only; omega), neN (by dsimp only; omega), neN (by dsimp only; omega)⟩
      · exact hown p hp
    refine wpAny_mono (wordTurn w (num := (stW g5 i).1) (la := (stW g5 i).2) (dN := dN) (I := I5) (Wd := Wd) (c8 := c8) (oI := oI) (oc8 := oc8) (oWo := oW9) (vsW := vs) (nW := nS) (tb := tb) (own := (D5, listOf vs5.toArray n5) :: own) B F9 X T rfl C C' ht (by omega) (news_sub N6 ?hsub) hDT9 dW d8 v8 (fun p hp => (hown9 p hp).1) (fun p hp => (hown9 p hp).2.1) o1 q1 (neN (by omega)) (neN (by omega)) (by omega) (by omega) ?hd ?hu) (fun fl s' q => ?_) (fun _ _ q => q.elim)
    case hd => omega
    case hu => omega
    case hsub =>
      (repeat' (first | refine sub_cons (by k_mem) ?_ | fail)); first | (intro p hp; (repeat (first | exact hp | refine List.Mem.tail _ ?_)); done) | exact fun p hp => nomatch hp
    refine shut fun hG => ?_
    obtain ⟨rfl, h', tk', m8, tb', more, t', nW', tn', tl', rfl, F', N', hmore, hDT', g1, g2, g3⟩ := q
    refine hG ?_
    clear hG
    have hst : stW g5 (i + 1) = (xW (stW g5 i).1 (stW g5 i).2 (dN : Int) + 1, (dN : Int)) := by
      show (xW (stW g5 i).1 (stW g5 i).2 (g5.getD i 0) + 1, g5.getD i 0) = _
      rw [hgd]
    have htx : txtW g5 i = txtOf (figOf (xW (stW g5 i).1 (stW g5 i).2 (dN : Int)) dN) := by
      unfold txtW
      rw [hgd, Int.toNat_natCast]
    have hcc : m8 (Str.ofString "cost") = some (.int c tc) := (g3 _ (by decide) (by decide) (by decide) (by decide)).trans ((if_neg (by decide)).trans ((if_neg (by decide)).trans ((if_neg (by decide)).trans ((if_neg (by decide)).trans hc))))
    refine ⟨h', tk', m8, (D5, listOf vs5.toArray n5) :: (Wd, listOf (List.toArray (vs ++ [Value.str (txtOf (figOf (xW (stW g5 i).1 (stW g5 i).2 (dN : Int)) dN)) t'])) nW') :: (41, tabObj tb') :: (34, tabObj #[rawInt 32, rawInt 4, .ref c8]) :: (c8, oc8) :: (L + 4, oW9) :: (more ++ (D5, listOf vs5.toArray n5) :: own), rfl, F', news_sub N' ?_, ?_, ⟨.head _, trivial⟩, ⟨_, _, _, nW', tn', tl', rfl, ?_, ?_, hDT', ?_, ?_, ?_, ?_, hcc⟩⟩
    · (repeat' (first | refine sub_cons (by repeat (first | exact List.Mem.head _ | exact List.mem_append_right _ (List.Mem.head _) | refine List.Mem.tail _ ?_)) ?_ | fail)); (intro p hp; repeat (first | exact hp | refine List.Mem.tail _ ?_))
    · intro p hp q hq
      rw [List.mem_singleton.mp hq]
      simp only [List.mem_cons, List.mem_append] at hp
      rcases hp with rfl | rfl | rfl | rfl | rfl | rfl | hp | rfl | hp
      · exact neN (by dsimp only; omega)
      · exact neN (by dsimp only; omega)
      · exact neN (by dsimp only; omega)
      · exact neN (by dsimp only; omega)
      · exact neN (by dsimp only; omega)
      · exact neN (by dsimp only; omega)
      · exact Nat.ne_of_gt (hmore p hp).1
      · exact neN (by dsimp only; omega)
      · exact (hown p hp).2.2
    · intro p hp
      exact List.mem_append_right _ (.tail _ (hrest p hp))
    · intro p hp
      rcases List.mem_append.mp hp with hp | hp
      · exact ⟨Nat.ne_of_gt (hmore p hp).2.1, Nat.ne_of_gt (hmore p hp).2.2, Nat.ne_of_gt (hmore p hp).1⟩
      · exact hown9 p hp
    · rw [words_take g5 hlt, htx]
      exact strs_snoc hS _ _
    · simp [hvl]
    · rw [hst]; exact g1
    · rw [hst]; exact g2
  case fin =>
    intro m' nx h tk hq Fk Nk
    refine shut fun hG => ?_
    obtain ⟨own, tb, vs, nS, tn, tl, rfl, hrest, hown, hDT, hS, hvl, hn, hl, hc⟩ := hq
    refine hG ?_
    clear hG
    rw [show (vs5.map Itm.val).length = (wordsW g5).length by simp [wordsW, hv5], List.take_length] at hS
    have F7 := fr_at (x := Str.ofString "cost") (v := .int c tc) Fk hc
    dsimp only
    refine wpAny_mono (hY (nS := nS) (tb := tb) hg hgl F7 (news_sub Nk ?hsub) hS dW) ?_ (fun _ _ q => q.elim)
    case hsub =>
      have k1 := hrest _ (.tail _ (.head _))
      have k2 := hrest _ (.tail _ (.tail _ (.head _)))
      have k3 := hrest _ (.tail _ (.tail _ (.tail _ (.head _))))
      have k4 := hrest _ (.tail _ (.tail _ (.tail _ (.tail _ (.head _)))))
      (repeat' (first | refine sub_cons (by k_mem) ?_ | refine sub_cons (by repeat (first | exact k1 | exact k2 | exact k3 | exact k4 | refine List.Mem.tail _ ?_)) ?_)); exact fun p hp => nomatch hp
    rintro fl s' ⟨rfl, h', tk', m', rfl, F', G'⟩
    exact ⟨rfl, h', tk', m', rfl, F', G'⟩
end Mine

end
section
open PySem PySem.W PySem.Spec PySem.Calls PyProof.Rows
namespace Mine
noncomputable def maxB (gs : List Int) (M : Int) : Bool := !(gs.all fun a => decide (a ≤ M)) || (decide ((gs.map fun d => (2 : Int) ^ (M - d).toNat).sum = 2 ^ M.toNat) && (decide (0 ≤ M) && (decide (M ≤ 4) && gs.all fun a => decide (0 ≤ a))))
theorem max_all : ∀ n : Nat, n < 6 → ∀ gs ∈ gsOf n, gs.all (maxB gs) = true := by decide +kernel
theorem gs_max (n : Nat) (hn : n < 6) (gs : List Int) (hg : gs ∈ gsOf n) (M : Int) (hM : M ∈ gs) (hl : ∀ a ∈ gs, a ≤ M) : (gs.map fun d => (2 : Int) ^ (M - d).toNat).sum = 2 ^ M.toNat ∧ 0 ≤ M ∧ M ≤ 4 ∧ ∀ a ∈ gs, 0 ≤ a := by
  have h := List.all_eq_true.mp (max_all n hn gs hg) M hM
  unfold maxB at h
  have hl' : (gs.all fun a => decide (a ≤ M)) = true := List.all_eq_true.mpr fun a ha => decide_eq_true (hl a ha)
  rw [hl', Bool.not_true, Bool.false_or, Bool.and_eq_true, Bool.and_eq_true, Bool.and_eq_true] at h
  exact ⟨of_decide_eq_true h.1, of_decide_eq_true h.2.1, of_decide_eq_true h.2.2.1, fun a ha => of_decide_eq_true (List.all_eq_true.mp h.2.2.2 a ha)⟩
theorem bits_pow : ∀ M : Nat, M < 5 → bitsOf (Builtin.Int.intBits ((2 : Int) ^ M)) ((2 : Int) ^ M) = List.replicate M 0 ++ [1] := by decide +kernel
theorem ds_max {n : Nat} (hn : n < 6) {ds gs : List Int} (hg : gs ∈ gsOf n) (hp : ds.Perm gs) {M : Int} (h1 : M ∈ ds) (h2 : ∀ a, a ∈ ds → a ≤ M) :
    (ds.map fun d => (2 : Int) ^ (M - d).toNat).sum = 2 ^ M.toNat ∧ 0 ≤ M ∧ M ≤ 4 ∧ ∀ a ∈ ds, 0 ≤ a := by
  obtain ⟨a, b, c, d⟩ := gs_max n hn gs hg M (hp.mem_iff.mp h1) fun a ha => h2 a (hp.mem_iff.mpr ha)
  exact ⟨(perm_sum (hp.map _)).trans a, b, c, fun x hx => d x (hp.mem_iff.mp hx)⟩
end Mine

end
section
open PySem PySem.W PySem.Spec PySem.Calls PyProof.Rows
namespace Mine
local macro_rules | `(tactic| walk_at "call ref") => `(tactic| k_extra "my call")
local macro_rules | `(tactic| walk_at "eval ListComp") => `(tactic| k_extra "my comp")
local macro_rules | `(tactic| walk_at "binaryOp Mult ref int") => `(tactic| k_extra "my mul")
local macro_rules | `(tactic| walk_at "binaryOp Mult int int") => `(tactic| k_extra "my times")
local macro_rules | `(tactic| walk_at "binaryOp Add ref ref") => `(tactic| k_extra "my add")
local macro_rules | `(tactic| walk_at "binaryOp Pow int int") => `(tactic| k_extra "my pow")
local macro_rules | `(tactic| walk_at "subscriptTail") => `(tactic| k_extra "my item")
local macro_rules | `(tactic| walk_at "call builtin:len") => `(tactic| k_extra "my len")
local macro_rules | `(tactic| walk_at "call builtin:sum") => `(tactic| k_extra "my sum")
local macro_rules | `(tactic| walk_at "call builtin:max") => `(tactic| k_extra "my max")
local macro_rules | `(tactic| walk_at "compareOp NotEq ref ref") => `(tactic| k_extra "my ne")
theorem lawB (w : World) {p : Program} {loose : List Str} {mean : ExcName → Option Value} {mg mb : Str → Option Value} {dp un : Nat} {gd : Option (List Code)} {a : Addr} {ccd : Value} {outer : List Env}
    {A₀ : Around} {base h₀ : Heap} {L : Addr} {m : Str → Option Value} {s : Shared} {c : Int} {tc : Tok}
    (B : Below A₀ base outer h₀) (F : Fr h₀ L s.heap (fun z => if z = Str.ofString "cost" then some (.int c tc) else m z)) (X : (hd1.heap_39 w.params).In h₀) (T : Top p loose mean mg mb h₀) {body : List Stmt} {cs : Scope} (hw : bodyOf (hd1.heap_39 w.params) 68 = some (body, cs))
    (C : CodeHd base 38 34) (C' : CodeHd base 45 41)
    {W Dd : Addr} {oWo oDe oDp oWt : Obj} {vsW vsD : List Value} {nW nD : Nat} {ns ds : List Int} (h1 : 1 ≤ ns.length) (h5 : ns.length ≤ 5) (hok : HufOk ns ds c)
    (N : News h₀ L s.heap [(Dd, listOf vsD.toArray nD), (W, listOf vsW.toArray nW), (L + 4, oWo), (L + 3, oDe), (L + 2, oDp), (L + 1, oWt), (34, tabObj #[]), (41, tabObj #[])])
    (iW : IntsAre vsW ns) (iD : IntsAre vsD ds) (dWt : oWt.data = .cell (some (.ref W))) (dDp : oDp.data = .cell (some (.ref Dd))) (dWo : ∃ v, oWo.data = .cell v) (dDe : ∃ v, oDe.data = .cell v)
    (o1 : @LT.lt Nat _ 41 L) (oW : @LT.lt Nat _ (L + 4) W) (oD : @LT.lt Nat _ (L + 4) Dd)
    (hd : dp + 300 < recursionLimit) (hu : un + 6000 < cLine) :
    wpAny (model PySem.Challenge.rw_ia0004_01.row.prog w) (ktrTop dp un gd (Str.ofString "law") cs L a ccd (cellsFrom (L + 1) cs.names []) outer) (execs (body.drop 2) (envX (Str.ofString "law") cs L a ccd (cellsFrom (L + 1) cs.names [])))
      (LawEnd h₀ L [(45, 41), (38, 34)] s) (fun _ _ => False) s := by
  obtain ⟨vWo, dWo⟩ := dWo
  obtain ⟨vDe, dDe⟩ := dDe
  obtain ⟨gs, hgs, hds⟩ := hok.gs
  have hdl := hok.len
  have hcost := hok.hcost
  have hmono := hok.mono
  have hlW : vsW.length = ns.length := iW.length
  have hlD : vsD.length = ds.length := iD.length
  have h5' : ns.length ≤ 5 := h5
  have hX : ∀ {s' : Shared} {m' : Str → Option Value} {c8 : Addr} {oDe' oc8 : Obj} {vs8 : Array Value} {t8 : Tok}, Fr h₀ L s'.heap (fun z => if z = Str.ofString "cost" then some (.int c tc) else m' z) → News h₀ L s'.heap [(Dd, listOf vsD.toArray nD), (W, listOf vsW.toArray nW), (L + 4, oWo), (L + 3, oDe'), (L + 2, oDp), (L + 1, oWt), (34, tabObj #[rawInt 32, rawInt 4, .ref c8]), (c8, oc8), (41, tabObj #[])] → oc8.data = .fields vs8 → vs8[1]? = some (.str i2dQual t8) → @LT.lt Nat _ (L + 4) c8 → wpAny (model PySem.Challenge.rw_ia0004_01.row.prog w) (ktrTop dp un gd (Str.ofString "law") cs L a ccd (cellsFrom (L + 1) cs.names []) outer) (execs (body.drop 6) (envX (Str.ofString "law") cs L a ccd (cellsFrom (L + 1) cs.names [])))
      (LawEnd h₀ L [(45, 41), (38, 34)] s') (fun _ _ => False) s' := fun F' N' e8 w8 o8 => lawX w B F' X T hw C C' h1 h5 hgs hds hdl N' iW iD dWt dDp ⟨_, dWo⟩ e8 w8 o1 (by omega) (by omega) (by omega) oW oD o8 hok.best hd hu
  have hmax := fun (M : Int) (a : M ∈ ds) b => ds_max (n := ns.length) (by omega) hgs hds a b
  clear hok
  cases hw
  revert X
  k_fill
  intro X
  k_with_none
  w_top off
  show wpAny _ _ _ _ _ { s with heap := s.heap, toks := s.toks }
  dsimp only [List.drop] at hX ⊢
  k_fold
  k_with "my max" => ((k_dflt (refine' kso_max ?sF ?sN ?sl iD ?sz rfl ?_; (case sF => k_asm); (case sN => k_asm); (case sl => exact news_list (by k_asm) (by k_mem)); (case sz => omega))); intro h4 M4 t4 tk4 F4 N4 hM1 hM2; (obtain ⟨g1, g2, g3, g4⟩ := hmax M4 hM1 hM2); (obtain ⟨MN, rfl⟩ : ∃ MN : Nat, M4 = (MN : Int) := ⟨M4.toNat, by omega⟩); rw [Int.toNat_natCast] at g1; (try k_sweep))
  k_with "my comp" => (k_dflt (refine ListComp_1 (by k_asm) (by with_unfolding_all rfl) (by decide) (by rfl) (by decide) (by rfl) ?_))
  repeat' (first | ((fail_if_success (with_reducible show Src1 _ _ _ _ _ _ _ _ _ _ _ _ _ _)); first | (k_unfold; (try dsimp only)) | walk1 | (dsimp only; walk1)))
  (rename Fr _ _ _ _ => F1)
  (rename News _ _ _ _ => N1)
  (rename (Obj.data _ = Data.cell (some (Value.int (MN : Int) _))) => dDe9')
  obtain ⟨oDe9, tM, dDe9, N2⟩ : ∃ (oDe9 : Obj) (tM : Tok), oDe9.data = Data.cell (some (Value.int (MN : Int) tM)) ∧ News h₀ L _ ((Dd, listOf vsD.toArray nD) :: (W, listOf vsW.toArray nW) :: (L + 4, oWo) :: (L + 3, oDe9) :: (L + 2, oDp) :: (L + 1, oWt) :: (34, tabObj #[]) :: (41, tabObj #[]) :: []) := ⟨_, _, dDe9', news_sub N1 (by lcg_sub)⟩
  clear N1 dDe9'
  refine Src1.list (its := vsD.toArray) (fun i ys nw => nw = (Dd, listOf vsD.toArray nD) :: (W, listOf vsW.toArray nW) :: (L + 4, oWo) :: (L + 3, oDe9) :: (L + 2, oDp) :: (L + 1, oWt) :: (34, tabObj #[]) :: (41, tabObj #[]) :: [] ∧ IntsAre ys ((ds.take i).map fun d => (2 : Int) ^ ((MN : Int) - d).toNat)) rfl F1 N2 ?src ?sz ⟨rfl, .nil⟩ fun g => ⟨?step, ?fin⟩
  case src => rintro i ys nw ⟨rfl, _⟩; exact .inr ⟨_, .head _, rfl, nD, rfl⟩
  case sz => simp; omega
  case step =>
    rintro i v J oJ oC C D ys m₂ nw h5 tk5 E5 hi hv hC hx F5 N5 off5 ne5 ⟨rfl, iY⟩
    obtain ⟨d, td', hd', rfl⟩ := ints_at iD (i := i) (v := v) (by simpa using hv)
    have hd1 := g4 d (List.mem_of_getElem? hd')
    have hd2 := hM2 d (List.mem_of_getElem? hd')
    clear F1 N2
    k_with "my pow" => (k_dflt (refine pow_nat (k := ((MN : Int) - d).toNat) (by omega) (by omega) ?_))
    k_steps
    (rename Fr _ _ _ _ => F6)
    (rename News _ _ _ _ => N6)
    refine ⟨_, _, _, rfl, F6, N6, off5, rfl, ?_⟩
    have e : ((2 ^ ((MN : Int) - d).toNat : Nat) : Int) = (2 : Int) ^ ((MN : Int) - d).toNat := by simp
    rw [List.take_add_one, hd', List.map_append]
    show IntsAre _ (_ ++ [(2 : Int) ^ ((MN : Int) - d).toNat])
    rw [← e]
    exact ints_snoc' iY
  case fin =>
    rintro ys nw ⟨rfl, iY⟩
    unfold FinC
    intro D h7 tk7 F7 N7 off7 hLD
    rw [show vsD.toArray.size = ds.length by simp [hlD], List.take_length] at iY
    have hMN : MN < 5 := by omega
    have hbp := bits_pow MN hMN
    have hp2 : (0 : Int) ≤ 2 ^ MN ∧ (2 : Int) ^ MN < 64 := (show ∀ M : Nat, M < 5 → (0 : Int) ≤ 2 ^ M ∧ (2 : Int) ^ M < 64 by decide) MN hMN
    clear F1 N2
    (try dsimp only)
    k_with "my sum" => ((k_dflt (refine' sumK rfl ?sF ?sN ?sl iY ?_; (case sF => k_asm); (case sN => k_asm); (case sl => exact news_seq (by k_asm) (by k_mem)))); intro h4 tk4 t4 F4 N4; rw [g1]; (try k_sweep))
    k_with "my mul" => ((k_dflt (refine' mul_ints (j := MN) ?mF ?mN ?mm ?mx ?mj ?_; (case mF => k_asm); (case mN => k_asm); (case mm => k_mem); (case mx => exact rfl); (case mj => omega))); intro D7 h7 F7 N7 l7 i7; (try k_lt l7); (try k_sweep))
    k_with "my call" => (refine' i2dNew w (C := by k_asm) (x := (2 : Int) ^ MN) ?B ?F ?X ?T ?hk ?N ?x0 ?x1 ?hd ?hu ?_; (case B => k_asm); (case F => k_asm); (case X => k_asm); (case T => k_asm); (case hk => exact rfl); (case hd => ktr_room); (case hu => ktr_units); (case N => exact after_one (o' := default) (by k_asm) (by k_upd)); (case x0 => exact hp2.1); (case x1 => exact hp2.2); (intro l6 vs6 n6 h6 tk6 c8 e6 g6 z6 cn6 ne6 zl6 gl6 i6; (try dsimp only at e6 z6 zl6); (refine' after_newl ?aF ?aN ?aU e6 g6 z6 cn6 zl6 gl6 ?_; (case aF => k_asm); (case aN => k_asm); (case aU => k_upd); intro oc8 vs8 t8 d8 v8 F6 N6 lc6 ll6; (try k_lt lc6); (try k_lt ll6)); (try dsimp only); (try k_sweep); (try k_fold)))
    k_with "my add" => ((k_dflt (refine' kmk_add_ints ?aF ?aN ?aa ?ab i7 (IntsAre.cons _ _ .nil) ?_ ?az; (case aF => k_asm); (case aN => k_asm); (case aa => exact news_list (by k_asm) (by k_mem)); (case ab => exact news_list (by k_asm) (by k_mem)); (case az => (rw [sizeLine_eq, List.length_replicate]; simp; omega)))); intro Da usa ha Fa Na la ia; (try k_lt la); (try k_sweep))
    k_with "my ne" => (k_dflt (refine' ne_ints_false hbp ?ea i6 ?eb ia ?eu ?_; (case ea => exact news_list (by k_asm) (by k_mem)); (case eb => exact news_list (by k_asm) (by k_mem)); (case eu => ktr_units)))
    k_with "my len" => (k_dflt (refine' len_is (k := ns.length) ?lN ?lm ?lk ?lz ?_; (case lN => k_asm); (case lm => k_mem); (case lk => (simp [hlW])); (case lz => omega)))
    repeat' (first | ((fail_if_success (with_reducible show Src1 _ _ _ _ _ _ _ _ _ _ _ _ _ _)); first | (k_unfold; (try dsimp only)) | walk1 | (dsimp only; walk1)))
    (rename Fr _ _ _ _ => F1)
    (rename News _ _ _ _ => N1)
    (rename IsRange _ _ _ _ _ _ _ _ => hr1)
    have o8 : @LT.lt Nat _ (L + 4) c8 := by omega
    have N2 : News h₀ L _ ((Dd, listOf vsD.toArray nD) :: (W, listOf vsW.toArray nW) :: (L + 4, oWo) :: (L + 3, oDe9) :: (L + 2, oDp) :: (L + 1, oWt) :: (34, tabObj #[rawInt 32, rawInt 4, .ref c8]) :: (c8, oc8) :: (41, tabObj #[]) :: []) := news_sub N1 (by lcg_sub)
    clear N1 lc6 ll6
    have hdk : ∀ k : Nat, 0 ≤ ds.getD k 0 ∧ ds.getD k 0 ≤ 4 := by
      intro k
      by_cases hk : k < ds.length
      · rw [List.getD_eq_getElem?_getD, List.getElem?_eq_getElem hk]
        have q1 := g4 _ (List.getElem_mem hk)
        have q2 := hM2 _ (List.getElem_mem hk)
        exact ⟨q1, by show ds[k] ≤ 4; omega⟩
      · rw [List.getD_eq_getElem?_getD, List.getElem?_eq_none (by omega)]; decide
    refine Src1.range (n := ns.length) (fun i ys nw => nw = (Dd, listOf vsD.toArray nD) :: (W, listOf vsW.toArray nW) :: (L + 4, oWo) :: (L + 3, oDe9) :: (L + 2, oDp) :: (L + 1, oWt) :: (34, tabObj #[rawInt 32, rawInt 4, .ref c8]) :: (c8, oc8) :: (41, tabObj #[]) :: [] ∧ IntsAre ys ((List.range i).map fun k => ns.getD k 0 * ds.getD k 0)) rfl F1 N2 hr1 (range_small h5') range_size (by omega) ⟨rfl, .nil⟩ fun g => ⟨?step3, ?fin3⟩
    case step3 =>
      rintro i2 v2 J oJ C2 oC2 D2 ys2 m2 nw2 h6 tk6 E6 hi2 ⟨t2, rfl⟩ hC2 hx2 F6 N6 off6 ne6 ⟨rfl, iY2⟩
      rw [Int.zero_add] at hx2
      clear F1 N2 hr1
      k_with "my item" => first
        | (k_dflt (refine' ksa_sub ?N ?m iW ?h0 ?h1 ?hf ?_ ?hs; (case N => k_asm); (case m => k_mem); (case h0 => omega); (case h1 => omega); (case hf => omega); (case hs => with_unfolding_all rfl)); intro t7)
        | (k_dflt (refine' ksa_sub ?N ?m iD ?h0 ?h1 ?hf ?_ ?hs; (case N => k_asm); (case m => k_mem); (case h0 => omega); (case h1 => omega); (case hf => omega); (case hs => with_unfolding_all rfl)); intro t7)
      k_with "my times" => (k_dflt (refine mul_int (hm := IntMulOk.of_right (intBits_le_64 (by have := hdk i2; simp only [Int.toNat_natCast]; omega) (by have := hdk i2; simp only [Int.toNat_natCast]; omega))) ?_))
      k_steps
      (rename Fr _ _ _ _ => F8)
      (rename News _ _ _ _ => N8)
      refine ⟨_, _, _, rfl, F8, N8, off6, rfl, ?_⟩
      rw [dot_take]
      exact ints_snoc' iY2
    case fin3 =>
      rintro ys3 nw3 ⟨rfl, iY3⟩
      unfold FinC
      intro D3 h8 tk8 F8 N8 off8 hLD8
      clear F1 N2 hr1
      (try dsimp only)
      k_with "my sum" => ((k_dflt (refine' sumK rfl ?sF ?sN ?sl iY3 ?_; (case sF => k_asm); (case sN => k_asm); (case sl => exact news_seq (by k_asm) (by k_mem)))); intro h9 tk9 t9 F9 N9; (try k_sweep))
      k_with "my comp" => (k_dflt (refine ListComp_2 (F₀ := by k_asm) (by with_unfolding_all rfl) (by decide) (by rfl) (by decide) (by rfl) ?_))
      repeat' (first | ((fail_if_success (with_reducible show Src2 _ _ _ _ _ _ _ _ _ _ _ _ _ _ _)); first | (k_unfold; (try dsimp only)) | walk1 | (dsimp only; walk1)))
      · exact absurd hcost (by assumption)
      (rename Fr _ _ _ _ => F1)
      (rename News _ _ _ _ => N1)
      (rename IsRange _ _ _ _ _ _ _ _ => hr1)
      have N2 : News h₀ L _ ((Dd, listOf vsD.toArray nD) :: (W, listOf vsW.toArray nW) :: (L + 4, oWo) :: (L + 3, oDe9) :: (L + 2, oDp) :: (L + 1, oWt) :: (34, tabObj #[rawInt 32, rawInt 4, .ref c8]) :: (c8, oc8) :: (41, tabObj #[]) :: []) := news_sub N1 (by lcg_sub)
      clear N1
      refine Src2.range (n := ns.length) (fun i ys nw => nw = (Dd, listOf vsD.toArray nD) :: (W, listOf vsW.toArray nW) :: (L + 4, oWo) :: (L + 3, oDe9) :: (L + 2, oDp) :: (L + 1, oWt) :: (34, tabObj #[rawInt 32, rawInt 4, .ref c8]) :: (c8, oc8) :: (41, tabObj #[]) :: [] ∧ ys = []) rfl F1 N2 hr1 (range_small h5') range_size ⟨rfl, rfl⟩ fun g => ⟨?step5, ?fin5⟩
      case step5 =>
        rintro i v I oI oC C D ys m₂ nw h tk E' hi ⟨tv, rfl⟩ hC hx Fk Nk offk ⟨nIC, nID, nCD⟩ ⟨rfl, rfl⟩
        rw [Int.zero_add] at hx
        clear F1 N2 hr1
        repeat' (first | ((fail_if_success (with_reducible show wpAny _ _ (pyIter _) _ _ _)); first | (k_unfold; (try dsimp only)) | walk1 | (dsimp only; walk1)))
        (rename Fr _ _ _ _ => F2)
        (rename News _ _ _ _ => N2)
        (rename IsRange _ _ _ _ _ _ _ _ => hr2)
        refine inner_range (n := ns.length) (ys := []) (fun j ys' nw => nw = (I, oI) :: (Dd, listOf vsD.toArray nD) :: (W, listOf vsW.toArray nW) :: (L + 4, oWo) :: (L + 3, oDe9) :: (L + 2, oDp) :: (L + 1, oWt) :: (34, tabObj #[rawInt 32, rawInt 4, .ref c8]) :: (c8, oc8) :: (41, tabObj #[]) :: [] ∧ ys' = []) rfl hr2 (range_small h5') range_size ?sz rfl rfl F2 (news := (I, oI) :: (Dd, listOf vsD.toArray nD) :: (W, listOf vsW.toArray nW) :: (L + 4, oWo) :: (L + 3, oDe9) :: (L + 2, oDp) :: (L + 1, oWt) :: (34, tabObj #[rawInt 32, rawInt 4, .ref c8]) :: (c8, oc8) :: (41, tabObj #[]) :: []) ?N hC nCD ?off ⟨rfl, rfl⟩ ?step6 ?fin6
        case sz => rintro j ys nw ⟨_, rfl⟩; exact Nat.zero_le _
        case N =>
          refine news_sub N2 fun q hq => ?_
          revert q; (repeat' (first | refine sub_cons (by k_mem) ?_ | fail)); first | (intro p hp; (repeat (first | exact hp | refine List.Mem.tail _ ?_)); done) | exact fun p hp => nomatch hp
        case off =>
          intro q hq hm
          rcases List.mem_cons.mp hq with rfl | hq
          · simp only [List.mem_cons, List.not_mem_nil, or_false] at hm
            rcases hm with e | e
            · exact nIC e
            · exact nID e
          · exact offk q hq (.tail _ hm)
        case fin6 =>
          rintro oC' m₃ ys' nw h5 tk5 ⟨rfl, rfl⟩ hC5 hm5 F5 N5 off5
          refine ⟨⟨_, rfl⟩, h5, tk5, oC', m₃, [], (Dd, listOf vsD.toArray nD) :: (W, listOf vsW.toArray nW) :: (L + 4, oWo) :: (L + 3, oDe9) :: (L + 2, oDp) :: (L + 1, oWt) :: (34, tabObj #[rawInt 32, rawInt 4, .ref c8]) :: (c8, oc8) :: (41, tabObj #[]) :: [], rfl, F5, news_sub N5 ?_, hC5, offk, rfl, rfl⟩
          intro q hq
          revert q; (repeat' (first | refine sub_cons (by k_mem) ?_ | fail)); first | (intro p hp; (repeat (first | exact hp | refine List.Mem.tail _ ?_)); done) | exact fun p hp => nomatch hp
        case step6 =>
          rintro J j v oJ oC' m₃ ys' nw h5 tk5 E5 hj ⟨tv2, rfl⟩ hC5 hy5 hm5 F5 N5 off5 ⟨nJC, nJD⟩ ⟨rfl, rfl⟩
          rw [Int.zero_add] at hy5
          have hx5 : m₃ (Str.ofString "j") = some (.int (i : Int) tv) := (hm5 _ (by decide)).trans hx
          have hmo := hmono i j hi hj
          clear F2 N2 hr2
          refine wpAny_tests_one ?_
          k_with "my item" => first
            | (k_dflt (refine' ksa_sub ?N ?m iW ?h0 ?h1 ?hf ?_ ?hs; (case N => k_asm); (case m => k_mem); (case h0 => omega); (case h1 => omega); (case hf => omega); (case hs => with_unfolding_all rfl)); intro t7)
            | (k_dflt (refine' ksa_sub ?N ?m iD ?h0 ?h1 ?hf ?_ ?hs; (case N => k_asm); (case m => k_mem); (case h0 => omega); (case h1 => omega); (case hf => omega); (case hs => with_unfolding_all rfl)); intro t7)
          k_steps
          all_goals first
            | ((rename Fr _ _ _ _ => F6); (rename News _ _ _ _ => N6); exact ⟨_, _, _, rfl, F6, N6, off5, rfl, by first | trivial | rfl⟩)
            | (simp only [Int.toNat_natCast] at *; exact absurd (by assumption) (hmo (by assumption)))
      case fin5 =>
        rintro ys nw ⟨rfl, rfl⟩
        unfold FinC
        intro D6 h10 tk10 F10 N10 off10 hLD10
        clear F1 N2 hr1
        (try dsimp only)
        k_with "my ne" => (k_dflt (refine' ne_ints_false (ns := []) (ms := []) rfl ?ea .nil ?eb .nil ?eu ?_; (case ea => exact news_seq (by k_asm) (by k_mem)); (case eb => exact news_seq (by k_asm) (by k_mem)); (case eu => ktr_units)))
        repeat' (first | ((fail_if_success (with_reducible show wpAny _ _ (execs (PySem.Stmt.Assign _ _ _ :: _) _) _ _ _)); first | (k_unfold; (try dsimp only)) | walk1 | (dsimp only; walk1)))
        (rename Fr _ _ _ _ => F6)
        (rename News _ _ _ _ => N6)
        have F7 := fr_at (x := Str.ofString "cost") (v := .int c tc) F6 (by rfl)
        dsimp only
        refine wpAny_mono (hX (c8 := c8) F7 (news_sub N6 (by lcg_sub)) d8 v8 o8) ?_ (fun _ _ q => q.elim)
        rintro fl s' ⟨rfl, h', tk', m', rfl, F', G'⟩
        exact ⟨rfl, h', tk', m', rfl, F', G'⟩
end Mine

end
section
open PySem PySem.W PySem.Spec PySem.Calls PyProof.Rows
namespace Mine
local macro_rules | `(tactic| walk_at "call ref") => `(tactic| k_extra "my call")
local macro_rules | `(tactic| walk_at "eval ListComp") => `(tactic| k_extra "my comp")
local macro_rules | `(tactic| walk_at "binaryOp Add ref ref") => `(tactic| k_extra "my add")
local macro_rules | `(tactic| walk_at "subscriptTail") => `(tactic| k_extra "my slice")
local macro_rules | `(tactic| walk_at "call builtin:len") => `(tactic| k_extra "my len")
noncomputable def wOf (ns0 : List Int) : List Int := ((ns0 ++ [0]).take (max 1 (min 5 ns0.length))).map fun (x : Int) => 1 + x.fmod 20
theorem wOf_len (ns0 : List Int) : 1 ≤ (wOf ns0).length ∧ (wOf ns0).length ≤ 5 := by
  unfold wOf
  rw [List.length_map, List.length_take, List.length_append, List.length_singleton]
  exact ⟨Nat.le_min.mpr ⟨Nat.le_max_left _ _, Nat.le_add_left 1 _⟩, Nat.le_trans (Nat.min_le_left _ _) (Nat.max_le.mpr ⟨by decide, Nat.min_le_left _ _⟩)⟩
theorem wOf_pos (ns0 : List Int) : ∀ w ∈ wOf ns0, 1 ≤ w := by
  intro w hw
  obtain ⟨x, _, rfl⟩ := List.mem_map.mp hw
  have := Int.fmod_nonneg_of_pos x (b := 20) (by decide)
  omega
theorem lawA (w : World) {p : Program} {loose : List Str} {mean : ExcName → Option Value} {mg mb : Str → Option Value} {dp un : Nat} {gd : Option (List Code)} {a : Addr} {ccd : Value} {outer : List Env}
    {A₀ : Around} {base h₀ : Heap} {L : Addr} {m : Str → Option Value} {s : Shared} {l : Addr}
    (B : Below A₀ base outer h₀) (F : Fr h₀ L s.heap (fun z => if z = Str.ofString "script" then some (.ref l) else m z)) (X : (hd1.heap_39 w.params).In h₀) (T : Top p loose mean mg mb h₀) {body : List Stmt} {cs : Scope} (hw : bodyOf (hd1.heap_39 w.params) 68 = some (body, cs))
    (C : CodeHd base 38 34) (C' : CodeHd base 45 41)
    {vs : List Value} {ns0 : List Int} (hl : h₀.IsList l vs.toArray) (hi : IntsAre vs ns0) (hns : ns0.length ≤ 63)
    {oWo oDe oDp oWt : Obj}
    (N : News h₀ L s.heap [(L + 4, oWo), (L + 3, oDe), (L + 2, oDp), (L + 1, oWt), (34, tabObj #[]), (41, tabObj #[])])
    (dWo : ∃ v, oWo.data = .cell v) (dDe : ∃ v, oDe.data = .cell v) (dDp : ∃ v, oDp.data = .cell v) (dWt : ∃ v, oWt.data = .cell v)
    (o1 : @LT.lt Nat _ 41 L)
    (hd : dp + 400 < recursionLimit) (hu : un + 7000 < cLine) :
    wpAny (model PySem.Challenge.rw_ia0004_01.row.prog w) (ktrTop dp un gd (Str.ofString "law") cs L a ccd (cellsFrom (L + 1) cs.names []) outer) (execs body (envX (Str.ofString "law") cs L a ccd (cellsFrom (L + 1) cs.names [])))
      (LawEnd h₀ L [(45, 41), (38, 34)] s) (fun _ _ => False) s := by
  obtain ⟨w1, w5⟩ := wOf_len ns0
  have wp := wOf_pos ns0
  have hok := huf_good w1 w5 wp
  obtain ⟨vDp, dDp⟩ := dDp
  obtain ⟨vWt, dWt⟩ := dWt
  have hlv : vs.length = ns0.length := hi.length
  have hB : ∀ {s' : Shared} {m' : Str → Option Value} {W Dd : Addr} {oDp' oWt' : Obj} {vsW vsD : List Value} {nW nD : Nat} {tc : Tok}, Fr h₀ L s'.heap (fun z => if z = Str.ofString "cost" then some (.int (huf (wOf ns0)).2 tc) else m' z) → News h₀ L s'.heap [(Dd, listOf vsD.toArray nD), (W, listOf vsW.toArray nW), (L + 4, oWo), (L + 3, oDe), (L + 2, oDp'), (L + 1, oWt'), (34, tabObj #[]), (41, tabObj #[])] → IntsAre vsW (wOf ns0) → IntsAre vsD (huf (wOf ns0)).1 → oWt'.data = .cell (some (.ref W)) → oDp'.data = .cell (some (.ref Dd)) → @LT.lt Nat _ (L + 4) W → @LT.lt Nat _ (L + 4) Dd → wpAny (model PySem.Challenge.rw_ia0004_01.row.prog w) (ktrTop dp un gd (Str.ofString "law") cs L a ccd (cellsFrom (L + 1) cs.names []) outer) (execs (body.drop 2) (envX (Str.ofString "law") cs L a ccd (cellsFrom (L + 1) cs.names [])))
      (LawEnd h₀ L [(45, 41), (38, 34)] s') (fun _ _ => False) s' := fun F' N' iW iD dW dD oW oD => lawB w B F' X T hw C C' w1 w5 hok N' iW iD dW dD dWo dDe o1 oW oD (by omega) (by omega)
  clear hok
  cases hw
  revert X
  k_fill
  intro X
  k_with_none
  w_top off
  show wpAny _ _ _ _ _ { s with heap := s.heap, toks := s.toks }
  dsimp only [List.drop] at hB ⊢
  k_fold
  k_with "my len" => (k_dflt (refine' len_base ?lF hl ?lz ?_; (case lF => k_asm); (case lz => omega)))
  k_with "my add" => ((k_dflt (refine' kmk_add_ints ?aF ?aN ?aa ?ab hi (IntsAre.cons _ _ .nil) ?_ ?az; (case aF => k_asm); (case aN => k_asm); (case aa => exact hl.at fun o e => Fr.keep (by k_asm) _ _ e); (case ab => exact news_list (by k_asm) (by k_mem)); (case az => (rw [sizeLine_eq]; simp; omega)))); intro D0 us0 h0 F0 N0 l0 i0; (try k_lt l0); (try k_sweep))
  k_with "my slice" => ((k_dflt (refine' slice_to (k := max 1 (min 5 ns0.length)) ?sx ?sF ?sN ?sl i0 ?sz ?_; (case sF => k_asm); (case sN => k_asm); (case sl => exact news_list (by k_asm) (by k_mem)); (case sx => (rw [hlv]; exact clamp_five _)); (case sz => (rw [i0.length, List.length_append]; simp; omega)))); intro De wse he Fe Ne le ie; (try k_lt le); (try k_sweep))
  k_with "my comp" => (k_dflt (refine ListComp_1 (by k_asm) (by with_unfolding_all rfl) (by decide) (by rfl) (by decide) (by rfl) ?_))
  repeat' (first | ((fail_if_success (with_reducible show Src1 _ _ _ _ _ _ _ _ _ _ _ _ _ _)); first | (k_unfold; (try dsimp only)) | walk1 | (dsimp only; walk1)))
  (rename Fr _ _ _ _ => F1)
  (rename News _ _ _ _ => N1)
  generalize hsl : List.take (max 1 (min 5 ns0.length)) (ns0 ++ [0]) = sl at *
  have hwO : wOf ns0 = sl.map fun (x : Int) => 1 + x.fmod 20 := by rw [← hsl]; rfl
  have hsl5 : sl.length ≤ 5 := by rw [hwO, List.length_map] at w5; exact w5
  have hwl : wse.length = sl.length := ie.length
  have N2 : News h₀ L _ ((De, listOf wse.toArray 0) :: (L + 4, oWo) :: (L + 3, oDe) :: (L + 2, oDp) :: (L + 1, oWt) :: (34, tabObj #[]) :: (41, tabObj #[]) :: []) := news_sub N1 (by lcg_sub)
  clear N1
  refine Src1.list (its := wse.toArray) (fun i ys nw => nw = (De, listOf wse.toArray 0) :: (L + 4, oWo) :: (L + 3, oDe) :: (L + 2, oDp) :: (L + 1, oWt) :: (34, tabObj #[]) :: (41, tabObj #[]) :: [] ∧ IntsAre ys ((sl.take i).map fun (x : Int) => 1 + x.fmod 20)) rfl F1 N2 ?src ?sz ⟨rfl, .nil⟩ fun g => ⟨?step, ?fin⟩
  case src => rintro i ys nw ⟨rfl, _⟩; exact .inr ⟨_, .head _, rfl, 0, rfl⟩
  case sz => simp; omega
  case step =>
    rintro i v J oJ oC C D ys m₂ nw h5 tk5 E5 hi' hv hC hx F5 N5 off5 ne5 ⟨rfl, iY⟩
    obtain ⟨d, td', hd', rfl⟩ := ints_at ie (i := i) (v := v) (by simpa using hv)
    clear F1 N2
    k_steps
    (rename Fr _ _ _ _ => F6)
    (rename News _ _ _ _ => N6)
    refine ⟨_, _, _, rfl, F6, N6, off5, rfl, ?_⟩
    rw [List.take_add_one, hd', List.map_append]
    exact ints_snoc' iY
  case fin =>
    rintro ys nw ⟨rfl, iY⟩
    unfold FinC
    intro W h7 tk7 F7 N7 off7 hLD
    rw [show wse.toArray.size = sl.length by simp [hwl], List.take_length, ← hwO] at iY
    have oW : @LT.lt Nat _ (L + 4) W := by
      have q1 : @Ne Nat (L + 4) W := fun e => off7 (L + 4, oWo) (.tail _ (.head _)) (e ▸ .head _)
      have q2 : @Ne Nat (L + 3) W := fun e => off7 (L + 3, oDe) (.tail _ (.tail _ (.head _))) (e ▸ .head _)
      have q3 : @Ne Nat (L + 2) W := fun e => off7 (L + 2, oDp) (.tail _ (.tail _ (.tail _ (.head _)))) (e ▸ .head _)
      have q4 : @Ne Nat (L + 1) W := fun e => off7 (L + 1, oWt) (.tail _ (.tail _ (.tail _ (.tail _ (.head _))))) (e ▸ .head _)
      exact lt_four (by omega) q1 q2 q3 q4
    clear F1 N2
    (try dsimp only)
    k_with "my call" => (refine' lawDepths w (l := W) ?B ?F ?X ?T ?hk ?N iY wp w5 ?hd ?hu ?_; (case B => k_asm); (case F => k_asm); (case X => k_asm); (case T => k_asm); (case hk => exact rfl); (case hd => ktr_room); (case hu => ktr_units); (case N => exact news_sub (by k_asm) (by lcg_sub)); (intro T9 D9 t9 vsD nD h9 tk9 e9 zD lDT gT gD iD; (try dsimp only at e9 zD); (refine' after_tups (R := T9) (tl := [(D9, listOf vsD.toArray nD)]) ?aF ?aN e9 ?az gT ?at' ?_; (case aF => k_asm); (case aN => k_asm); (case az => exact Nat.le_trans zD (Nat.le_of_lt lDT)); (case at' => (intro p hp; rw [List.mem_singleton.mp hp]; exact ⟨gD, zD, Nat.ne_of_lt lDT⟩)); intro F9 N9 lR9 lt9; (have lD9 := lt9 _ (.head _)); (try k_lt lR9); (try k_lt lD9); (simp only [List.cons_append, List.nil_append] at N9)); (try dsimp only); (try k_sweep); (try k_fold)))
    repeat' (first | ((fail_if_success (with_reducible show wpAny _ _ (execs (PySem.Stmt.Assign [PySem.Expr.Name _ _] _ _ :: _) _) _ _ _)); first | (k_unfold; (try dsimp only)) | walk1 | (dsimp only; walk1)))
    (rename Fr _ _ _ _ => F6)
    (rename News _ _ _ _ => N6)
    (rename (Obj.data _ = Data.cell (some (Value.ref D9))) => dD9)
    (rename (Obj.data _ = Data.cell (some (Value.ref W))) => dW9)
    have F8 := fr_at (x := Str.ofString "cost") F6 (by rfl)
    refine wpAny_mono (hB F8 (news_sub N6 (by lcg_sub)) iY iD dW9 dD9 oW (lt9 _ (by k_mem) (L + 4, oWo) (by k_mem))) ?_ (fun _ _ q => q.elim)
    intro fl s' hq1
    refine shut fun hG => ?_
    obtain ⟨rfl, h', tk', m', rfl, F', G'⟩ := hq1
    refine hG ?_
    clear hG
    exact ⟨rfl, h', tk', m', rfl, F', G'⟩
end Mine

end
section
open PySem PySem.W PySem.Spec PySem.Calls PyProof.Rows
namespace Mine
theorem law1 : PySem.Challenge.rw_ia0004_01.Holds := hd1 (by
  k_with_none
  w_top off
  k_go0
  (rename Fr _ _ _ _ => F1)
  (rename News _ _ _ _ => N1)
  (rename Below _ _ _ _ => B1)
  (rename Frag.In _ _ => X1)
  (rename_i T1 _ _)
  refine' wpAny_mono (lawA (m := fun _ => none) _ ?B ?F ?X ?T ?hw ?C ?C' ?hl ?hi ?hns ?N ?dWo ?dDe ?dDp ?dWt ?o1 ?hd ?hu) ?_ ?_
  case B => k_asm
  case F => exact F1
  case X => exact X1
  case T => k_asm
  case hw => exact rfl
  case C => k_asm
  case C' => k_asm
  case hl => assumption
  case hi => assumption
  case hns => omega
  case N => exact news_sub N1 (by lcg_sub)
  case dWo => exact ⟨_, by assumption⟩
  case dDe => exact ⟨_, by assumption⟩
  case dDp => exact ⟨_, by assumption⟩
  case dWt => exact ⟨_, by assumption⟩
  case o1 => omega
  case hd => ktr_room
  case hu => ktr_units
  · intro fl s' hq1
    refine shut fun hG => ?_
    obtain ⟨rfl, h', tk', m', rfl, F8, G8⟩ := hq1
    refine hG ?_
    clear hG
    refine ⟨?_, G8⟩
    k_steps
  · exact fun _ _ q => q.elim)
end Mine

end
theorem PySem.Challenge.cw_ia0004_01_holds : PySem.Challenge.rw_ia0004_01.Holds := by
  exact Mine.law1
