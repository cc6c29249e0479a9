import PyProof.Rows.All
import Wide.All
import OpenK.AllK
import Wide.FinOn
import PySem.Challenge.RW_ia0004_02
set_option Elab.async false
set_option maxRecDepth 100000
set_option maxHeartbeats 8000000
section
open PySem PySem.W PyProof.Rows
namespace Mine
open_top hd2 for PySem.Challenge.rw_ia0004_02
end Mine

end
section
open PySem PySem.W PySem.Spec PySem.Calls PyProof.Rows
namespace Mine

def Done (g : Heap) (s : Shared) (post : Value → Heap → Prop) (v : Value) (s' : Shared) : Prop :=
  ∃ h' tk, s' = { s with heap := h', toks := tk } ∧ (∀ b o, g.get? b = some o → h'.get? b = some o) ∧ post v h'

theorem Done.mk' {g h' : Heap} {s : Shared} {post : Value → Heap → Prop} {v : Value} {L : Addr} {m : Str → Option Value} {tk : Nat}
    (F : Fr g L h' m) (hp : post v h') : Done g s post v { s with heap := h', toks := tk } := ⟨h', tk, rfl, F.keep, hp⟩

section
variable {prog : Program} {w : World} {A₀ A : Around} {s : Shared} {base h₀ : Heap} {outer : List Env} {L : Addr} {m : Str → Option Value} {env : Env} {mu : List (Addr × Obj)}
  {name qual : Str} {params : Arguments} {body : List Stmt} {scope : Scope} {cl : List (Str × Addr)} {dV kV doc pm cdv ct : Value} {an : Option Addr} {fo : Obj} {f : Addr} {args : List Value} {binds : List (Str × Value)}
  {Q E : Value → Shared → Prop} {post : Value → Heap → Prop}

theorem ground (B : Below A₀ base outer h₀) (F : Fr h₀ L s.heap m) (N : News h₀ L s.heap mu) (hA : A.frames = some (env :: outer)) (hf : env.frame = some L) (hke : env.scope.kind = .function) :
    Below A base (env :: outer) (hideAll s.heap (mu.map (·.1))) ∧ h₀.StaysIn (hideAll s.heap (mu.map (·.1))) := by
  obtain ⟨_, b, c, _⟩ := groundX (R := fun _ _ => True) B F N hA hf hke
  exact ⟨b, c⟩

theorem con_plain (B : Below A₀ base outer h₀) (F : Fr h₀ L s.heap m) (N : News h₀ L s.heap mu) (hlim : h₀.NoLimit) (hA : A.frames = some (env :: outer)) (hf : env.frame = some L) (hke : env.scope.kind = .function)
    (ho : s.heap.get? f = some fo) (hd : fo.data = .func (fnX name qual params body scope cl dV kV doc pm an cdv ct)) (hcd : s.heap.CodeRec cdv qual) (hroom : A.depth < recursionLimit)
    (hbind : BindsTo s (fnX name qual params body scope cl dV kV doc pm an cdv ct) ⟨args, []⟩ binds) (hloc : ∀ y ∈ binds, scope.names.lookup y.1 = some .local)
    (h : ∀ g L' h₁, (∀ b o, s.heap.get? b = some o → b ∉ mu.map (·.1) → g.get? b = some o) → Fr g L' h₁ (fun y => binds.reverse.lookup y) → News g L' h₁ mu → Below A base (env :: outer) g → (∀ p ∈ mu, p.1 < L') → h₀.StaysIn g → s.heap.objs.size ≤ L' →
      wpAny (model prog w) (A.deeper (envX qual scope L' f cdv cl)) (execs body (envX qual scope L' f cdv cl))
        (fun fl s' => Done g s post (match fl with | .ret v => v | _ => .none) s') (fun _ _ => False)
        { s with heap := h₁, toks := s.toks + binds.length })
    (hret : ∀ r h' tk', (∀ b o, s.heap.get? b = some o → b ∉ mu.map (·.1) → h'.get? b = some o) → post r h' → Q r { s with heap := h', toks := tk' })
    (hcell : ∀ x ∈ scope.names, x.2 ≠ .cell) (hco : scope.isCoroutine = false := by rfl) (hgen : scope.isGenerator = false := by rfl) (hk : scope.kind = .function := by rfl) :
    wpAny (model prog w) A (call (.ref f) args) Q E s := by
  obtain ⟨BG, st⟩ := ground B F N hA hf hke
  refine wpAny_call ?_
  refine codeAny_call_def (fd := fnX name qual params body scope cl dV kV doc pm an cdv ct) (body := body) (binds := binds) hroom ho hd (hlim.keeps F.keep) hcd rfl hbind hcell hloc (fun h₁ hns hk₁ => ?_) hco hgen hk
  refine wpAny_mono (h _ s.heap.objs.size h₁ (fun b o e hb => hideAll_get _ e hb) ⟨hns, fun b o e => hk₁ b o (of_hideAll _ e), Nat.le_of_eq (hideAll_size _ _)⟩
    (fun p hp => ⟨hk₁ _ _ (N p hp).1, Nat.ne_of_lt (Heap.lt_size (N p hp).1), hideAll_none _ (List.mem_map_of_mem hp)⟩) BG (fun p hp => Heap.lt_size (N p hp).1) st (Nat.le_refl _)) (fun fl s' hl => ?_) fun _ _ y => y.elim
  obtain ⟨h', tk, rfl, hk', hp⟩ := hl
  exact hret _ h' tk (fun b o e hb => hk' b o (hideAll_get _ e hb)) hp

theorem con_cells (B : Below A₀ base outer h₀) (F : Fr h₀ L s.heap m) (N : News h₀ L s.heap mu) (hlim : h₀.NoLimit) (hA : A.frames = some (env :: outer)) (hf : env.frame = some L) (hke : env.scope.kind = .function)
    (ho : s.heap.get? f = some fo) (hd : fo.data = .func (fnX name qual params body scope [] dV kV doc pm an cdv ct)) (hcd : s.heap.CodeRec cdv qual) (hroom : A.depth < recursionLimit)
    (hbind : BindsTo s (fnX name qual params body scope [] dV kV doc pm an cdv ct) ⟨args, []⟩ binds)
    (hkind : (binds.all fun y => scope.names.lookup y.1 == some .local || scope.names.lookup y.1 == some .cell) = true)
    (hnd : ((cellsFrom 0 scope.names []).map (·.1)).Nodup)
    (h : ∀ g L' h₁ tk cells, (∀ b o, s.heap.get? b = some o → b ∉ mu.map (·.1) → g.get? b = some o) → Fr g L' h₁ (bindL (envOfC qual scope L' f cdv).kindOf binds fun _ => none) → News g L' h₁ (cells ++ mu) →
      CellsAre (bindC (envOfC qual scope L' f cdv).kindOf binds fun _ => none) (cellsFrom (L' + 1) scope.names []) cells → Below A base (env :: outer) g → (∀ p ∈ mu, p.1 < L') → h₀.StaysIn g → s.heap.objs.size ≤ L' →
      wpAny (model prog w) (A.deeper (envOfC qual scope L' f cdv)) (execs body (envOfC qual scope L' f cdv))
        (fun fl s' => Done g s post (match fl with | .ret v => v | _ => .none) s') (fun _ _ => False)
        { s with heap := h₁, toks := tk })
    (hret : ∀ r h' tk', (∀ b o, s.heap.get? b = some o → b ∉ mu.map (·.1) → h'.get? b = some o) → post r h' → Q r { s with heap := h', toks := tk' })
    (hco : scope.isCoroutine = false := by rfl) (hgen : scope.isGenerator = false := by rfl) (hk : scope.kind = .function := by rfl) :
    wpAny (model prog w) A (call (.ref f) args) Q E s := by
  obtain ⟨BG, st⟩ := ground B F N hA hf hke
  refine wpAny_call ?_
  refine codeAny_call_function hroom ho hd hco hgen rfl hcd (hbind _ _ _ _ ?_)
  refine wpAny_newFunctionEnv_cells hk (kindsX hkind _) fun env' he s' x => ?_
  subst he
  refine ⟨(hlim.keeps F.keep).keeps x.toInCall.keep, codeAny_func ?_⟩
  obtain ⟨h₁, tk, rfl, _⟩ := x.done
  have hk₁ := x.toInCall.keep
  obtain ⟨cells, NC, Y⟩ := Cl.news (h₀ := s.heap) (Nat.le_refl _) fun n c hm => ⟨x.cell n c (lookup_of_mem_nodup (cellsFrom_names scope.names 0 (s.heap.objs.size + 1) [] [] rfl ▸ hnd) hm), x.above n c hm⟩
  refine wpAny_mono (h _ s.heap.objs.size h₁ tk cells (fun b o e hb => hideAll_get _ e hb) ⟨x.toInCall.ns, fun b o e => hk₁ b o (of_hideAll _ e), Nat.le_of_eq (hideAll_size _ _)⟩ (fun p hp => ?_) Y BG (fun p hp => Heap.lt_size (N p hp).1) st (Nat.le_refl _)) (fun fl s' hl => ?_) fun _ _ y => y.elim
  · rcases List.mem_append.mp hp with hp | hp
    · refine ⟨(NC p hp).1, (NC p hp).2.1, ?_⟩
      cases q : (hideAll s.heap (mu.map (·.1))).get? p.1 with
      | none => rfl
      | some o => have := of_hideAll _ q; rw [(NC p hp).2.2] at this; cases this
    · exact ⟨hk₁ _ _ (N p hp).1, Nat.ne_of_lt (Heap.lt_size (N p hp).1), hideAll_none _ (List.mem_map_of_mem hp)⟩
  · obtain ⟨h', tk', rfl, hk', hp⟩ := hl
    exact hret _ h' tk' (fun b o e hb => hk' b o (hideAll_get _ e hb)) hp

end
end Mine
namespace Mine
section
variable {prog : Program} {w : World} {A₀ A : Around} {s : Shared} {base h₀ : Heap} {outer : List Env} {L : Addr} {m mg mb : Str → Option Value} {env : Env} {mu : List (Addr × Obj)} {K : Frag} {p : Program} {loose : List Str} {mean : ExcName → Option Value}
  {name qual : Str} {params : Arguments} {body : List Stmt} {scope : Scope} {dV kV doc pm cdv ct oc : Value} {an od : Option Addr} {osl : Array (Option Value)} {f : Addr} {args : List Value} {binds : List (Str × Value)}
  {Q E : Value → Shared → Prop}

/-- Entering a def of the module: the callee's base is the whole heap less what it may change. -/
theorem con_def (post : Value → Heap → Prop) (B : Below A₀ base outer h₀) (F : Fr h₀ L s.heap m) (X₀ : K.In h₀) (N : News h₀ L s.heap mu) (T : Top p loose mean mg mb h₀) (hA : A.frames = some (env :: outer)) (hf : env.frame = some L) (hke : env.scope.kind = .function)
    (ho : K.lookup f = some ⟨oc, od, .func (fnOf name qual params body scope dV kV doc pm an cdv ct), osl⟩) (hcd : codeIn K cdv qual = true) (hroom : A.depth < recursionLimit)
    (hbind : BindsTo s (fnOf name qual params body scope dV kV doc pm an cdv ct) ⟨args, []⟩ binds) (hloc : ∀ y ∈ binds, scope.names.lookup y.1 = some .local)
    (h : ∀ g L' h₁, (∀ b o, s.heap.get? b = some o → b ∉ mu.map (·.1) → g.get? b = some o) → Fr g L' h₁ (fun y => binds.reverse.lookup y) → News g L' h₁ mu → Below A base (env :: outer) g → (∀ p ∈ mu, p.1 < L') → K.In g → Top p loose mean mg mb g → s.heap.objs.size ≤ L' →
      wpAny (model prog w) (A.deeper (envOf qual scope L' f cdv)) (execs body (envOf qual scope L' f cdv))
        (fun fl s' => Done g s post (match fl with | .ret v => v | _ => .none) s') (fun _ _ => False)
        { s with heap := h₁, toks := s.toks + binds.length })
    (hret : ∀ r h' tk', (∀ b o, s.heap.get? b = some o → b ∉ mu.map (·.1) → h'.get? b = some o) → post r h' → Q r { s with heap := h', toks := tk' })
    (hcell : ∀ x ∈ scope.names, x.2 ≠ .cell) (hco : scope.isCoroutine = false) (hgen : scope.isGenerator = false) (hk : scope.kind = .function) :
    wpAny (model prog w) A (call (.ref f) args) Q E s :=
  con_plain (post := post) (cl := []) B F N T.nolimit hA hf hke ((X₀.keeps F.keep) _ _ ho) rfl (codeRec_of (X₀.keeps F.keep) hcd) hroom hbind hloc
    (fun g L' h₁ e F' N' B' l st z => h g L' h₁ e F' N' B' l (X₀.keeps st) (T.keeps st) z) hret hcell hco hgen hk

theorem con_defC (post : Value → Heap → Prop) (B : Below A₀ base outer h₀) (F : Fr h₀ L s.heap m) (X₀ : K.In h₀) (N : News h₀ L s.heap mu) (T : Top p loose mean mg mb h₀) (hA : A.frames = some (env :: outer)) (hf : env.frame = some L) (hke : env.scope.kind = .function)
    (ho : K.lookup f = some ⟨oc, od, .func (fnOf name qual params body scope dV kV doc pm an cdv ct), osl⟩) (hcd : codeIn K cdv qual = true) (hroom : A.depth < recursionLimit)
    (hbind : BindsTo s (fnOf name qual params body scope dV kV doc pm an cdv ct) ⟨args, []⟩ binds)
    (hkind : (binds.all fun y => scope.names.lookup y.1 == some .local || scope.names.lookup y.1 == some .cell) = true)
    (hnd : ((cellsFrom 0 scope.names []).map (·.1)).Nodup)
    (h : ∀ g L' h₁ tk cells, (∀ b o, s.heap.get? b = some o → b ∉ mu.map (·.1) → g.get? b = some o) → Fr g L' h₁ (bindL (envOfC qual scope L' f cdv).kindOf binds fun _ => none) → News g L' h₁ (cells ++ mu) →
      CellsAre (bindC (envOfC qual scope L' f cdv).kindOf binds fun _ => none) (cellsFrom (L' + 1) scope.names []) cells → Below A base (env :: outer) g → (∀ p ∈ mu, p.1 < L') → K.In g → Top p loose mean mg mb g → s.heap.objs.size ≤ L' →
      wpAny (model prog w) (A.deeper (envOfC qual scope L' f cdv)) (execs body (envOfC qual scope L' f cdv))
        (fun fl s' => Done g s post (match fl with | .ret v => v | _ => .none) s') (fun _ _ => False)
        { s with heap := h₁, toks := tk })
    (hret : ∀ r h' tk', (∀ b o, s.heap.get? b = some o → b ∉ mu.map (·.1) → h'.get? b = some o) → post r h' → Q r { s with heap := h', toks := tk' })
    (hco : scope.isCoroutine = false) (hgen : scope.isGenerator = false) (hk : scope.kind = .function) :
    wpAny (model prog w) A (call (.ref f) args) Q E s :=
  con_cells (post := post) B F N T.nolimit hA hf hke ((X₀.keeps F.keep) _ _ ho) rfl (codeRec_of (X₀.keeps F.keep) hcd) hroom hbind hkind hnd
    (fun g L' h₁ tk cells e F' N' Y B' l st z => h g L' h₁ tk cells e F' N' Y B' l (X₀.keeps st) (T.keeps st) z) hret hco hgen hk
end

/-- `v < x` is the bool b, wherever the heap h stands. -/
def LtIs (prog : Program) (w : World) (h : Heap) (v x : Value) (b : Bool) : Prop :=
  ∀ (A : Around) (Q E : Value → Shared → Prop) (s : Shared), (∀ b o, h.get? b = some o → s.heap.get? b = some o) → A.units + 64 < cLine → A.handled = none →
    Q (.bool b) s → wpAny (model prog w) A (compareOp .Lt v x) Q E s

def bisGo (below : Nat → Bool) : Nat → Nat → Nat → Nat
  | 0, lo, _ => lo
  | f + 1, lo, hi => if lo < hi then (if below ((lo + hi) / 2) then bisGo below f ((lo + hi) / 2 + 1) hi else bisGo below f lo ((lo + hi) / 2)) else lo
def bis (below : Nat → Bool) (n : Nat) : Nat := bisGo below n 0 n
theorem bisGo_fuel (below : Nat → Bool) : ∀ (f f' lo hi : Nat), hi ≤ lo + f → hi ≤ lo + f' → bisGo below f lo hi = bisGo below f' lo hi := by
  intro f
  induction f with
  | zero =>
    intro f' lo hi h1 _
    cases f' with
    | zero => rfl
    | succ f' => simp only [bisGo]; rw [if_neg (by omega)]
  | succ f ih =>
    intro f' lo hi h1 h2
    cases f' with
    | zero => simp only [bisGo]; rw [if_neg (by omega)]
    | succ f' =>
      simp only [bisGo]
      split
      · split
        · exact ih _ _ _ (by omega) (by omega)
        · exact ih _ _ _ (by omega) (by omega)
      · rfl
theorem bisGo_le (below : Nat → Bool) : ∀ (f lo hi : Nat), lo ≤ hi → bisGo below f lo hi ≤ hi := by
  intro f
  induction f with
  | zero => intro lo hi h; exact h
  | succ f ih =>
    intro lo hi h
    simp only [bisGo]
    split
    · split
      · exact ih _ _ (by omega)
      · exact Nat.le_trans (ih _ _ (by omega)) (by omega)
    · exact h
theorem bis_le (below : Nat → Bool) (n : Nat) : bis below n ≤ n := bisGo_le below n 0 n (Nat.zero_le _)
/-- where the loop stands: what is left gives what the whole gives -/
theorem bis_turn {below : Nat → Bool} {lo hi r : Nat} (h : bisGo below (hi - lo) lo hi = r) (hlt : lo < hi) :
    (below ((lo + hi) / 2) = true → bisGo below (hi - ((lo + hi) / 2 + 1)) ((lo + hi) / 2 + 1) hi = r) ∧ (below ((lo + hi) / 2) = false → bisGo below ((lo + hi) / 2 - lo) lo ((lo + hi) / 2) = r) := by
  obtain ⟨d, hd⟩ : ∃ d, hi - lo = d + 1 := ⟨hi - lo - 1, by omega⟩
  rw [hd] at h
  simp only [bisGo, if_pos hlt] at h
  constructor
  · intro hb
    rw [if_pos hb] at h
    rw [← h]; exact bisGo_fuel _ _ _ _ _ (by omega) (by omega)
  · intro hb
    rw [if_neg (by rw [hb]; exact Bool.false_ne_true)] at h
    rw [← h]; exact bisGo_fuel _ _ _ _ _ (by omega) (by omega)
theorem bis_end {below : Nat → Bool} {lo hi r : Nat} (h : bisGo below (hi - lo) lo hi = r) (hlt : ¬ lo < hi) : lo = r := by
  have : hi - lo = 0 := by omega
  rw [this] at h
  exact h
end Mine

namespace Mine
section
variable {prog : Program} {w : World} {A : Around} {E : Value → Shared → Prop} {s : Shared} {h₀ : Heap} {L : Addr} {m : Str → Option Value} {Q : Value → Shared → Prop}
theorem len_base {l : Addr} {vs : List Value} (F : Fr h₀ L s.heap m) (hl : h₀.IsList l vs.toArray) (hz : vs.length ≤ 16384) (h : Q (.int (vs.length : Int) (s.toks + 1)) { s with toks := s.toks + 1 + 1 }) :
    wpAny (model prog w) A (call (.builtin "len") [.ref l]) Q E s :=
  kun_lenL (hl.at fun o e => F.keep l o e) (by simp) (by omega) h
theorem item_base {value slice : PySem.Expr} {l : Addr} {vs : List Value} {k : Int} {u : Tok} {v : Value} (F : Fr h₀ L s.heap m) (hl : h₀.IsList l vs.toArray) (h0 : 0 ≤ k) (hhi : k < 2 ^ 63) (hx : vs[k.toNat]? = some v) (h : Q v s)
    (hs : subscripted slice false (.ref l) (.int k u) = operate [.ref l, .int k u] (getItem (.ref l) (.int k u)) := by with_unfolding_all rfl) :
    wpAny (model prog w) A (subscriptTail value slice (.ref l) (.int k u)) Q E s :=
  tail_any (hl.at fun o e => F.keep l o e).typeIs slot_list_getitem.lookup (wpAny_getItem_list (hl.at fun o e => F.keep l o e) h0 hhi (by simpa using hx) h) hs
end
end Mine
namespace Mine
theorem reads {h₀ h : Heap} {L : Addr} {m : Str → Option Value} (_F : Fr h₀ L h m) (x : Str) (n : Int) (e : ∃ t, m x = some (Value.int n t)) : ∃ t, m x = some (Value.int n t) := e
end Mine
namespace Mine
theorem half_nat (lo hi : Nat) : (((lo : Int) + (hi : Int)).fdiv 2) = (((lo + hi) / 2 : Nat) : Int) := by
  rw [Int.fdiv_eq_ediv_of_nonneg _ (by omega)]; omega
end Mine
namespace Mine
section
variable {h₀ h h' : Heap} {L l : Addr} {m : Str → Option Value} {news news' : List (Addr × Obj)} {o o' : Obj}
theorem ext_F (F : Fr h₀ L h m) (e : ∀ b o, h.get? b = some o → h'.get? b = some o) : Fr h₀ L h' m := ⟨F.ns.keeps e, fun b o q => e _ _ (F.keep b o q), F.above⟩
theorem ext_N (N : News h₀ L h news) (e : ∀ b o, h.get? b = some o → h'.get? b = some o) : News h₀ L h' news := fun p hp => ⟨e _ _ (N p hp).1, (N p hp).2⟩
theorem after_one (N : News h₀ L h news) (U : Upd l o o' news news') : News h₀ L h [(l, o)] := by
  obtain ⟨pre, post, rfl, rfl, a, c⟩ := U.split
  intro p hp
  obtain rfl := List.mem_singleton.mp hp
  exact N _ (List.mem_append_right _ (.head _))
theorem after_F (F : Fr h₀ L h m) (N : News h₀ L h news) (U : Upd l o o' news news') (e : ∀ b o, h.get? b = some o → b ∉ [l] → h'.get? b = some o) : Fr h₀ L h' m := by
  have n := (after_one N U) _ (.head _)
  obtain ⟨oL, es, ep, hL, r⟩ := F.ns
  refine ⟨⟨oL, es, ep, e _ _ hL fun q => n.2.1 (List.mem_singleton.mp q).symm, r⟩, fun b x q => e _ _ (F.keep b x q) fun z => ?_, F.above⟩
  rw [List.mem_singleton.mp z, n.2.2] at q; cases q
theorem after_N (N : News h₀ L h news) (U : Upd l o o' news news') (e : ∀ b o, h.get? b = some o → b ∉ [l] → h'.get? b = some o) (ho : h'.get? l = some o') : News h₀ L h' news' := by
  obtain ⟨pre, post, rfl, rfl, a, c⟩ := U.split
  intro p hp
  rcases List.mem_append.mp hp with q | q
  · have n := N p (List.mem_append_left _ q)
    exact ⟨e _ _ n.1 fun z => a p q (List.mem_singleton.mp z), n.2⟩
  · rcases List.mem_cons.mp q with rfl | q
    · exact ⟨ho, (N (l, o) (List.mem_append_right _ (.head _))).2⟩
    · have n := N p (List.mem_append_right _ (.tail _ q))
      exact ⟨e _ _ n.1 fun z => c p q (List.mem_singleton.mp z), n.2⟩
theorem news_list {vs : List Value} {n : Nat} (N : News h₀ L h news) (hm : (l, PySem.W.listOf vs.toArray n) ∈ news) : h.IsList l vs.toArray := ⟨_, (N _ hm).1, rfl, n, rfl⟩
end
def insAt {α : Type} (l : List α) (k : Nat) (x : α) : List α := l.take k ++ x :: l.drop k
theorem LtIs.mono {prog : Program} {w : World} {h h' : Heap} {v x : Value} {b : Bool} (H : LtIs prog w h v x b) (e : ∀ b o, h.get? b = some o → h'.get? b = some o) : LtIs prog w h' v x b :=
  fun A Q E s k hu hh q => H A Q E s (fun b o z => k _ _ (e _ _ z)) hu hh q
end Mine
namespace Mine
theorem keep_all {h₀ h g h' : Heap} {L L' : Addr} {mu : List (Addr × Obj)} {m' : Str → Option Value} (N : News h₀ L h mu) (hg : ∀ b o, h.get? b = some o → b ∉ mu.map (·.1) → g.get? b = some o) (F' : Fr g L' h' m') (N' : News g L' h' mu) :
    ∀ b o, h.get? b = some o → h'.get? b = some o := by
  intro b o e
  by_cases hb : b ∈ mu.map (·.1)
  · obtain ⟨p, hp, rfl⟩ := List.mem_map.mp hb
    rw [(N p hp).1] at e
    rw [(N' p hp).1, e]
  · exact F'.keep _ _ (hg _ _ e hb)
theorem insAt_kl {l : List Value} {k : Nat} {x : Value} (h : k ≤ l.length) : kl_ins l (k : Int) x = insAt l k x := by
  unfold kl_ins insAt
  rw [if_neg (by omega)]
  rw [show min (k : Int).toNat l.length = k by simp; omega]
end Mine
namespace Mine
theorem fits_small {k n : Nat} (h : k ≤ n) (hn : n ≤ 1000) : Builtin.List.listFitsIndex (k : Int) = true := by
  unfold Builtin.List.listFitsIndex
  have h1 : (k : Int) ≤ 1000 := by omega
  have h2 : (0 : Int) ≤ k := by omega
  simp only [Bool.and_eq_true, decide_eq_true_eq]
  constructor <;> omega
end Mine
namespace Mine
def innerOf (K : Frag) (f : Addr) : Option (Str × Arguments × List Stmt × Scope × Pos) := match K.lookup f with
  | some ⟨_, _, .func fd, _⟩ => (match fd.body with
    | .stmts b => b.findSome? fun st => (match st with
      | .FunctionDef name params body _ _ _ scope _ _ pos => some (name, params, body, scope, pos)
      | _ => none)
    | _ => none)
  | _ => none
end Mine
namespace Mine
section
variable {M : Model} {A : Around} {E : Value → Shared → Prop} {s : Shared} {h₀ : Heap} {L a : Addr} {m : Str → Option Value} {cn : Str} {cs : Scope} {ccd : Value} {cl : List (Str × Addr)} {x : Str} {pos : Pos} {v : Value} {Q : Value → Shared → Prop} {c : Addr} {o : Obj}
theorem free_base (F : Fr h₀ L s.heap m) (hc : cl.lookup x = some c) (hg : h₀.get? c = some o) (hd : o.data = .cell (some v)) (h : Q v s)
    (hk : cs.kind = .function := by rfl) (hx : (envX cn cs L a ccd cl).kindOf x = some .free := by rfl) (hb : (x == ("__debug__" : Str)) = false := by decide) (hn : (x == ("__classdict__" : Str)) = false := by decide) :
    wpAny M A (eval (.Name x pos) (envX cn cs L a ccd cl)) Q E s := wpAny_Name (wpAny_loadName_free hk hx hc ⟨o, F.keep _ _ hg, hd⟩ h hn) hb
end
section
variable {prog : Program} {w : World} {A : Around} {E : Value → Shared → Prop} {s : Shared} {Q : Value → Shared → Prop} {t u : Tok}
theorem shr1 {lo hi : Nat} (h : Q (.int (((lo + hi) / 2 : Nat) : Int) s.toks) { s with toks := s.toks + 1 }) : wpAny (model prog w) A (binaryOp .RShift (.int ((lo : Int) + (hi : Int)) t) (.int 1 u)) Q E s := by
  refine rshift_int (by decide) ?_
  have : ((lo : Int) + (hi : Int)).fdiv (2 ^ (1 : Int).toNat) = (((lo + hi) / 2 : Nat) : Int) := half_nat lo hi
  rw [this]; exact h
theorem intBits_le {a : Int} {k : Nat} (h0 : 0 ≤ a) (h : a < 2 ^ k) : Builtin.Int.intBits a ≤ k := by
  unfold Builtin.Int.intBits
  split
  · exact Nat.zero_le _
  · rename_i hne
    have hne' : a ≠ 0 := by simpa using hne
    have hn : a.natAbs ≠ 0 := by omega
    have : a.natAbs < 2 ^ k := by
      have e : ((a.natAbs : Nat) : Int) = a := by omega
      have : ((a.natAbs : Nat) : Int) < ((2 ^ k : Nat) : Int) := by rw [e]; simpa using h
      exact_mod_cast this
    have := (Nat.log2_lt hn).mpr this
    omega
theorem shl_nat {a n : Int} {k j : Nat} (hn : n = (k : Int)) (h0 : 0 ≤ a) (h1 : a < 2 ^ j) (hj : j + k ≤ 1000) (h : Q (.int (a * 2 ^ k) s.toks) { s with toks := s.toks + 1 }) : wpAny (model prog w) A (binaryOp .LShift (.int a t) (.int n u)) Q E s := by
  subst hn
  refine lshift_int (by omega) ?_ (by simpa using h)
  have := intBits_le h0 h1
  omega
end
def dval : List Int → Int
  | [] => 0
  | d :: r => d + 2 * dval r
theorem dval_append (a b : List Int) : dval (a ++ b) = dval a + 2 ^ a.length * dval b := by
  induction a with
  | nil => simp [dval]
  | cons d r ih =>
    simp only [List.cons_append, dval, ih, List.length_cons, Int.pow_succ]
    rw [Int.mul_add, Int.add_assoc, Int.mul_comm (2 ^ r.length) 2, Int.mul_assoc]
theorem dval_lt : ∀ (a : List Int), (∀ d ∈ a, 0 ≤ d ∧ d ≤ 1) → 0 ≤ dval a ∧ dval a < 2 ^ a.length
  | [], _ => ⟨Int.le_refl _, by decide⟩
  | d :: r, h => by
    obtain ⟨h1, h2⟩ := dval_lt r fun x hx => h x (.tail _ hx)
    obtain ⟨h3, h4⟩ := h d (.head _)
    simp only [dval, List.length_cons, Int.pow_succ]
    omega
def seg (ns : List Int) (lo hi : Nat) : List Int := (ns.drop lo).take (hi - lo)
theorem seg_split {ns : List Int} {lo mid hi : Nat} (h1 : lo ≤ mid) (h2 : mid ≤ hi) : seg ns lo hi = seg ns lo mid ++ seg ns mid hi := by
  unfold seg
  rw [show hi - lo = (mid - lo) + (hi - mid) by omega, List.take_add, List.drop_drop, show lo + (mid - lo) = mid by omega]
theorem seg_length {ns : List Int} {lo hi : Nat} (h : hi ≤ ns.length) : (seg ns lo hi).length = hi - lo := by
  unfold seg
  rw [List.length_take, List.length_drop]; omega
theorem seg_mem {ns : List Int} {lo hi : Nat} {d : Int} (h : d ∈ seg ns lo hi) : d ∈ ns := List.mem_of_mem_drop (List.mem_of_mem_take h)
theorem seg_one {ns : List Int} {lo : Nat} {d : Int} (h : ns[lo]? = some d) : dval (seg ns lo (lo + 1)) = d := by
  unfold seg
  obtain ⟨hl, rfl⟩ := List.getElem?_eq_some_iff.mp h
  rw [show lo + 1 - lo = 1 by omega, List.drop_eq_getElem_cons hl]
  show ns[lo] + 2 * dval (List.take 0 _) = _
  rw [List.take_zero]; simp [dval]
theorem seg_all (ns : List Int) : seg ns 0 ns.length = ns := by simp [seg]
theorem dval_split {ns : List Int} {lo mid hi : Nat} (h1 : lo ≤ mid) (h2 : mid ≤ hi) (h3 : hi ≤ ns.length) : dval (seg ns mid hi) * 2 ^ (mid - lo) + dval (seg ns lo mid) = dval (seg ns lo hi) := by
  rw [seg_split h1 h2, dval_append, seg_length (by omega), Int.mul_comm, Int.add_comm]
end Mine
namespace Mine
theorem dval_seg_lt {ns : List Int} {lo hi : Nat} (h : ∀ d ∈ ns, 0 ≤ d ∧ d ≤ 1) (hl : ns.length ≤ 64) (hh : hi ≤ ns.length) : 0 ≤ dval (seg ns lo hi) ∧ dval (seg ns lo hi) < 2 ^ 64 := by
  obtain ⟨a, b⟩ := dval_lt (seg ns lo hi) fun d hd => h d (seg_mem hd)
  refine ⟨a, Int.lt_of_lt_of_le b ?_⟩
  rw [seg_length hh]
  have : (2 : Nat) ^ (hi - lo) ≤ 2 ^ 64 := Nat.pow_le_pow_right (by decide) (by omega)
  exact_mod_cast this
end Mine
namespace Mine
theorem seg_last {ns : List Int} {lo hi : Nat} (h : lo < ns.length) (e : hi = lo + 1) : ns.getD ((lo : Int).toNat) 0 = dval (seg ns lo hi) := by
  subst e
  rw [seg_one (List.getElem?_eq_getElem h), Int.toNat_natCast, List.getD_eq_getElem?_getD, List.getElem?_eq_getElem h]; rfl
end Mine
namespace Mine
/-- the table of the defs within a def's code: nothing yet, or the one inner def's code -/
def TabOk (line col : Int) (qual : Str) (ps : Array Value) (h : Heap) : Prop :=
  ps = #[] ∨ ∃ c', ps = #[rawInt line, rawInt col, .ref c'] ∧ h.CodeRec (.ref c') qual
theorem TabOk.keeps {line col : Int} {qual : Str} {ps : Array Value} {h h' : Heap} (x : TabOk line col qual ps h) (k : ∀ b o, h.get? b = some o → h'.get? b = some o) : TabOk line col qual ps h' :=
  x.imp id fun ⟨c', e, r⟩ => ⟨c', e, r.keeps k⟩
theorem truthy_base {prog : Program} {w : World} {A : Around} {E : Value → Shared → Prop} {s : Shared} {h₀ : Heap} {L : Addr} {m : Str → Option Value} {Q : Bool → Shared → Prop} {l : Addr} {vs : List Value} (F : Fr h₀ L s.heap m) (hl : h₀.IsList l vs.toArray) (hz : vs.length ≤ 16384)
    (h : Q (decide (0 < vs.length)) { s with toks := s.toks + 1 + 1 }) : wpAny (model prog w) A (truthy (.ref l)) Q E s := by
  refine wpAny_truthy_list (hl.at fun o e => F.keep l o e) (by simp; omega) ?_
  have : (!vs.toArray.isEmpty) = decide (0 < vs.length) := by cases vs <;> simp
  rw [this]; exact h
end Mine
namespace Mine
theorem CodeRec_up {h g : Heap} {c P : Addr} {i j : Int} {qual : Str} (x : h.CodeRec (.ref c) qual) (hg : ∀ b o, h.get? b = some o → b ∉ [P] → g.get? b = some o) (hP : h.get? P = some (tabObj #[rawInt i, rawInt j, .ref c])) : g.CodeRec (.ref c) qual := by
  obtain ⟨a, o, vs, t, e, ho, hd, hv⟩ := x
  cases e
  refine ⟨_, o, vs, t, rfl, hg _ _ ho (fun hm => ?_), hd, hv⟩
  rw [List.mem_singleton.mp hm, hP] at ho
  cases ho
  cases hd
  cases hv
end Mine
namespace Mine
def bitsOf : Nat → Int → List Int
  | 0, _ => []
  | k + 1, x => x % 2 :: bitsOf k (x / 2)
theorem bitsOf_length : ∀ (k : Nat) (x : Int), (bitsOf k x).length = k
  | 0, _ => rfl
  | k + 1, x => by simp [bitsOf, bitsOf_length k]
theorem bitsOf_add : ∀ (j k : Nat) (x : Int), bitsOf (j + k) x = bitsOf j (x % 2 ^ j) ++ bitsOf k (x / 2 ^ j)
  | 0, k, x => by simp [bitsOf]
  | j + 1, k, x => by
    rw [show j + 1 + k = (j + k) + 1 by omega]
    simp only [bitsOf, List.cons_append]
    rw [bitsOf_add j k (x / 2)]
    have e1 : x % 2 ^ (j + 1) % 2 = x % 2 := by
      rw [Int.pow_succ, Int.mul_comm]
      exact Int.emod_emod_of_dvd x ⟨_, rfl⟩
    have e2 : x % 2 ^ (j + 1) / 2 = x / 2 % 2 ^ j := by
      have h0 : (0 : Int) < 2 ^ j := Int.pow_pos (by decide)
      rw [Int.pow_succ]
      have a1 := Int.mul_ediv_add_emod x (2 ^ j * 2)
      have a2 := Int.mul_ediv_add_emod (x / 2) (2 ^ j)
      have a3 : x / 2 / 2 ^ j = x / (2 ^ j * 2) := by rw [Int.mul_comm, Int.ediv_ediv_of_nonneg (by decide)]
      rw [a3] at a2
      generalize x / (2 ^ j * 2) = q at *
      generalize x % (2 ^ j * 2) = r at *
      generalize x / 2 % 2 ^ j = r2 at *
      rw [Int.mul_assoc, Int.mul_left_comm] at a1
      generalize (2 : Int) ^ j * q = z at *
      omega
    have e3 : x / 2 ^ (j + 1) = x / 2 / 2 ^ j := by rw [Int.ediv_ediv_of_nonneg (by decide), Int.pow_succ, Int.mul_comm]
    rw [e1, e2, e3]
def blit (ds : List Int) (lo : Nat) (new : List Int) : List Int := ds.take lo ++ new ++ ds.drop (lo + new.length)
theorem blit_one {ds : List Int} {lo : Nat} {x : Int} (h : lo < ds.length) : ds.set lo x = blit ds lo [x] := by
  unfold blit
  rw [List.set_eq_take_append_cons_drop, if_pos h]; simp
theorem blit_length {ds new : List Int} {lo : Nat} (h : lo + new.length ≤ ds.length) : (blit ds lo new).length = ds.length := by
  unfold blit; simp; omega
theorem blit_two {ds a b : List Int} {lo : Nat} (h : lo + a.length + b.length ≤ ds.length) : blit (blit ds lo a) (lo + a.length) b = blit ds lo (a ++ b) := by
  unfold blit
  have h1 : (ds.take lo ++ a).length = lo + a.length := by simp; omega
  rw [List.take_append_of_le_length (by rw [h1]; exact Nat.le_refl _), List.take_of_length_le (by rw [h1]; exact Nat.le_refl _)]
  rw [List.drop_append, List.drop_of_length_le (by rw [h1]; omega), List.nil_append, h1, List.drop_drop]
  simp only [List.append_assoc, List.length_append]
  rw [show lo + a.length + (lo + a.length + b.length - (lo + a.length)) = lo + (a.length + b.length) by omega]
theorem blit_all {ds new : List Int} (h : new.length = ds.length) : blit ds 0 new = new := by
  unfold blit; simp [h]
theorem xor_table : ∀ k : Nat, k < 7 → ∀ x : Nat, x < 64 → Builtin.bitXor (x : Int) ((x : Int) / 2 ^ k * 2 ^ k) = (x : Int) % 2 ^ k := by decide +kernel
section
variable {prog : Program} {w : World} {A : Around} {E : Value → Shared → Prop} {s : Shared} {Q : Value → Shared → Prop} {t u : Tok}
theorem shrk {x n : Int} {k : Nat} (hn : n = (k : Int)) (h : Q (.int (x / 2 ^ k) s.toks) { s with toks := s.toks + 1 }) : wpAny (model prog w) A (binaryOp .RShift (.int x t) (.int n u)) Q E s := by
  subst hn
  refine rshift_int (by omega) ?_
  rw [Int.toNat_natCast, Int.fdiv_eq_ediv_of_nonneg _ (Int.le_of_lt (Int.pow_pos (by decide)))]; exact h
theorem xor_low {x : Int} {k : Nat} (h0 : 0 ≤ x) (h1 : x < 64) (hk : k < 7) (h : Q (.int (x % 2 ^ k) s.toks) { s with toks := s.toks + 1 }) : wpAny (model prog w) A (binaryOp .BitXor (.int x t) (.int (x / 2 ^ k * 2 ^ k) u)) Q E s := by
  refine xor_int ?_
  have := xor_table k hk x.toNat (by omega)
  rw [show ((x.toNat : Nat) : Int) = x by omega] at this
  rw [this]; exact h
end
theorem bit_parts {x : Int} {j d : Nat} (h0 : 0 ≤ x) (h1 : x < 2 ^ d) (hj : j ≤ d) (hd : d ≤ 6) : 0 ≤ x % 2 ^ j ∧ x % 2 ^ j < 2 ^ j ∧ 0 ≤ x / 2 ^ j ∧ x / 2 ^ j < 2 ^ (d - j) ∧ x < 64 ∧ x / 2 ^ j < 2 ^ 6 := by
  have p : (0 : Int) < 2 ^ j := Int.pow_pos (by decide)
  have hx : x < 64 := by
    have : (2 : Nat) ^ d ≤ 2 ^ 6 := Nat.pow_le_pow_right (by decide) hd
    have : ((2 ^ d : Nat) : Int) ≤ ((2 ^ 6 : Nat) : Int) := by exact_mod_cast this
    simp at this
    omega
  have hq : 0 ≤ x / 2 ^ j := Int.ediv_nonneg h0 (Int.le_of_lt p)
  refine ⟨Int.emod_nonneg _ (by omega), Int.emod_lt_of_pos _ p, hq, ?_, hx, ?_⟩
  · refine Int.ediv_lt_of_lt_mul p ?_
    rw [← Int.pow_add, Nat.sub_add_cancel hj]; exact h1
  · refine Int.lt_of_le_of_lt (Int.ediv_le_self _ h0) hx
theorem after_go {h₀ h h' : Heap} {L l : Addr} {m : Str → Option Value} {news news' : List (Addr × Obj)} {o o' : Obj} {P : Prop} (F : Fr h₀ L h m) (N : News h₀ L h news) (U : Upd l o o' news news') (e : ∀ b o, h.get? b = some o → b ∉ [l] → h'.get? b = some o) (ho : h'.get? l = some o')
    (k : Fr h₀ L h' m → News h₀ L h' news' → P) : P := k (after_F F N U e) (after_N N U e ho)
theorem up_list {h g : Heap} {l b : Addr} {vs : Array Value} {n : Nat} {o : Obj} (hg : ∀ b o, h.get? b = some o → b ∉ [l] → g.get? b = some o) (hl : h.get? l = some (PySem.W.listOf vs n)) (hb : h.get? b = some o) (hne : ∀ vs n, o.data ≠ .seq vs n) : g.get? b = some o := by
  refine hg _ _ hb fun hm => ?_
  rw [List.mem_singleton.mp hm, hl] at hb
  cases hb
  exact hne _ _ rfl
theorem codeRec_upl {h g : Heap} {c l : Addr} {vs : Array Value} {n : Nat} {qual : Str} (x : h.CodeRec (.ref c) qual) (hg : ∀ b o, h.get? b = some o → b ∉ [l] → g.get? b = some o) (hl : h.get? l = some (PySem.W.listOf vs n)) : g.CodeRec (.ref c) qual := by
  obtain ⟨a, o, vs, t, e, ho, hd, hv⟩ := x
  cases e
  exact ⟨_, o, vs, t, rfl, up_list hg hl ho (by rw [hd]; intro _ _ e; cases e), hd, hv⟩
end Mine
namespace Mine
theorem set_bits {ds : List Int} {lo hi : Nat} {x : Int} (hl : lo < ds.length) (e : hi = lo + 1) (h0 : 0 ≤ x) (h1 : x < 2 ^ (hi - lo)) : ds.set ((lo : Int).toNat) x = blit ds lo (bitsOf (hi - lo) x) := by
  subst e
  rw [show lo + 1 - lo = 1 by omega] at h1 ⊢
  have : x % 2 = x := by omega
  rw [Int.toNat_natCast, blit_one hl]
  show blit ds lo [x] = blit ds lo [x % 2]
  rw [this]
theorem blit_bits {ds : List Int} {lo mid hi : Nat} {x : Int} (h1 : lo ≤ mid) (h2 : mid ≤ hi) (h3 : hi ≤ ds.length) :
    blit (blit ds lo (bitsOf (mid - lo) (x % 2 ^ (mid - lo)))) mid (bitsOf (hi - mid) (x / 2 ^ (mid - lo))) = blit ds lo (bitsOf (hi - lo) x) := by
  have e := blit_two (ds := ds) (a := bitsOf (mid - lo) (x % 2 ^ (mid - lo))) (b := bitsOf (hi - mid) (x / 2 ^ (mid - lo))) (lo := lo) (by simp only [bitsOf_length]; omega)
  rw [bitsOf_length, show lo + (mid - lo) = mid by omega] at e
  rw [e, ← bitsOf_add, show mid - lo + (hi - mid) = hi - lo by omega]
end Mine
namespace Mine
theorem rep_one {α : Type} (v : α) : ∀ j : Nat, (List.replicate j [v]).flatten = List.replicate j v
  | 0 => rfl
  | j + 1 => by rw [List.replicate_succ, List.flatten_cons, rep_one v j]; rfl
theorem ints_rep (n : Int) (t : Tok) : ∀ j : Nat, IntsAre (List.replicate j (Value.int n t)) (List.replicate j n)
  | 0 => .nil
  | j + 1 => .cons n t (ints_rep n t j)
theorem mul_ints {prog : Program} {w : World} {A : Around} {E : Value → Shared → Prop} {s : Shared} {h₀ : Heap} {L : Addr} {m : Str → Option Value} {news : List (Addr × Obj)} {l : Addr} {k : Nat} {v x : Int} {t u : Tok} {Q : Value → Shared → Prop} {j : Nat}
    (F : Fr h₀ L s.heap m) (N : News h₀ L s.heap news) (hm : (l, PySem.W.listOf [Value.int v t].toArray k) ∈ news) (hx : x = (j : Int)) (hj : j ≤ 200)
    (h : ∀ D h', Fr h₀ L h' m → News h₀ L h' ((D, PySem.W.listOf (List.replicate j (Value.int v t)).toArray 0) :: news) → (∀ p ∈ news, p.1 < D) → IntsAre (List.replicate j (Value.int v t)) (List.replicate j v) → Q (.ref D) { s with heap := h' }) :
    wpAny (model prog w) A (binaryOp .Mult (.ref l) (.int x u)) Q E s := by
  subst hx
  exact KMa.mul (vs := [Value.int v t]) F N (news_list N hm) (by omega) (by omega) (by simp; omega) (by rw [Int.toNat_natCast]; exact rep_one _ _) fun D h' F' N' l1 => h D h' F' N' l1 (ints_rep _ _ _)
theorem bits_table : ∀ a : Nat, a < 64 → ((a : Int) < 2 ^ (Builtin.Int.intBits (a : Int)) ∧ Builtin.Int.intBits (a : Int) ≤ 6) ∧ (a = 0 ↔ Builtin.Int.intBits (a : Int) = 0) := by decide +kernel
theorem bits_of {a : Int} (h0 : 0 ≤ a) (h1 : a < 64) : a < 2 ^ (Builtin.Int.intBits a) ∧ Builtin.Int.intBits a ≤ 6 ∧ (a = 0 ↔ Builtin.Int.intBits a = 0) := by
  obtain ⟨⟨b1, b2⟩, b3⟩ := bits_table a.toNat (by omega)
  rw [show ((a.toNat : Nat) : Int) = a by omega] at b1 b2 b3
  exact ⟨b1, b2, by rw [← b3]; omega⟩
theorem len_news {prog : Program} {w : World} {A : Around} {E : Value → Shared → Prop} {s : Shared} {h₀ : Heap} {L : Addr} {news : List (Addr × Obj)} {Q : Value → Shared → Prop} {l : Addr} {vs : List Value} {n : Nat} (N : News h₀ L s.heap news) (hm : (l, PySem.W.listOf vs.toArray n) ∈ news) (hz : vs.length ≤ 16384)
    (h : Q (.int (vs.length : Int) (s.toks + 1)) { s with toks := s.toks + 1 + 1 }) : wpAny (model prog w) A (call (.builtin "len") [.ref l]) Q E s :=
  kun_lenL (news_list N hm) (by simp) (by omega) h
end Mine
namespace Mine
theorem blit_rep (k : Nat) (x : Int) : blit (List.replicate k 0) 0 (bitsOf (k - 0) x) = bitsOf k x := by
  rw [Nat.sub_zero]; exact blit_all (by simp [bitsOf_length])
end Mine
namespace Mine
def posI (ns : List Int) (x : Int) : Nat := bis (fun k => decide (ns.getD k 0 < x)) ns.length
def hasB (ns : List Int) (x : Int) : Bool := decide (posI ns x < ns.length) && (ns.getD (posI ns x) 0 == x)
def insI (ns : List Int) (x : Int) : List Int := insAt ns (posI ns x) x
theorem lt_int' {prog : Program} {w : World} {h : Heap} {x y : Int} {u t : Tok} : LtIs prog w h (.int x u) (.int y t) (decide (x < y)) := fun _ _ _ _ _ _ _ hq => PyProof.Rows.lt_int hq
theorem ints_some : ∀ {vs : List Value} {ns : List Int}, IntsAre vs ns → ∀ {k : Nat} {v : Value}, vs[k]? = some v → ∃ t, v = .int (ns.getD k 0) t
  | _, _, .nil, k, v, e => by simp at e
  | _, _, .cons n t h, 0, v, e => by simp at e; exact ⟨t, by rw [← e]; rfl⟩
  | _, _, .cons n t h, k + 1, v, e => by
    obtain ⟨t', e'⟩ := ints_some h (k := k) (v := v) (by simpa using e)
    exact ⟨t', by rw [e']; rfl⟩
theorem lt_items {prog : Program} {w : World} {h : Heap} {vs : List Value} {ns : List Int} {x : Int} {u : Tok} (ii : IntsAre vs ns) : ∀ k v, vs[k]? = some v → LtIs prog w h v (.int x u) ((fun k => decide (ns.getD k 0 < x)) k) := by
  intro k v e
  obtain ⟨t, rfl⟩ := ints_some ii e
  exact lt_int'
theorem ints_ins : ∀ {vs : List Value} {ns : List Int}, IntsAre vs ns → ∀ (k : Nat) (x : Int) (t : Tok), IntsAre (insAt vs k (.int x t)) (insAt ns k x) := by
  intro vs ns ii k x t
  unfold insAt
  induction ii generalizing k with
  | nil => simpa using IntsAre.cons x t .nil
  | cons n t' h ih =>
    cases k with
    | zero => exact .cons x t (.cons n t' h)
    | succ k => exact .cons n t' (ih k)
theorem insAt_length {α : Type} (l : List α) (k : Nat) (x : α) : (insAt l k x).length = l.length + 1 := by
  unfold insAt; simp; omega
end Mine
namespace Mine
theorem hasB_t {ns : List Int} {x : Int} (h : posI ns x < ns.length) : (ns.getD ((posI ns x : Int)).toNat 0 == x) = hasB ns x := by
  unfold hasB; rw [Int.toNat_natCast, decide_eq_true h, Bool.true_and]
theorem hasB_f {ns : List Int} {x : Int} {n : Nat} (hn : n = ns.length) (h : ¬ posI ns x < ns.length) : decide ((posI ns x : Int) < (n : Int)) = hasB ns x := by
  unfold hasB; subst hn; rw [decide_eq_false h, decide_eq_false (by omega), Bool.false_and]
end Mine
namespace Mine
theorem keep_one {h h' : Heap} {P : Addr} {o : Obj} (e : ∀ b o, h.get? b = some o → b ∉ [P] → h'.get? b = some o) (h1 : h.get? P = some o) (h2 : h'.get? P = some o) : ∀ b o, h.get? b = some o → h'.get? b = some o := by
  intro b o' q
  by_cases hb : b = P
  · subst hb; rw [h1] at q; rw [h2, q]
  · exact e _ _ q (by simpa using hb)
/-- the code of a def, as a new object of the heap -/
def CodeNew (h : Heap) (c : Addr) (qual : Str) : Prop := ∃ oc vs t, h.get? c = some oc ∧ oc.data = .fields vs ∧ vs[1]? = some (.str qual t)
theorem codeNew_news {h₀ h : Heap} {L c : Addr} {oc : Obj} {vs : Array Value} {qual : Str} {t : Tok} {news : List (Addr × Obj)} (N : News h₀ L h news) (hm : (c, oc) ∈ news) (hd : oc.data = .fields vs) (hv : vs[1]? = some (.str qual t)) : CodeNew h c qual := ⟨oc, vs, t, (N _ hm).1, hd, hv⟩
end Mine
namespace Mine
theorem after_new {h₀ h h' : Heap} {L P c9 : Addr} {m : Str → Option Value} {news news' : List (Addr × Obj)} {o o' : Obj} {qual : Str} {Pr : Prop} (F : Fr h₀ L h m) (N : News h₀ L h news) (U : Upd P o o' news news')
    (e : ∀ b o, h.get? b = some o → b ∉ [P] → h'.get? b = some o) (ho : h'.get? P = some o') (hz : h.objs.size ≤ c9) (hc : CodeNew h' c9 qual)
    (k : ∀ oc vs t, oc.data = .fields vs → vs[1]? = some (.str qual t) → Fr h₀ L h' m → News h₀ L h' ((c9, oc) :: news') → (∀ p ∈ news, p.1 < c9) → Pr) : Pr := by
  obtain ⟨oc, vs, t, g, d, v⟩ := hc
  have hL : L < c9 := Nat.lt_of_lt_of_le F.ns.lt hz
  refine k oc vs t d v (after_F F N U e) (fun p hp => ?_) (fun p hp => Nat.lt_of_lt_of_le (Heap.lt_size (N p hp).1) hz)
  rcases List.mem_cons.mp hp with rfl | hp
  · exact ⟨g, Nat.ne_of_gt hL, Heap.get?_none_of_le (Nat.le_trans F.above (Nat.le_of_lt hL))⟩
  · exact after_N N U e ho p hp
theorem after_list {h₀ h h' : Heap} {L l : Addr} {m : Str → Option Value} {news : List (Addr × Obj)} {o : Obj} {Pr : Prop} (F : Fr h₀ L h m) (N : News h₀ L h news)
    (e : ∀ b o, h.get? b = some o → h'.get? b = some o) (hz : h.objs.size ≤ l) (ho : h'.get? l = some o)
    (k : Fr h₀ L h' m → News h₀ L h' ((l, o) :: news) → (∀ p ∈ news, p.1 < l) → Pr) : Pr := by
  have hL : L < l := Nat.lt_of_lt_of_le F.ns.lt hz
  refine k (ext_F F e) (fun p hp => ?_) (fun p hp => Nat.lt_of_lt_of_le (Heap.lt_size (N p hp).1) hz)
  rcases List.mem_cons.mp hp with rfl | hp
  · exact ⟨ho, Nat.ne_of_gt hL, Heap.get?_none_of_le (Nat.le_trans F.above (Nat.le_of_lt hL))⟩
  · exact ext_N N e p hp
def bitsOk (ns : List Int) : Prop := ∀ d ∈ ns, 0 ≤ d ∧ d ≤ 1
def sfx (size : Nat) (row : List Int) : List Int := row.drop (row.length - size)
def freshB (size : Nat) (row order : List Int) (sg : Int) : Bool := !hasB order (dval ((row ++ [sg]).drop (row.length + 1 - size)))
def signsOf (size : Nat) (row order : List Int) : List Int := [1, 0].filter (freshB size row order)
def rowRun (size : Nat) : Nat → List Int → List Int → List Int × List Int
  | 0, row, order => (row, order)
  | f + 1, row, order => match signsOf size row order with
    | [] => (row, order)
    | sg :: _ => rowRun size f (row ++ [sg]) (insI order (dval (sfx size (row ++ [sg]))))
def rowOf (size : Nat) : List Int × List Int := rowRun size (80 - size) (List.replicate size 0) (insI [] (dval (List.replicate size 0)))
end Mine
namespace Mine
structure RowSt where
  R : Addr
  vsR : List Value
  nR : Nat
  row : List Int
  vsO : List Value
  nO : Nat
  order : List Int
  oR : Obj
theorem news_sub {h₀ h : Heap} {L : Addr} {news news' : List (Addr × Obj)} (N : News h₀ L h news) (hs : ∀ p ∈ news', p ∈ news) : News h₀ L h news' := fun p hp => N p (hs p hp)
end Mine
namespace Mine
section
variable {prog : Program} {w : World} {A : Around} {E : Value → Shared → Prop} {Q : Flow → Shared → Prop} {s : Shared} {env : Env} {h₀ : Heap} {L : Addr}
def rowLed (c9 O cO cR cS P : Addr) (oc9 oO oS tab : Obj) (c : RowSt) : List (Addr × Obj) := [(c9, oc9), (O, PySem.W.listOf c.vsO.toArray c.nO), (c.R, PySem.W.listOf c.vsR.toArray c.nR), (cO, oO), (cR, c.oR), (cS, oS), (P, tab)]
structure RowFacts (z9 c9 O cO cR cS P : Addr) (c : RowSt) : Prop where
  dR : c.oR.data = .cell (some (.ref c.R))
  iR : IntsAre c.vsR c.row
  iO : IntsAre c.vsO c.order
  r1 : @LT.lt Nat _ z9 c.R
  r2 : @Ne Nat c.R c9
  r3 : @Ne Nat c.R O
  r4 : @Ne Nat c.R cO
  r5 : @Ne Nat c.R cR
  r6 : @Ne Nat c.R cS
  r7 : @Ne Nat c.R P
structure RowP (size : Nat) (fin : List Int × List Int) (c : RowSt) : Prop where
  bits : bitsOk c.row
  lo : size ≤ c.row.length
  hi : c.row.length ≤ 80
  ord : c.order.length ≤ c.row.length + 1
  run : rowRun size (80 - c.row.length) c.row c.order = fin
theorem rowWhile {test : Expr} {body : List Stmt} {pos : Pos} {m₀ : Str → Option Value} {z9 c9 D O R z cO cR cS P : Addr} {oc9 oD oz oO oR oS tab : Obj} {vsO vsR : List Value} {nO nR : Nat} {row order : List Int} (size : Nat) (fin : List Int × List Int) (stored : List Str)
    (F : Fr h₀ L s.heap m₀) (N : News h₀ L s.heap [(c9, oc9), (D, oD), (O, PySem.W.listOf vsO.toArray nO), (R, PySem.W.listOf vsR.toArray nR), (z, oz), (cO, oO), (cR, oR), (cS, oS), (P, tab)])
    (hf : RowFacts z9 c9 O cO cR cS P ⟨R, vsR, nR, row, vsO, nO, order, oR⟩) (hp : RowP size fin ⟨R, vsR, nR, row, vsO, nO, order, oR⟩)
    (turn : ∀ (c : RowSt) (u : Str → Option Value) h tk, RowFacts z9 c9 O cO cR cS P c → RowP size fin c → Fr h₀ L h (kstB (fun z => if stored.contains z then u z else m₀ z) []) → News h₀ L h (rowLed c9 O cO cR cS P oc9 oO oS tab c) →
      wpAny (model prog w) A (isTrue test env (eval test env)) (fun b s₂ =>
        if b = true then wpAny (model prog w) A (execs body env) (KswPost h₀ L s (rowLed c9 O cO cR cS P oc9 oO oS tab) (fun _ => []) (RowFacts z9 c9 O cO cR cS P) stored m₀ (RowP size fin) (fun c => 80 - c.row.length) Q c) E s₂ else Q .next s₂) E { s with heap := h, toks := tk })
    (hE : PassesOwn (model prog w) A env E) :
    wpAny (model prog w) A (exec (.While test body [] pos) env) Q E s :=
  ksw_while (rowLed c9 O cO cR cS P oc9 oO oS tab) (fun _ => []) (RowFacts z9 c9 O cO cR cS P) stored (RowP size fin) (fun c => 80 - c.row.length) ⟨R, vsR, nR, row, vsO, nO, order, oR⟩
    F (news_sub N fun p hp => by
      simp only [rowLed, List.mem_cons, List.not_mem_nil, or_false] at hp ⊢
      rcases hp with h | h | h | h | h | h | h <;> simp [h]) hf (fun _ h => nomatch h) hp turn hE
end
end Mine
namespace Mine
theorem insI_length (ns : List Int) (x : Int) : (insI ns x).length = ns.length + 1 := insAt_length _ _ _
section
variable {prog : Program} {w : World} {A : Around} {E : Value → Shared → Prop} {s : Shared} {h₀ : Heap} {L l : Addr} {m : Str → Option Value} {news : List (Addr × Obj)} {value slice : PySem.Expr} {vs : List Value} {ns : List Int} {Q : Value → Shared → Prop}
theorem slice_ints {vl vu : Value} {lo hi : Option Int} {ms : List Int} (F : Fr h₀ L s.heap m) (N : News h₀ L s.heap news) (hl : s.heap.IsList l vs.toArray) (pl : IsPart vl lo) (pu : IsPart vu hi) (hm : IntsAre (slicePick vs.toArray lo hi none).toList ms) (hz : vs.length ≤ 16384)
    (h : ∀ D ws h', Fr h₀ L h' m → News h₀ L h' ((D, PySem.W.listOf (List.toArray ws) 0) :: news) → (∀ p ∈ news, p.1 < D) → IntsAre ws ms → Q (.ref D) { s with heap := h' })
    (hs : subscripted slice false (.ref l) (.ref s.heap.objs.size) = operate [.ref s.heap.objs.size, .ref l] (getItem (.ref l) (.ref s.heap.objs.size)) := by with_unfolding_all rfl) :
    wpAny (model prog w) A (subscriptTail value slice (.ref l) (.ref s.heap.objs.size)) Q E { s with heap := s.heap.push { cls := .type "slice", data := .fields #[vl, vu, .none] } } := by
  refine tail_any (Heap.IsList.typeIs (s := { s with heap := s.heap.push { cls := .type "slice", data := .fields #[vl, vu, .none] } }) (hl.push _)) list_getitem_lookup
    (wpAny_getItem_list_slice (hl.push _) (Heap.IsSliceOf.new ..) pl pu .none (by simp) ?_ (by rw [sizeLine_eq]; simp; omega)) hs
  have N1 := News.push (F.push { cls := .type "slice", data := .fields #[vl, vu, .none] }) (N.grown fun _ _ e => Heap.get?_push_of_some _ e) { cls := .type "list", data := .seq (slicePick vs.toArray lo hi none) }
  refine h _ (slicePick vs.toArray lo hi none).toList _ ((F.push _).push _) ?_ (fun p hp => Nat.lt_of_lt_of_le (Heap.lt_size (N p hp).1) (by rw [Heap.size_push]; omega)) hm
  rw [Array.toArray_toList]
  exact N1
theorem slice_from {x : Int} {t : Tok} {k : Nat} (hx : x = (k : Int)) (F : Fr h₀ L s.heap m) (N : News h₀ L s.heap news) (hl : s.heap.IsList l vs.toArray) (ii : IntsAre vs ns) (hz : vs.length ≤ 16384)
    (h : ∀ D ws h', Fr h₀ L h' m → News h₀ L h' ((D, PySem.W.listOf (List.toArray ws) 0) :: news) → (∀ p ∈ news, p.1 < D) → IntsAre ws (ns.drop k) → Q (.ref D) { s with heap := h' })
    (hs : subscripted slice false (.ref l) (.ref s.heap.objs.size) = operate [.ref s.heap.objs.size, .ref l] (getItem (.ref l) (.ref s.heap.objs.size)) := by with_unfolding_all rfl) :
    wpAny (model prog w) A (subscriptTail value slice (.ref l) (.ref s.heap.objs.size)) Q E { s with heap := s.heap.push { cls := .type "slice", data := .fields #[.int x t, .none, .none] } } := by
  subst hx
  exact slice_ints F N hl (.int _ _) .none (kmk_from ii (by omega)) hz h hs
theorem slice_to {x : Int} {t : Tok} {k : Nat} (hx : x = (k : Int)) (F : Fr h₀ L s.heap m) (N : News h₀ L s.heap news) (hl : s.heap.IsList l vs.toArray) (ii : IntsAre vs ns) (hz : vs.length ≤ 16384)
    (h : ∀ D ws h', Fr h₀ L h' m → News h₀ L h' ((D, PySem.W.listOf (List.toArray ws) 0) :: news) → (∀ p ∈ news, p.1 < D) → IntsAre ws (ns.take k) → Q (.ref D) { s with heap := h' })
    (hs : subscripted slice false (.ref l) (.ref s.heap.objs.size) = operate [.ref s.heap.objs.size, .ref l] (getItem (.ref l) (.ref s.heap.objs.size)) := by with_unfolding_all rfl) :
    wpAny (model prog w) A (subscriptTail value slice (.ref l) (.ref s.heap.objs.size)) Q E { s with heap := s.heap.push { cls := .type "slice", data := .fields #[.none, .int x t, .none] } } := by
  subst hx
  exact slice_ints F N hl .none (.int _ _) (kmk_upto ii (by omega)) hz h hs
theorem slice_run {x y : Int} {t u : Tok} {a b : Nat} (hx : x = (a : Int)) (hy : y = (b : Int)) (F : Fr h₀ L s.heap m) (N : News h₀ L s.heap news) (hl : s.heap.IsList l vs.toArray) (ii : IntsAre vs ns) (hz : vs.length ≤ 16384)
    (h : ∀ D ws h', Fr h₀ L h' m → News h₀ L h' ((D, PySem.W.listOf (List.toArray ws) 0) :: news) → (∀ p ∈ news, p.1 < D) → IntsAre ws ((ns.drop a).take (min b ns.length - a)) → Q (.ref D) { s with heap := h' })
    (hs : subscripted slice false (.ref l) (.ref s.heap.objs.size) = operate [.ref s.heap.objs.size, .ref l] (getItem (.ref l) (.ref s.heap.objs.size)) := by with_unfolding_all rfl) :
    wpAny (model prog w) A (subscriptTail value slice (.ref l) (.ref s.heap.objs.size)) Q E { s with heap := s.heap.push { cls := .type "slice", data := .fields #[.int x t, .int y u, .none] } } := by
  subst hx hy
  exact slice_ints F N hl (.int _ _) (.int _ _) (kmk_run ii (by omega) (by omega)) hz h hs
end
end Mine
namespace Mine
theorem bits_snoc {row : List Int} {sg : Int} (h : bitsOk row) (h1 : 0 ≤ sg ∧ sg ≤ 1) : bitsOk (row ++ [sg]) := by
  intro d hd
  rcases List.mem_append.mp hd with q | q
  · exact h d q
  · rw [List.mem_singleton.mp q]; exact h1
theorem bits_drop {row : List Int} (h : bitsOk row) (k : Nat) : bitsOk (row.drop k) := fun d hd => h d (List.mem_of_mem_drop hd)
theorem bits_take {row : List Int} (h : bitsOk row) (k : Nat) : bitsOk (row.take k) := fun d hd => h d (List.mem_of_mem_take hd)
end Mine
namespace Mine
structure EqB (a b : Bool) : Prop where
  h : a = b
end Mine
namespace Mine
theorem news_drop3 {h₀ h : Heap} {L : Addr} {a b c : Addr × Obj} {r : List (Addr × Obj)} (N : News h₀ L h (a :: b :: c :: r)) : News h₀ L h r := fun p hp => N p (.tail _ (.tail _ (.tail _ hp)))
end Mine
namespace Mine
def whileOf (K : Frag) (f : Addr) : Option (Expr × List Stmt × Scope) := match K.lookup f with
  | some ⟨_, _, .func fd, _⟩ => (match fd.body with
    | .stmts b => b.findSome? fun st => (match st with
      | .While test body _ _ => some (test, body, fd.scope)
      | _ => none)
    | _ => none)
  | _ => none
def RowRet (size : Nat) (z : Nat) (P : Addr) (tab : Addr → Obj) (qual : Str) (v : Value) (h' : Heap) : Prop :=
  ∃ T R O c9 vsR nR vsO nO, v = .ref T ∧ h'.get? P = some (tab c9) ∧ CodeNew h' c9 qual ∧ h'.get? T = some { cls := .type "tuple", data := .seq [Value.ref R, Value.ref O].toArray } ∧ h'.get? R = some (PySem.W.listOf vsR.toArray nR) ∧ h'.get? O = some (PySem.W.listOf vsO.toArray nO) ∧
    IntsAre vsR (rowOf size).1 ∧ IntsAre vsO (rowOf size).2 ∧ (@LE.le Nat _ z R ∧ @LE.le Nat _ z O ∧ @LE.le Nat _ z c9 ∧ @LE.le Nat _ z T) ∧ @Ne Nat R O ∧ @Ne Nat R c9 ∧ @Ne Nat O c9 ∧ @Ne Nat T R ∧ @Ne Nat T O ∧ @Ne Nat T c9
end Mine
namespace Mine
def RowGo (h₀ : Heap) (L : Addr) (s : Shared) (c9 O : Addr) (oc9 oO oS tab : Obj) (size : Nat) (fin : List Int × List Int) (c : RowSt) (m : Str → Option Value) (fl : Flow) (s' : Shared) : Prop :=
  ∃ h' tk m', s' = { s with heap := h', toks := tk } ∧ Fr h₀ L h' m' ∧ (match fl with
    | .ret v => ∃ T : Addr, v = .ref T ∧ News h₀ L h' ((T, { cls := .type "tuple", data := .seq [Value.ref c.R, Value.ref O].toArray }) :: rowLed c9 O (L + 3) (L + 2) (L + 1) 23 oc9 oO oS tab c) ∧ (c.row, c.order) = fin ∧ @LT.lt Nat _ c.R T ∧ @LT.lt Nat _ O T ∧ @LT.lt Nat _ c9 T
    | .next => ∃ c' : RowSt, News h₀ L h' (rowLed c9 O (L + 3) (L + 2) (L + 1) 23 oc9 oO oS tab c') ∧ RowFacts (L + 3) c9 O (L + 3) (L + 2) (L + 1) 23 c' ∧ RowP size fin c' ∧ 80 - c'.row.length < 80 - c.row.length ∧ ∀ z, z ≠ Str.ofString "signs" → m' z = m z
    | _ => False)
theorem freshB_of {size : Nat} {row order : List Int} {sg : Int} {b : Bool} (h : EqB (hasB order (dval ((row ++ [sg]).drop (row.length + 1 - size)))) b) : freshB size row order sg = !b := by
  unfold freshB; rw [h.h]
theorem row_ret {size : Nat} {fin : List Int × List Int} {c : RowSt} (hP : RowP size fin c) (h1 : EqB (hasB c.order (dval ((c.row ++ [1]).drop (c.row.length + 1 - size)))) true) (h0 : EqB (hasB c.order (dval ((c.row ++ [0]).drop (c.row.length + 1 - size)))) true) :
    (c.row, c.order) = fin := by
  have e : signsOf size c.row c.order = [] := by unfold signsOf; simp [freshB_of h1, freshB_of h0]
  rw [← hP.run]
  cases hk : 80 - c.row.length with
  | zero => rfl
  | succ k => simp only [rowRun, e]
theorem row_next {size : Nat} {fin : List Int × List Int} {c c' : RowSt} {sg : Int} {r : List Int} (hP : RowP size fin c) (hl : c.row.length < 80) (hs : signsOf size c.row c.order = sg :: r) (h01 : 0 ≤ sg ∧ sg ≤ 1)
    (e1 : c'.row = c.row ++ [sg]) (e2 : c'.order = insI c.order (dval ((c.row ++ [sg]).drop (c.row.length + 1 - size)))) : RowP size fin c' ∧ 80 - c'.row.length < 80 - c.row.length := by
  have hlen : c'.row.length = c.row.length + 1 := by rw [e1]; simp
  refine ⟨⟨by rw [e1]; exact bits_snoc hP.bits h01, by have := hP.lo; omega, by omega, ?_, ?_⟩, by omega⟩
  · rw [e2, insI_length]; have := hP.ord; omega
  · have q := hP.run
    rw [show 80 - c.row.length = (80 - c'.row.length) + 1 by omega] at q
    simp only [rowRun, hs] at q
    rw [e1, e2]
    rw [e1] at q
    rw [show (c.row ++ [sg]).drop (c.row.length + 1 - size) = sfx size (c.row ++ [sg]) by unfold sfx; simp]
    exact q
theorem signs_1 {size : Nat} {row order : List Int} (h1 : EqB (hasB order (dval ((row ++ [1]).drop (row.length + 1 - size)))) false) : ∃ r, signsOf size row order = 1 :: r := by
  unfold signsOf; simp [freshB_of h1]
theorem signs_0 {size : Nat} {row order : List Int} (h1 : EqB (hasB order (dval ((row ++ [1]).drop (row.length + 1 - size)))) true) (h0 : EqB (hasB order (dval ((row ++ [0]).drop (row.length + 1 - size)))) false) : ∃ r, signsOf size row order = 0 :: r := by
  unfold signsOf; simp [freshB_of h1, freshB_of h0]
end Mine
namespace Mine
theorem EqB.to {a b c : Bool} (h : EqB a b) (e : b = c) : EqB a c := ⟨h.h.trans e⟩
theorem EqB.ne {a b : Bool} (h : EqB a b) (e : ¬ b = true) : EqB a false := ⟨h.h.trans (by simpa using e)⟩
end Mine
namespace Mine
def forOf (K : Frag) (f : Addr) : Option (Expr × Expr × List Stmt × Scope) := match K.lookup f with
  | some ⟨_, _, .func fd, _⟩ => (match fd.body with
    | .stmts b => b.findSome? fun st => (match st with
      | .For target iter body _ _ => some (target, iter, body, fd.scope)
      | _ => none)
    | _ => none)
  | _ => none
def rowS (size : Nat) : List Int := (rowOf size).1
def endsOf (size : Nat) (n : Int) : List Int := (bitsOf (Builtin.Int.intBits n) n ++ List.replicate size 0).take (size - 1)
def hitB (row : List Int) (size : Nat) (e : List Int) (k : Nat) : Bool := decide ((row.drop k).take (min (k + size - 1) row.length - k) = e)
def afterF (row : List Int) (size : Nat) (e : List Int) (k : Nat) : Option Int := if hitB row size e k = true then some (row.getD (k + size - 1) 0) else none
def aheadF (row : List Int) (size : Nat) (e : List Int) (k : Nat) : Option Int := if hitB row size e k = true then some ((row.take (2 ^ size) ++ row).getD (if k > 0 then 2 ^ size + k - 1 else 2 ^ size - 1) 0) else none
def two (l : List Int) : Bool := l == [0, 1] || l == [1, 0]
end Mine
namespace Mine
theorem pow_nat {prog : Program} {w : World} {A : Around} {E : Value → Shared → Prop} {s : Shared} {Q : Value → Shared → Prop} {t u : Tok} {n : Int} {k : Nat} (hn : n = (k : Int)) (hk : k ≤ 1000) (h : Q (.int ((2 ^ k : Nat) : Int) s.toks) { s with toks := s.toks + 1 }) :
    wpAny (model prog w) A (binaryOp .Pow (.int 2 t) (.int n u)) Q E s := by
  subst hn
  refine pow_int_small (by omega) (by omega) (by decide) ?_
  rw [Int.toNat_natCast]
  simpa using h
theorem range_small_tab : ∀ n : Nat, n < 100 → Builtin.Range.small 0 (n : Int) 1 = true := by decide +kernel
theorem range_small {n m : Nat} (h : n ≤ m) (hm : m < 100 := by decide) : Builtin.Range.small 0 (n : Int) 1 = true := range_small_tab n (by omega)
theorem range_size {n : Nat} : Builtin.Range.rangeSize 0 (n : Int) 1 = (n : Int) := by
  unfold Builtin.Range.rangeSize; simp
  try omega
end Mine

end
section
open PySem PySem.W PySem.Spec PySem.Calls PyProof.Rows
namespace Mine
/-- a comprehension's turn is over: the ledger stands as it stood -/
def TurnOver (h₀ : Heap) (L : Addr) (m : Str → Option Value) (s : Shared) (led : List (Addr × Obj)) (s' : Shared) : Prop :=
  ∃ h' tk, s' = { s with heap := h', toks := tk } ∧ Fr h₀ L h' m ∧ News h₀ L h' led
section
variable {prog : Program} {w : World} {A : Around} {s : Shared} {h₀ : Heap} {L : Addr} {m : Str → Option Value} {env : Env} {ct elt : Expr} {x : Str} {scope : Scope} {cl : List (Str × Addr)} {S : List (Addr × Obj) → Prop} {P : Nat → Value → Prop} {Fin : List Value → List (Addr × Obj) → Prop}
theorem ints_snoc {n : Int} {t : Tok} : ∀ {vs : List Value} {ns : List Int}, IntsAre vs ns → IntsAre (vs ++ [.int n t]) (ns ++ [n])
  | _, _, .nil => .cons n t .nil
  | _, _, .cons a u h => .cons a u (ints_snoc h)
theorem filterMap_succ (f : Nat → Option Int) (i : Nat) : (List.range (i + 1)).filterMap f = (List.range i).filterMap f ++ (f i).toList := by
  rw [List.range_succ, List.filterMap_append]
  cases h : f i <;> simp [h]
theorem compT_run {news : List (Addr × Obj)} {n : Nat} (f : Nat → Option Int) (hS : S news)
    (step : ∀ i v I oI C oC D ys m₂ h tk (E' : Value → Shared → Prop), i < n → P i v → LCg.NsObj oC m₂ → m₂ x = some v → Fr h₀ L h m → News h₀ L h ((I, oI) :: (C, oC) :: (D, LCg.lst ys) :: news) → LCg.Off3 I C D news → ((@Ne Nat I C) ∧ (@Ne Nat I D) ∧ (@Ne Nat C D)) →
      wpAny (model prog w) A (isTrue ct (compEnvC scope cl C env) (eval ct (compEnvC scope cl C env))) (fun ok s' => if ok = true then
        wpAny (model prog w) A (eval elt (compEnvC scope cl C env)) (fun y s'' => (∃ k t, f i = some k ∧ y = Value.int k t) ∧ TurnOver h₀ L m { s with heap := h, toks := tk } ((I, oI) :: (C, oC) :: (D, LCg.lst ys) :: news) s'') E' s'
        else f i = none ∧ TurnOver h₀ L m { s with heap := h, toks := tk } ((I, oI) :: (C, oC) :: (D, LCg.lst ys) :: news) s') E' { s with heap := h, toks := tk })
    (fin : ∀ ys, IntsAre ys ((List.range n).filterMap f) → Fin ys news) :
    LCt.CompRestT prog w A h₀ L m env ct elt x scope cl s S P Fin n 0 [] news := by
  suffices H : ∀ k i ys, i + k = n → IntsAre ys ((List.range i).filterMap f) → LCt.CompRestT prog w A h₀ L m env ct elt x scope cl s S P Fin k i ys news from H n 0 [] (by omega) .nil
  intro k
  induction k with
  | zero =>
    intro i ys e hi
    exact LCt.CompRestT.zero (fin ys (by rw [← show i = n by omega]; exact hi))
  | succ k ih =>
    intro i ys e hi
    refine LCt.CompRestT.succ ?_
    intro v I oI C oC D m₂ h tk E' hP hC hx F N off ne
    refine wpAny_mono (step i v I oI C oC D ys m₂ h tk E' (by omega) hP hC hx F N off ne) (fun ok s' q => ?_) fun _ _ q => q
    cases ok with
    | true =>
      simp only [if_true] at q ⊢
      refine wpAny_mono q (fun y s'' z => ?_) fun _ _ q => q
      obtain ⟨⟨k', t, hf, rfl⟩, h', tk', rfl, F', N'⟩ := z
      refine ⟨h', tk', news, rfl, F', N', off, hS, ih (i + 1) _ (by omega) ?_⟩
      rw [filterMap_succ, hf]
      exact ints_snoc hi
    | false =>
      simp only [Bool.false_eq_true, if_false] at q ⊢
      obtain ⟨hf, h', tk', rfl, F', N'⟩ := q
      refine ⟨h', tk', news, rfl, F', N', off, hS, ih (i + 1) ys (by omega) ?_⟩
      rw [filterMap_succ, hf]
      simpa using hi
theorem comp_run {news : List (Addr × Obj)} {n : Nat} (f : Nat → Int) (hS : S news)
    (step : ∀ i v I oI C oC D ys m₂ h tk (E' : Value → Shared → Prop), i < n → P i v → LCg.NsObj oC m₂ → m₂ x = some v → Fr h₀ L h m → News h₀ L h ((I, oI) :: (C, oC) :: (D, LCg.lst ys) :: news) → LCg.Off3 I C D news → ((@Ne Nat I C) ∧ (@Ne Nat I D) ∧ (@Ne Nat C D)) →
      wpAny (model prog w) A (eval elt (compEnvC scope cl C env)) (fun y s'' => (∃ t, y = Value.int (f i) t) ∧ TurnOver h₀ L m { s with heap := h, toks := tk } ((I, oI) :: (C, oC) :: (D, LCg.lst ys) :: news) s'') E' { s with heap := h, toks := tk })
    (fin : ∀ ys, IntsAre ys ((List.range n).map f) → Fin ys news) :
    LCg.CompRest prog w A h₀ L m env elt x scope cl s S P Fin n 0 [] news := by
  suffices H : ∀ k i ys, i + k = n → IntsAre ys ((List.range i).map f) → LCg.CompRest prog w A h₀ L m env elt x scope cl s S P Fin k i ys news from H n 0 [] (by omega) .nil
  intro k
  induction k with
  | zero =>
    intro i ys e hi
    exact LCg.CompRest.zero (fin ys (by rw [← show i = n by omega]; exact hi))
  | succ k ih =>
    intro i ys e hi
    refine LCg.CompRest.succ ?_
    intro v I oI C oC D m₂ h tk E' hP hC hx F N off ne
    refine wpAny_mono (step i v I oI C oC D ys m₂ h tk E' (by omega) hP hC hx F N off ne) (fun y s'' z => ?_) fun _ _ q => q
    obtain ⟨⟨t, rfl⟩, h', tk', rfl, F', N'⟩ := z
    refine ⟨h', tk', news, rfl, F', N', off, hS, ih (i + 1) _ (by omega) ?_⟩
    rw [List.range_succ, List.map_append]
    exact ints_snoc hi
end
end Mine

end
section
open PySem
namespace Mine
theorem law_loop : ∀ size : Nat, size < 6 → 1 ≤ size → ∀ n : Nat, n < 2 ^ (size - 1) →
    two ((List.range (2 ^ size)).filterMap (afterF (rowS size) size (endsOf size n))) = true ∧ two ((List.range (2 ^ size)).filterMap (aheadF (rowS size) size (endsOf size n))) = true := by decide +kernel
theorem law_len : ∀ size : Nat, size < 6 → 1 ≤ size → (rowS size).length = 2 ^ size + size - 1 ∧ (rowOf size).2 = (List.range (2 ^ size)).map (fun k : Nat => (k : Int)) ∧ (rowS size).drop ((rowS size).length - size + 1) = List.replicate (size - 1) 0 ∧
    (rowS size).take size = List.replicate size 0 ∧ (rowS size).sum = 2 ^ (size - 1) := by decide +kernel
def wordOf (size : Nat) (n : Int) : List Int := (bitsOf (Builtin.Int.intBits n) n ++ List.replicate size 0).take size
def placeF (row : List Int) (size : Nat) (w : List Int) (k : Nat) : Option Int := if decide ((row.drop k).take (min (k + size) row.length - k) = w) = true then some (k : Int) else none
theorem law_word : ∀ size : Nat, size < 6 → 1 ≤ size → ∀ n : Nat, n < 2 ^ size →
    ((List.range (2 ^ size)).filterMap (placeF (rowS size) size (wordOf size n))).length = 1 ∧ dval (wordOf size n) = n := by decide +kernel
structure LoopFact (row : List Int) (size : Nat) (n : Nat) : Prop where
  a : two ((List.range (2 ^ size)).filterMap (afterF row size (endsOf size n))) = true
  b : two ((List.range (2 ^ size)).filterMap (aheadF row size (endsOf size n))) = true
end Mine
namespace Mine
theorem after_some {row e : List Int} {size k : Nat} (h : (row.drop k).take (min (k + size - 1) row.length - k) = e) (h1 : 1 ≤ size) : afterF row size e k = some (row.getD (((k : Int) + (size : Int) - 1).toNat) 0) := by
  unfold afterF hitB
  rw [if_pos (by simpa using h), show ((k : Int) + (size : Int) - 1).toNat = k + size - 1 by omega]
theorem after_none {row e : List Int} {size k : Nat} (h : ¬ (row.drop k).take (min (k + size - 1) row.length - k) = e) : afterF row size e k = none := by
  unfold afterF hitB
  rw [if_neg (by simpa using h)]
theorem ahead_pos {row e : List Int} {size k : Nat} (h : (row.drop k).take (min (k + size - 1) row.length - k) = e) (h1 : 0 < k) : aheadF row size e k = some ((row.take (2 ^ size) ++ row).getD ((((2 ^ size : Nat) : Int) + (k : Int) - 1).toNat) 0) := by
  unfold aheadF hitB
  rw [if_pos (by simpa using h), if_pos h1, show (((2 ^ size : Nat) : Int) + (k : Int) - 1).toNat = 2 ^ size + k - 1 by omega]
theorem ahead_zero {row e : List Int} {size k : Nat} (h : (row.drop k).take (min (k + size - 1) row.length - k) = e) (h1 : ¬ 0 < k) : aheadF row size e k = some ((row.take (2 ^ size) ++ row).getD ((((2 ^ size : Nat) : Int) - 1).toNat) 0) := by
  unfold aheadF hitB
  rw [if_pos (by simpa using h), if_neg h1, show (((2 ^ size : Nat) : Int) - 1).toNat = 2 ^ size - 1 by omega]
theorem ahead_none {row e : List Int} {size k : Nat} (h : ¬ (row.drop k).take (min (k + size - 1) row.length - k) = e) : aheadF row size e k = none := by
  unfold aheadF hitB
  rw [if_neg (by simpa using h)]
theorem two_sorted {l ns : List Int} (h : two l = true) (hp : ns.Perm l) (hs : ns.Pairwise (· ≤ ·)) : ns = [0, 1] := by
  have hl : l = [0, 1] ∨ l = [1, 0] := by unfold two at h; simpa using h
  have h01 : ns.Perm [0, 1] := by
    rcases hl with e | e
    · rw [← e]; exact hp
    · exact hp.trans (by rw [e]; exact List.Perm.swap 0 1 [])
  have hlen : ns.length = 2 := h01.length_eq
  match ns, hlen with
  | [x, y], _ =>
    have h0 : (0 : Int) ∈ [x, y] := h01.mem_iff.mpr (by simp)
    have h1 : (1 : Int) ∈ [x, y] := h01.mem_iff.mpr (by simp)
    have hxy : x ≤ y := by simpa using hs
    simp only [List.mem_cons, List.not_mem_nil, or_false] at h0 h1
    have : x = 0 ∧ y = 1 := by omega
    rw [this.1, this.2]
end Mine
namespace Mine
theorem two_len {l : List Int} (h : two l = true) : l.length = 2 := by
  have hl : l = [0, 1] ∨ l = [1, 0] := by unfold two at h; simpa using h
  rcases hl with e | e <;> rw [e] <;> rfl
end Mine
namespace Mine
theorem bits_bitsOf : ∀ (k : Nat) (x : Int), bitsOk (bitsOf k x)
  | 0, _ => fun _ h => nomatch h
  | k + 1, x => fun d hd => by
    rcases List.mem_cons.mp hd with rfl | h
    · omega
    · exact bits_bitsOf k _ d h
theorem bits_app {a b : List Int} (ha : bitsOk a) (hb : bitsOk b) : bitsOk (a ++ b) := fun d hd => (List.mem_append.mp hd).elim (ha d) (hb d)
theorem bits_rep0 (k : Nat) : bitsOk (List.replicate k 0) := fun d hd => by rw [List.eq_of_mem_replicate hd]; decide
theorem bits_word (size : Nat) (n : Int) : bitsOk (wordOf size n) := bits_take (bits_app (bits_bitsOf _ _) (bits_rep0 _)) _
structure WordFact (row : List Int) (size : Nat) (n : Nat) : Prop where
  a : ((List.range (2 ^ size)).filterMap (placeF row size (wordOf size n))).length = 1
  b : dval (wordOf size n) = n
theorem place_some {row w : List Int} {size k : Nat} (h : (row.drop k).take (min (k + size) row.length - k) = w) : placeF row size w k = some (k : Int) := by
  unfold placeF; rw [if_pos (by simpa using h)]
theorem place_none {row w : List Int} {size k : Nat} (h : ¬ (row.drop k).take (min (k + size) row.length - k) = w) : placeF row size w k = none := by
  unfold placeF; rw [if_neg (by simpa using h)]
theorem order_keys {size : Nat} (h1 : size < 6) (h2 : 1 ≤ size) : (rowOf size).2 = PySem.W.rangeKs 0 (2 ^ size) := by
  rw [(law_len size h1 h2).2.1]
  unfold PySem.W.rangeKs
  exact List.map_congr_left fun k _ => by omega
end Mine
namespace Mine
structure RowAll (size : Nat) (row order : List Int) : Prop where
  len : row.length = 2 ^ size + size - 1
  ord : order = PySem.W.rangeKs 0 (2 ^ size)
  tail : row.drop (row.length - size + 1) = List.replicate (size - 1) 0
  head : row.take size = List.replicate size 0
  sum : row.sum = ((2 ^ (size - 1) : Nat) : Int)
  loop : ∀ n, n < 2 ^ (size - 1) → LoopFact row size n
  word : ∀ n, n < 2 ^ size → WordFact row size n
theorem rowAll {size : Nat} (h1 : 1 ≤ size) (h2 : size ≤ 5) : RowAll size (rowOf size).1 (rowOf size).2 := by
  obtain ⟨a, b, c, d, e⟩ := law_len size (by omega) h1
  refine ⟨a, order_keys (by omega) h1, c, d, ?_, fun n hn => ?_, fun n hn => ?_⟩
  · rw [show (rowOf size).1.sum = (rowS size).sum from rfl, e]; simp
  · obtain ⟨x, y⟩ := law_loop size (by omega) h1 n hn
    exact ⟨x, y⟩
  · obtain ⟨x, y⟩ := law_word size (by omega) h1 n hn
    exact ⟨x, y⟩
end Mine

end
section
open PySem PySem.W PySem.Spec PySem.Calls PyProof.Rows
namespace Mine
section
variable {prog : Program} {w : World} {A : Around} {E : Value → Shared → Prop} {s : Shared} {Q : Value → Shared → Prop}
theorem ne_ints_false {a b : Addr} {vs us : List Value} {ns ms : List Int} (e : ns = ms) (hl : s.heap.IsList a vs.toArray) (hi : IntsAre vs ns) (hl' : s.heap.IsList b us.toArray) (hi' : IntsAre us ms) (hu : A.units + 64 < cLine)
    (h : Q (.bool false) s) : wpAny (model prog w) A (compareOp .NotEq (.ref a) (.ref b)) Q E s := by
  refine ne_intsK hl hi hl' hi' hu ?_
  rw [decide_eq_true e]; exact h
end
def LoopGo (h₀ : Heap) (L : Addr) (s : Shared) (led : Obj → List (Addr × Obj)) (fl : Flow) (s' : Shared) : Prop :=
  fl = .next ∧ ∃ h' tk m' oE', s' = { s with heap := h', toks := tk } ∧ Fr h₀ L h' m' ∧ (∃ v, oE'.data = .cell v) ∧ News h₀ L h' (led oE')
theorem news_seq {h₀ h : Heap} {L l : Addr} {news : List (Addr × Obj)} {its : Array Value} {n : Nat} (N : News h₀ L h news) (hm : (l, ({ cls := .type "list", data := .seq its n } : Obj)) ∈ news) : h.IsList l its := ⟨_, (N _ hm).1, rfl, n, rfl⟩
end Mine
namespace Mine
section
variable {prog : Program} {w : World} {A : Around} {E : Value → Shared → Prop} {s : Shared} {Q : Value → Shared → Prop} {t u : Tok}
theorem mod_five {x : Int} (h : ∀ k : Nat, k < 5 → Q (.int (k : Int) s.toks) { s with toks := s.toks + 1 }) : wpAny (model prog w) A (binaryOp .Mod (.int x t) (.int 5 u)) Q E s := by
  refine PyProof.Rows.mod_int (by decide) ?_
  have h1 := Int.fmod_nonneg_of_pos x (b := 5) (by decide)
  have h2 := Int.fmod_lt_of_pos x (b := 5) (by decide)
  have := h (x.fmod 5).toNat (by omega)
  rw [show (((x.fmod 5).toNat : Nat) : Int) = x.fmod 5 by omega] at this
  exact this
theorem one_add {k : Nat} (h : Q (.int ((1 + k : Nat) : Int) s.toks) { s with toks := s.toks + 1 }) : wpAny (model prog w) A (binaryOp .Add (.int 1 t) (.int (k : Int) u)) Q E s := by
  refine PyProof.Rows.add_int ?_
  rw [show (1 : Int) + (k : Int) = ((1 + k : Nat) : Int) by omega]
  exact h
end
theorem after_row {h₀ h h' : Heap} {L P : Addr} {size : Nat} {m : Str → Option Value} {news : List (Addr × Obj)} {g : Obj → List (Addr × Obj)} {o : Obj} {tab : Addr → Obj} {qual : Str} {r : Value} {Pr : Prop} (F : Fr h₀ L h m) (N : News h₀ L h news) (U : UpdF P o news g)
    (e : ∀ b o, h.get? b = some o → b ∉ [P] → h'.get? b = some o) (hr : RowRet size h.objs.size P tab qual r h')
    (k : ∀ T R O c9 vsR nR vsO nO oc vs t, r = .ref T → oc.data = .fields vs → vs[1]? = some (.str qual t) → IntsAre vsR (rowOf size).1 → IntsAre vsO (rowOf size).2 → Fr h₀ L h' m →
      News h₀ L h' ((T, { cls := .type "tuple", data := .seq [Value.ref R, Value.ref O].toArray }) :: (R, PySem.W.listOf vsR.toArray nR) :: (O, PySem.W.listOf vsO.toArray nO) :: (c9, oc) :: g (tab c9)) →
      (∀ p ∈ news, p.1 < T) → (∀ p ∈ news, p.1 < R) → (∀ p ∈ news, p.1 < O) → (∀ p ∈ news, p.1 < c9) → (@Ne Nat R O ∧ @Ne Nat R c9 ∧ @Ne Nat O c9 ∧ @Ne Nat T R ∧ @Ne Nat T O ∧ @Ne Nat T c9) → Pr) : Pr := by
  obtain ⟨T, R, O, c9, vsR, nR, vsO, nO, rfl, g1, ⟨oc, vs, t, g2, d2, v2⟩, g3, g4, g5, i1, i2, ⟨z1, z2, z3, z4⟩, ne⟩ := hr
  obtain ⟨pre, post, rfl, hg, a, c⟩ := U.split
  have U' : Upd P o (tab c9) (pre ++ (P, o) :: post) (g (tab c9)) := by
    rw [hg]
    clear hg N e g1 U k
    induction pre with
    | nil => exact .head c
    | cons p r ih => exact .tail (a p (.head _)) (ih fun q hq => a q (.tail _ hq))
  have F' := after_F F N U' e
  have N' := after_N N U' e g1
  have hL := F.ns.lt
  have lt : ∀ {x : Nat}, h.objs.size ≤ x → ∀ p ∈ pre ++ (P, o) :: post, p.1 < x := fun hx p hp => Nat.lt_of_lt_of_le (Heap.lt_size (N p hp).1) hx
  have fr : ∀ {x : Nat}, h.objs.size ≤ x → h₀.get? x = none := fun hx => Heap.get?_none_of_le (Nat.le_trans F.above (Nat.le_of_lt (Nat.lt_of_lt_of_le hL hx)))
  have neL : ∀ {x : Nat}, h.objs.size ≤ x → x ≠ L := fun hx => Nat.ne_of_gt (Nat.lt_of_lt_of_le hL hx)
  refine k T R O c9 vsR nR vsO nO oc vs t rfl d2 v2 i1 i2 F' ?_ (lt z4) (lt z1) (lt z2) (lt z3) ne
  intro p hp
  simp only [List.mem_cons] at hp
  rcases hp with rfl | rfl | rfl | rfl | hp
  · exact ⟨g3, neL z4, fr z4⟩
  · exact ⟨g4, neL z1, fr z1⟩
  · exact ⟨g5, neL z2, fr z2⟩
  · exact ⟨g2, neL z3, fr z3⟩
  · exact N' p hp
end Mine
namespace Mine
section
variable {prog : Program} {w : World} {A : Around} {E : Value → Shared → Prop} {s : Shared} {Q : Value → Shared → Prop} {t u : Tok}
theorem mod_pow {x y : Int} {k : Nat} (hy : y = ((2 ^ k : Nat) : Int)) (h : ∀ n : Nat, n < 2 ^ k → Q (.int (n : Int) s.toks) { s with toks := s.toks + 1 }) : wpAny (model prog w) A (binaryOp .Mod (.int x t) (.int y u)) Q E s := by
  subst hy
  have hp : (0 : Int) < ((2 ^ k : Nat) : Int) := by exact_mod_cast Nat.pow_pos (n := k) (show 0 < 2 by decide)
  refine PyProof.Rows.mod_int (by omega) ?_
  have h1 := Int.fmod_nonneg_of_pos x hp
  have h2 := Int.fmod_lt_of_pos x hp
  have := h (x.fmod ((2 ^ k : Nat) : Int)).toNat (by omega)
  rw [show (((x.fmod ((2 ^ k : Nat) : Int)).toNat : Nat) : Int) = x.fmod ((2 ^ k : Nat) : Int) by omega] at this
  exact this
theorem len_is {h₀ : Heap} {L : Addr} {news : List (Addr × Obj)} {l : Addr} {its : Array Value} {n k : Nat} (N : News h₀ L s.heap news) (hm : (l, ({ cls := .type "list", data := .seq its n } : Obj)) ∈ news) (hk : its.size = k) (hz : k ≤ 16384)
    (h : Q (.int (k : Int) (s.toks + 1)) { s with toks := s.toks + 1 + 1 }) : wpAny (model prog w) A (call (.builtin "len") [.ref l]) Q E s := by
  subst hk
  exact kun_lenL (news_seq N hm) (by simp) (by omega) h
end
/-- a call has made a list and a code -/
theorem after_newl {h₀ h h' : Heap} {L P c9 l : Addr} {m : Str → Option Value} {news news' : List (Addr × Obj)} {o o' ol : Obj} {qual : Str} {Pr : Prop} (F : Fr h₀ L h m) (N : News h₀ L h news) (U : Upd P o o' news news')
    (e : ∀ b o, h.get? b = some o → b ∉ [P] → h'.get? b = some o) (ho : h'.get? P = some o') (hz : h.objs.size ≤ c9) (hc : CodeNew h' c9 qual) (hl : h.objs.size ≤ l) (gl : h'.get? l = some ol)
    (k : ∀ oc vs t, oc.data = .fields vs → vs[1]? = some (.str qual t) → Fr h₀ L h' m → News h₀ L h' ((l, ol) :: (c9, oc) :: news') → (∀ p ∈ news, p.1 < c9) → (∀ p ∈ news, p.1 < l) → Pr) : Pr :=
  after_new F N U e ho hz hc fun oc vs t d v F' N' lc => k oc vs t d v F' (fun p hp => by
    have hL : L < l := Nat.lt_of_lt_of_le F.ns.lt hl
    rcases List.mem_cons.mp hp with rfl | hp
    · exact ⟨gl, Nat.ne_of_gt hL, Heap.get?_none_of_le (Nat.le_trans F.above (Nat.le_of_lt hL))⟩
    · exact N' p hp) lc fun p hp => Nat.lt_of_lt_of_le (Heap.lt_size (N p hp).1) hl
end Mine
namespace Mine
section
variable {prog : Program} {w : World} {A : Around} {E : Value → Shared → Prop} {s : Shared} {Q : Value → Shared → Prop} {t u : Tok}
theorem one_add' {k : Nat} (h : ∀ size : Nat, size = 1 + k → Q (.int (size : Int) s.toks) { s with toks := s.toks + 1 }) : wpAny (model prog w) A (binaryOp .Add (.int 1 t) (.int (k : Int) u)) Q E s := one_add (h _ rfl)
end
theorem fr_at {h₀ h : Heap} {L : Addr} {f : Str → Option Value} {x : Str} {v : Value} (F : Fr h₀ L h f) (e : f x = some v) : Fr h₀ L h (fun z => if z = x then some v else f z) := by
  have q : (fun z => if z = x then some v else f z) = f := by
    funext z
    by_cases hz : z = x
    · subst hz; simp [e]
    · simp [hz]
  rw [q]; exact F
theorem after_row2 {h₀ h h' : Heap} {L P : Addr} {size : Nat} {m : Str → Option Value} {news : List (Addr × Obj)} {g : Obj → List (Addr × Obj)} {o : Obj} {tab : Addr → Obj} {qual : Str} {r : Value} {Pr : Prop} (h1 : 1 ≤ size) (h2 : size ≤ 5) (F : Fr h₀ L h m) (N : News h₀ L h news) (U : UpdF P o news g)
    (e : ∀ b o, h.get? b = some o → b ∉ [P] → h'.get? b = some o) (hr : RowRet size h.objs.size P tab qual r h')
    (k : ∀ T R O c9 vsR nR vsO nO oc vs t row order, RowAll size row order → r = .ref T → oc.data = .fields vs → vs[1]? = some (.str qual t) → IntsAre vsR row → IntsAre vsO order → Fr h₀ L h' m →
      News h₀ L h' ((T, { cls := .type "tuple", data := .seq [Value.ref R, Value.ref O].toArray }) :: (R, PySem.W.listOf vsR.toArray nR) :: (O, PySem.W.listOf vsO.toArray nO) :: (c9, oc) :: g (tab c9)) →
      (∀ p ∈ news, p.1 < T) → (∀ p ∈ news, p.1 < R) → (∀ p ∈ news, p.1 < O) → (∀ p ∈ news, p.1 < c9) → (@Ne Nat R O ∧ @Ne Nat R c9 ∧ @Ne Nat O c9 ∧ @Ne Nat T R ∧ @Ne Nat T O ∧ @Ne Nat T c9) → Pr) : Pr :=
  after_row F N U e hr fun T R O c9 vsR nR vsO nO oc vs t a b c iR iO => k T R O c9 vsR nR vsO nO oc vs t _ _ (rowAll h1 h2) a b c iR iO
end Mine

end
section
open PySem PySem.W PySem.Spec PySem.Calls PyProof.Rows
namespace Mine
section
variable {prog : Program} {w : World} {A : Around} {E : Value → Shared → Prop} {s : Shared} {env : Env} {h₀ : Heap} {x : Str} {body : List Stmt} {Q : Flow → Shared → Prop}
/-- A loop over a range by what stands between its turns; the ledger may change. -/
theorem loop_run {r : Addr} {b₀ : Int} {t₀ u₀ v₀ : Tok} {n : Nat} {m₀ : Str → Option Value} {news : List (Addr × Obj)} (St : Addr → Nat → (Str → Option Value) → List (Addr × Obj) → Prop)
    (hh : A.handled = none) (hr : IsRange s.heap r 0 b₀ 1 t₀ u₀ v₀) (hsmall : Builtin.Range.small 0 b₀ 1 = true) (hn : Builtin.Range.rangeSize 0 b₀ 1 = (n : Int)) (F : Fr h₀ env.locals s.heap m₀) (N : News h₀ env.locals s.heap news)
    (h0 : ∀ I : Addr, (∀ p ∈ news, p.1 < I) → St I 0 m₀ news)
    (step : ∀ I i t h tk m nx oI, i < n → St I i m nx → Fr h₀ env.locals h (fun y => if y = x then some (.int (i : Int) t) else m y) → News h₀ env.locals h ((I, oI) :: nx) →
      wpAny (model prog w) A (execs body env) (UnrPost h₀ env.locals { s with heap := h, toks := tk } I oI (St I (i + 1)) Q) E { s with heap := h, toks := tk })
    (fin : ∀ I m nx h tk, St I n m nx → Fr h₀ env.locals h m → News h₀ env.locals h nx → Q .next { s with heap := h, toks := tk }) :
    wpAny (model prog w) A (pyIter (.ref r)) (fun it s₂ => LoopAtV prog w A h₀ env x body Q E it s₂) E s := by
  refine krs_iter hh hr hsmall hn F N fun I hI => ?_
  suffices H : ∀ k i m nx, i + k = n → St I i m nx → KrsRest prog w A E h₀ env x body Q s I 0 1 n k i m nx from H n 0 m₀ news (by omega) (h0 I hI)
  intro k
  induction k with
  | zero =>
    intro i m nx e hS h tk F N
    exact fin I m nx h tk (by rw [← show i = n by omega]; exact hS) F N
  | succ k ih =>
    intro i m nx e hS t h tk F N
    rw [show (0 : Int) + (i : Int) * 1 = (i : Int) by omega] at F
    refine wpAny_mono (step I i t h tk m nx _ (by omega) hS F N) (fun f s₂ p => ?_) fun _ _ q => q
    have go : UnrEnd h₀ env.locals { s with heap := h, toks := tk } I (krsIt (0 + ((i + 1 : Nat) : Int) * 1) ((n : Int) - ((i + 1 : Nat) : Int)) 1) (St I (i + 1)) s₂ →
        UnrEnd h₀ env.locals { s with heap := h, toks := tk } I (krsIt (0 + ((i + 1 : Nat) : Int) * 1) ((n : Int) - ((i + 1 : Nat) : Int)) 1) (KrsRest prog w A E h₀ env x body Q s I 0 1 n k (i + 1)) s₂ := by
      rintro ⟨h', tk', m', nx', e', F', N', off, hS'⟩
      exact ⟨h', tk', m', nx', e', F', N', off, ih (i + 1) m' nx' (by omega) hS'⟩
    cases f with
    | ret v => exact p
    | brk => exact p
    | next => exact go p
    | cont => exact go p
end
def bodyOf (K : Frag) (f : Addr) : Option (List Stmt × Scope) := match K.lookup f with
  | some ⟨_, _, .func fd, _⟩ => (match fd.body with
    | .stmts b => some (b, fd.scope)
    | _ => none)
  | _ => none
def LawEnd (h₀ : Heap) (L : Addr) (tabs : List (Addr × Addr)) (s : Shared) (fl : Flow) (s' : Shared) : Prop :=
  fl = .ret (.bool true) ∧ ∃ h' tk m', s' = { s with heap := h', toks := tk } ∧ Fr h₀ L h' m' ∧ GrownAll tabs h'
end Mine

end
section
open PySem PySem.W PySem.Spec PySem.Calls PyProof.Rows
namespace Mine
local macro_rules | `(tactic| walk_at "call builtin:len") => `(tactic| (k_here; k_dflt (refine' len_base ?a ?b ?c ?_; (case a => k_asm); (case b => k_asm); (case c => omega); k_whole)))
theorem bis4 (w : World) {p : Program} {loose : List Str} {mean : ExcName → Option Value} {mg mb : Str → Option Value} {dp un : Nat} {gd : Option (List Code)} {cn : Str} {cs : Scope} {a : Addr} {ccd : Value} {cl : List (Str × Addr)} {outer : List Env}
    {A₀ : Around} {base h₀ : Heap} {L : Addr} {m : Str → Option Value} {s : Shared} {Q E : Value → Shared → Prop}
    (B : Below A₀ base outer h₀) (F : Fr h₀ L s.heap m) (X : (hd2.heap_39 w.params).In h₀) (T : Top p loose mean mg mb h₀) (hk : cs.kind = .function)
    {l : Addr} {vs : List Value} {x : Value} {below : Nat → Bool} {t0 : Tok}
    (hl : s.heap.IsList l vs.toArray) (hn : vs.length ≤ 1000) (hlt : ∀ k v, vs[k]? = some v → LtIs PySem.Challenge.rw_ia0004_02.row.prog w s.heap v x (below k))
    (hd : dp + 3 < recursionLimit) (hu : un + 100 < cLine)
    (hret : ∀ h' tk' t, (∀ b o, s.heap.get? b = some o → h'.get? b = some o) → Q (.int (bis below vs.length) t) { s with heap := h', toks := tk' }) :
    wpAny (model PySem.Challenge.rw_ia0004_02.row.prog w) (ktrTop dp un gd cn cs L a ccd cl outer) (call (.ref 46) [.ref l, x, .int 0 t0, .none]) Q E s := by
  revert X
  k_fill
  intro X
  k_with_none
  w_top off
  refine' con_def (fun v _ => ∃ t, v = .int (bis below vs.length) t) ?k1 ?k2 ?k3 ?k4 ?k5 ?kA ?kF ?kK ?k6 ?k7 ?k8 ?k9 ?kB ?_ ?_ ?c5 ?c2 ?c3 ?c4
  (case kA => exact rfl); (case kF => exact rfl); (case kK => first | assumption | exact rfl); (case k1 => k_asm); (case k2 => k_asm); (case k3 => k_asm); (case k4 => first | k_asm | exact News.nil); (case k5 => k_asm); (case k6 => k_is); (case k7 => k_is); (case k8 => ktr_room); (case k9 => first | exact BindsTo.of_eq rfl | exact binds_K (by k_in) rfl (by k_is) rfl rfl rfl | (refine' kp_binds ?kx ?ke; (case kx => k_in); (case ke => exact fun _ => rfl)))
  (case kB => exact locs rfl)
  (case c5 => decide)
  (case c2 => exact rfl)
  (case c3 => exact rfl)
  (case c4 => exact rfl)
  rotate_left
  · rintro r h' tk' he ⟨t, rfl⟩
    exact hret _ _ _ (fun b o e => he b o e (List.not_mem_nil))
  intro g' L' h' hg F' N' B' l1 X' T' hz'
  (try dsimp only)
  have hl' : g'.IsList l vs.toArray := by
    obtain ⟨o, e, r⟩ := hl
    exact ⟨o, hg _ _ e List.not_mem_nil, r⟩
  show wpAny _ _ _ _ _ _
  k_fold
  repeat' (first | (k_unfold; (try dsimp only)) | ((fail_if_success (with_reducible show wpAny _ _ (exec (PySem.Stmt.While _ _ _ _) _) _ _ _)); walk1))
  (rename Fr _ _ _ _ => F1)
  obtain ⟨tl, hlo⟩ := reads F1 (Str.ofString "lo") (((0 : Nat) : Int)) ⟨_, rfl⟩
  obtain ⟨th, hhi⟩ := reads F1 (Str.ofString "hi") (vs.length : Int) ⟨_, rfl⟩
  refine' ksw_while (fun _ => []) (fun (c : Nat × Nat × Tok × Tok) => [(Str.ofString "lo", Value.int (c.1 : Int) c.2.2.1), (Str.ofString "hi", Value.int (c.2.1 : Int) c.2.2.2)]) (fun _ => True) [Str.ofString "mid"] (fun c => c.1 ≤ c.2.1 ∧ c.2.1 ≤ vs.length ∧ bisGo below (c.2.1 - c.1) c.1 c.2.1 = bis below vs.length) (fun c => c.2.1 - c.1) (0, vs.length, tl, th) F1 ?N trivial ?hk ?hp ?turn PassesOwn.never
  case N => assumption
  case hk => exact List.forall_mem_cons.mpr ⟨hlo, List.forall_mem_cons.mpr ⟨hhi, List.forall_mem_nil _⟩⟩
  case hp => exact ⟨Nat.zero_le _, Nat.le_refl _, rfl⟩
  case turn =>
    rintro ⟨lo, hi, tl, th⟩ u h2 tk2 _ ⟨hp1, hp2, hp3⟩ F2 N2
    dsimp only [kstB] at F2 hp1 hp2 hp3 ⊢
    k_steps
    · have hlt' : lo < hi := by omega
      have hm : (lo + hi) / 2 < vs.length := by omega
      have em := half_nat lo hi
      obtain ⟨v, hv⟩ : ∃ v, vs[(lo + hi) / 2]? = some v := ⟨_, List.getElem?_eq_getElem hm⟩
      rw [em]
      (rename Fr _ _ _ _ => F3)
      refine item_base F3 hl' (by omega) (by omega) (by rw [Int.toNat_natCast]; exact hv) ?_
      k_steps
      refine hlt _ v hv _ _ _ _ (fun b o e => F3.keep b o (hg b o e List.not_mem_nil)) ?_ rfl ?_
      · ktr_units
      obtain ⟨t1, t2⟩ := bis_turn hp3 hlt'
      cases hb : below ((lo + hi) / 2)
      · k_steps
        (rename Fr _ _ _ _ => F9)
        obtain ⟨t9, h9⟩ := reads F9 (Str.ofString "hi") (((lo + hi) / 2 : Nat) : Int) ⟨_, congrArg (fun z => some (Value.int z _)) em⟩
        exact ksw_end (lo, (lo + hi) / 2, tl, t9) F9 (by assumption) (fun _ h => nomatch h) trivial (List.forall_mem_cons.mpr ⟨rfl, List.forall_mem_cons.mpr ⟨h9, List.forall_mem_nil _⟩⟩) (by ksw_same) ⟨by dsimp only; omega, by dsimp only; omega, t2 hb⟩ (by dsimp only; omega)
      · k_steps
        (rename Fr _ _ _ _ => F9)
        obtain ⟨t9, h9⟩ := reads F9 (Str.ofString "lo") (((lo + hi) / 2 + 1 : Nat) : Int) ⟨_, congrArg (fun z => some (Value.int (z + 1) _)) em⟩
        exact ksw_end ((lo + hi) / 2 + 1, hi, t9, th) F9 (by assumption) (fun _ h => nomatch h) trivial (List.forall_mem_cons.mpr ⟨h9, List.forall_mem_cons.mpr ⟨rfl, List.forall_mem_nil _⟩⟩) (by ksw_same) ⟨by dsimp only; omega, by dsimp only; omega, t1 hb⟩ (by dsimp only; omega)
    · show Done _ _ _ _ _
      exact Done.mk' F2 ⟨tl, by rw [bis_end hp3 (by omega)]⟩
theorem bis2 (w : World) {p : Program} {loose : List Str} {mean : ExcName → Option Value} {mg mb : Str → Option Value} {dp un : Nat} {gd : Option (List Code)} {cn : Str} {cs : Scope} {a : Addr} {ccd : Value} {cl : List (Str × Addr)} {outer : List Env}
    {A₀ : Around} {base h₀ : Heap} {L : Addr} {m : Str → Option Value} {s : Shared} {Q E : Value → Shared → Prop}
    (B : Below A₀ base outer h₀) (F : Fr h₀ L s.heap m) (X : (hd2.heap_39 w.params).In h₀) (T : Top p loose mean mg mb h₀) (hk : cs.kind = .function)
    {l : Addr} {vs : List Value} {x : Value} {below : Nat → Bool} 
    (hl : s.heap.IsList l vs.toArray) (hn : vs.length ≤ 1000) (hlt : ∀ k v, vs[k]? = some v → LtIs PySem.Challenge.rw_ia0004_02.row.prog w s.heap v x (below k))
    (hd : dp + 3 < recursionLimit) (hu : un + 100 < cLine)
    (hret : ∀ h' tk' t, (∀ b o, s.heap.get? b = some o → h'.get? b = some o) → Q (.int (bis below vs.length) t) { s with heap := h', toks := tk' }) :
    wpAny (model PySem.Challenge.rw_ia0004_02.row.prog w) (ktrTop dp un gd cn cs L a ccd cl outer) (call (.ref 46) [.ref l, x]) Q E s := by
  revert X
  k_fill
  intro X
  k_with_none
  w_top off
  refine' con_def (fun v _ => ∃ t, v = .int (bis below vs.length) t) ?k1 ?k2 ?k3 ?k4 ?k5 ?kA ?kF ?kK ?k6 ?k7 ?k8 ?k9 ?kB ?_ ?_ ?c5 ?c2 ?c3 ?c4
  (case kA => exact rfl); (case kF => exact rfl); (case kK => first | assumption | exact rfl); (case k1 => k_asm); (case k2 => k_asm); (case k3 => k_asm); (case k4 => first | k_asm | exact News.nil); (case k5 => k_asm); (case k6 => k_is); (case k7 => k_is); (case k8 => ktr_room); (case k9 => first | exact BindsTo.of_eq rfl | exact binds_K (by k_in) rfl (by k_is) rfl rfl rfl | (refine' kp_binds ?kx ?ke; (case kx => k_in); (case ke => exact fun _ => rfl)))
  (case kB => exact locs rfl)
  (case c5 => decide)
  (case c2 => exact rfl)
  (case c3 => exact rfl)
  (case c4 => exact rfl)
  rotate_left
  · rintro r h' tk' he ⟨t, rfl⟩
    exact hret _ _ _ (fun b o e => he b o e (List.not_mem_nil))
  intro g' L' h' hg F' N' B' l1 X' T' hz'
  (try dsimp only)
  have hl' : g'.IsList l vs.toArray := by
    obtain ⟨o, e, r⟩ := hl
    exact ⟨o, hg _ _ e List.not_mem_nil, r⟩
  show wpAny _ _ _ _ _ _
  k_fold
  repeat' (first | (k_unfold; (try dsimp only)) | ((fail_if_success (with_reducible show wpAny _ _ (exec (PySem.Stmt.While _ _ _ _) _) _ _ _)); walk1))
  (rename Fr _ _ _ _ => F1)
  obtain ⟨tl, hlo⟩ := reads F1 (Str.ofString "lo") (((0 : Nat) : Int)) ⟨_, rfl⟩
  obtain ⟨th, hhi⟩ := reads F1 (Str.ofString "hi") (vs.length : Int) ⟨_, rfl⟩
  refine' ksw_while (fun _ => []) (fun (c : Nat × Nat × Tok × Tok) => [(Str.ofString "lo", Value.int (c.1 : Int) c.2.2.1), (Str.ofString "hi", Value.int (c.2.1 : Int) c.2.2.2)]) (fun _ => True) [Str.ofString "mid"] (fun c => c.1 ≤ c.2.1 ∧ c.2.1 ≤ vs.length ∧ bisGo below (c.2.1 - c.1) c.1 c.2.1 = bis below vs.length) (fun c => c.2.1 - c.1) (0, vs.length, tl, th) F1 ?N trivial ?hk ?hp ?turn PassesOwn.never
  case N => assumption
  case hk => exact List.forall_mem_cons.mpr ⟨hlo, List.forall_mem_cons.mpr ⟨hhi, List.forall_mem_nil _⟩⟩
  case hp => exact ⟨Nat.zero_le _, Nat.le_refl _, rfl⟩
  case turn =>
    rintro ⟨lo, hi, tl, th⟩ u h2 tk2 _ ⟨hp1, hp2, hp3⟩ F2 N2
    dsimp only [kstB] at F2 hp1 hp2 hp3 ⊢
    k_steps
    · have hlt' : lo < hi := by omega
      have hm : (lo + hi) / 2 < vs.length := by omega
      have em := half_nat lo hi
      obtain ⟨v, hv⟩ : ∃ v, vs[(lo + hi) / 2]? = some v := ⟨_, List.getElem?_eq_getElem hm⟩
      rw [em]
      (rename Fr _ _ _ _ => F3)
      refine item_base F3 hl' (by omega) (by omega) (by rw [Int.toNat_natCast]; exact hv) ?_
      k_steps
      refine hlt _ v hv _ _ _ _ (fun b o e => F3.keep b o (hg b o e List.not_mem_nil)) ?_ rfl ?_
      · ktr_units
      obtain ⟨t1, t2⟩ := bis_turn hp3 hlt'
      cases hb : below ((lo + hi) / 2)
      · k_steps
        (rename Fr _ _ _ _ => F9)
        obtain ⟨t9, h9⟩ := reads F9 (Str.ofString "hi") (((lo + hi) / 2 : Nat) : Int) ⟨_, congrArg (fun z => some (Value.int z _)) em⟩
        exact ksw_end (lo, (lo + hi) / 2, tl, t9) F9 (by assumption) (fun _ h => nomatch h) trivial (List.forall_mem_cons.mpr ⟨rfl, List.forall_mem_cons.mpr ⟨h9, List.forall_mem_nil _⟩⟩) (by ksw_same) ⟨by dsimp only; omega, by dsimp only; omega, t2 hb⟩ (by dsimp only; omega)
      · k_steps
        (rename Fr _ _ _ _ => F9)
        obtain ⟨t9, h9⟩ := reads F9 (Str.ofString "lo") (((lo + hi) / 2 + 1 : Nat) : Int) ⟨_, congrArg (fun z => some (Value.int (z + 1) _)) em⟩
        exact ksw_end ((lo + hi) / 2 + 1, hi, t9, th) F9 (by assumption) (fun _ h => nomatch h) trivial (List.forall_mem_cons.mpr ⟨h9, List.forall_mem_cons.mpr ⟨rfl, List.forall_mem_nil _⟩⟩) (by ksw_same) ⟨by dsimp only; omega, by dsimp only; omega, t1 hb⟩ (by dsimp only; omega)
    · show Done _ _ _ _ _
      exact Done.mk' F2 ⟨tl, by rw [bis_end hp3 (by omega)]⟩
end Mine

end
section
open PySem PySem.W PySem.Spec PySem.Calls PyProof.Rows
namespace Mine
local macro_rules | `(tactic| walk_at "call ref") => `(tactic| k_extra "my call")
local macro_rules | `(tactic| walk_at "call builtin:list.insert") => `(tactic| k_extra "my insert")
theorem ins2 (w : World) {p : Program} {loose : List Str} {mean : ExcName → Option Value} {mg mb : Str → Option Value} {dp un : Nat} {gd : Option (List Code)} {cn : Str} {cs : Scope} {a : Addr} {ccd : Value} {cl : List (Str × Addr)} {outer : List Env}
    {A₀ : Around} {base h₀ : Heap} {L : Addr} {m : Str → Option Value} {s : Shared} {Q E : Value → Shared → Prop}
    (B : Below A₀ base outer h₀) (F : Fr h₀ L s.heap m) (X : (hd2.heap_39 w.params).In h₀) (T : Top p loose mean mg mb h₀) (hk : cs.kind = .function)
    {l : Addr} {vs : List Value} {n : Nat} {x : Value} {below : Nat → Bool}
    (N : News h₀ L s.heap [(l, listOf vs.toArray n)]) (hn : vs.length ≤ 1000) (hlt : ∀ k v, vs[k]? = some v → LtIs PySem.Challenge.rw_ia0004_02.row.prog w s.heap v x (below k))
    (hd : dp + 6 < recursionLimit) (hu : un + 200 < cLine)
    (hret : ∀ h' tk', (∀ b o, s.heap.get? b = some o → b ∉ [l] → h'.get? b = some o) → h'.get? l = some (listOf (insAt vs (bis below vs.length) x).toArray (n + 1)) → Q .none { s with heap := h', toks := tk' }) :
    wpAny (model PySem.Challenge.rw_ia0004_02.row.prog w) (ktrTop dp un gd cn cs L a ccd cl outer) (call (.ref 37) [.ref l, x]) Q E s := by
  revert X
  k_fill
  intro X
  k_with_none
  w_top off
  refine' con_def (fun v h' => v = .none ∧ h'.get? l = some (listOf (insAt vs (bis below vs.length) x).toArray (n + 1))) ?k1 ?k2 ?k3 ?k4 ?k5 ?kA ?kF ?kK ?k6 ?k7 ?k8 ?k9 ?kB ?_ ?_ ?c5 ?c2 ?c3 ?c4
  (case kA => exact rfl); (case kF => exact rfl); (case kK => first | assumption | exact rfl); (case k1 => k_asm); (case k2 => k_asm); (case k3 => k_asm); (case k4 => first | k_asm | exact News.nil); (case k5 => k_asm); (case k6 => k_is); (case k7 => k_is); (case k8 => ktr_room); (case k9 => first | exact BindsTo.of_eq rfl | exact binds_K (by k_in) rfl (by k_is) rfl rfl rfl | (refine' kp_binds ?kx ?ke; (case kx => k_in); (case ke => exact fun _ => rfl)))
  (case kB => exact locs rfl)
  (case c5 => decide)
  (case c2 => exact rfl)
  (case c3 => exact rfl)
  (case c4 => exact rfl)
  rotate_left
  · rintro r h' tk' he ⟨rfl, e⟩
    exact hret _ _ he e
  intro g' L' h' hg F' N' B' l1 X' T' hz'
  (try dsimp only)
  show wpAny _ _ _ _ _ _
  k_fold
  k_with "my call" => (refine' bis4 w ?B ?F ?X ?T ?hk ?hl ?hn ?hlt ?hd ?hu ?_; (case B => k_asm); (case F => k_asm); (case X => k_asm); (case T => k_asm); (case hk => exact rfl); (case hl => exact news_list (by k_asm) (List.Mem.head _)); (case hn => exact hn); (case hlt => exact fun k v hv => (hlt k v hv).mono (keep_all N hg (by k_asm) (by k_asm))); (case hd => ktr_room); (case hu => ktr_units); (intro h9 tk9 t9 e9; (try dsimp only at e9); (have F9 := ext_F (by k_asm) e9); (have N9 := ext_N (by k_asm) e9); (try dsimp only); (try k_sweep); (try k_fold)))
  k_with "my insert" => (refine' kl_insert (n := n) (l := insAt vs (bis below vs.length) x) ?iF ?iN ?ix ?ie (Upd.head (List.forall_mem_nil _)) ?iz ?_; (case iF => k_asm); (case iN => k_asm); (case ix => exact fits_small (bis_le _ _) hn); (case ie => exact insAt_kl (bis_le _ _)); (case iz => (show vs.length ≤ sizeLine; rw [sizeLine_eq]; omega)); (intro h8 F8 N8; (try dsimp only); (try k_sweep); (try k_fold)))
  k_steps
  show Done _ _ _ _ _
  (rename Fr _ _ _ _ => F1)
  (rename News _ _ _ _ => N1)
  exact Done.mk' F1 ⟨rfl, (N1 _ (.head _)).1⟩

theorem insI2 (w : World) {p : Program} {loose : List Str} {mean : ExcName → Option Value} {mg mb : Str → Option Value} {dp un : Nat} {gd : Option (List Code)} {cn : Str} {cs : Scope} {a : Addr} {ccd : Value} {cl : List (Str × Addr)} {outer : List Env}
    {A₀ : Around} {base h₀ : Heap} {L : Addr} {m : Str → Option Value} {s : Shared} {Q E : Value → Shared → Prop}
    (B : Below A₀ base outer h₀) (F : Fr h₀ L s.heap m) (X : (hd2.heap_39 w.params).In h₀) (T : Top p loose mean mg mb h₀) (hk : cs.kind = .function)
    {l : Addr} {vs : List Value} {n : Nat} {ns : List Int} {x : Int} {tx : Tok}
    (N : News h₀ L s.heap [(l, listOf vs.toArray n)]) (ii : IntsAre vs ns) (hn : ns.length ≤ 1000)
    (hd : dp + 6 < recursionLimit) (hu : un + 200 < cLine)
    (hret : ∀ h' tk' vs', (∀ b o, s.heap.get? b = some o → b ∉ [l] → h'.get? b = some o) → h'.get? l = some (listOf vs'.toArray (n + 1)) → IntsAre vs' (insI ns x) → Q .none { s with heap := h', toks := tk' }) :
    wpAny (model PySem.Challenge.rw_ia0004_02.row.prog w) (ktrTop dp un gd cn cs L a ccd cl outer) (call (.ref 37) [.ref l, .int x tx]) Q E s := by
  have e : vs.length = ns.length := ii.length
  refine ins2 w B F X T hk N (by omega) (lt_items ii) hd hu fun h' tk' e1 e2 => ?_
  rw [show bis (fun k => decide (ns.getD k 0 < x)) vs.length = posI ns x by rw [e]; rfl] at e2
  exact hret _ _ _ e1 e2 (ints_ins ii _ _ _)
end Mine

end
section
open PySem PySem.W PySem.Spec PySem.Calls PyProof.Rows
namespace Mine
local macro_rules | `(tactic| walk_at "call ref") => `(tactic| k_extra "my call")
local macro_rules | `(tactic| walk_at "callWith ref") => `(tactic| k_extra "my with")
local macro_rules | `(tactic| walk_at "eval Name") => `(tactic| k_extra "my free")
local macro_rules | `(tactic| walk_at "subscriptTail") => `(tactic| k_extra "my item")
local macro_rules | `(tactic| walk_at "FnAt") => `(tactic| k_extra "my fnat")
local macro_rules | `(tactic| walk_at "binaryOp RShift int int") => `(tactic| k_extra "my shr")
local macro_rules | `(tactic| walk_at "binaryOp LShift int int") => `(tactic| k_extra "my shl")
theorem d2iInner (w : World) {name : Str} {params : Arguments} {body : List Stmt} {scope : Scope} {pos : Pos} (hin : innerOf (hd2.heap_39 w.params) 28 = some (name, params, body, scope, pos))
    {f c' cD cI cN l : Addr} {qual : Str} {doc pm ctv : Value} {clos : List (Str × Addr)} {vs : List Value} {ns : List Int} {tn : Tok}
    (cd : clos.lookup (Str.ofString "digits") = some cD) (ci : clos.lookup (Str.ofString "inner") = some cI) (cn' : clos.lookup (Str.ofString "n") = some cN)
    (hi' : IntsAre vs ns) (hbits : ∀ d ∈ ns, 0 ≤ d ∧ d ≤ 1) (hlen : ns.length ≤ 64) :
    ∀ (k : Nat) {p : Program} {loose : List Str} {mean : ExcName → Option Value} {mg mb : Str → Option Value} {dp un : Nat} {gd : Option (List Code)} {cn : Str} {cs : Scope} {a : Addr} {ccd : Value} {cl : List (Str × Addr)} {outer : List Env}
    {A₀ : Around} {base h₀ : Heap} {L : Addr} {m : Str → Option Value} {s : Shared} {Q E : Value → Shared → Prop}
    (B : Below A₀ base outer h₀) (F : Fr h₀ L s.heap m) (X : (hd2.heap_39 w.params).In h₀) (T : Top p loose mean mg mb h₀) (hk : cs.kind = .function)
    {lo hi : Nat} {t1 t2 : Tok} {oD oI oN : Obj},
    (hf : s.heap.get? f = some (fnMade name qual params body scope clos doc pm c' ctv)) → (hcode : s.heap.CodeRec (.ref c') qual) →
    (gD : s.heap.get? cD = some oD) → (dD : oD.data = .cell (some (.ref l))) → (gI : s.heap.get? cI = some oI) → (dI : oI.data = .cell (some (.ref f))) → (gN : s.heap.get? cN = some oN) → (dN : oN.data = .cell (some (.int 1 tn))) →
    (hl : s.heap.IsList l vs.toArray) → (hlt : lo < hi) → (hle : hi ≤ ns.length) → (hkk : hi - lo ≤ k) →
    (hd : dp + k + 3 < recursionLimit) → (hu : un + 16 * k + 100 < cLine) →
    (hret : ∀ h' tk' t, (∀ b o, s.heap.get? b = some o → h'.get? b = some o) → Q (.int (dval (seg ns lo hi)) t) { s with heap := h', toks := tk' }) →
    wpAny (model PySem.Challenge.rw_ia0004_02.row.prog w) (ktrTop dp un gd cn cs L a ccd cl outer) (call (.ref f) [.int (lo : Int) t1, .int (hi : Int) t2]) Q E s := by
  cases hin
  intro k
  induction k with
  | zero => intros; omega
  | succ k ih => ?_
  intro p loose mean mg mb dp un gd cn cs a ccd cl outer A₀ base h₀ L m s Q E B F X T hk lo hi t1 t2 oD oI oN hf hcode gD dD gI dI gN dN hl hlt hle hkk hd hu hret
  revert X
  k_fill
  intro X
  k_with_none
  w_top off
  refine' con_plain (mu := []) (post := fun v _ => ∃ t, v = .int (dval (seg ns lo hi)) t) B F News.nil T.nolimit rfl rfl hk hf rfl hcode ?k8 (BindsTo.of_eq rfl) (locs rfl) ?_ ?_ (by decide) rfl rfl rfl
  (case k8 => ktr_room)
  rotate_left
  · rintro r h' tk' he ⟨t, rfl⟩
    exact hret _ _ _ (fun b o e => he b o e (List.not_mem_nil))
  intro g' L' h' hg F' N' B' l1 st hz'
  have X' := X.keeps st
  have T' := T.keeps st
  have up : ∀ b o, s.heap.get? b = some o → g'.get? b = some o := fun b o e => hg b o e List.not_mem_nil
  have hl' : g'.IsList l vs.toArray := by
    obtain ⟨o, e, r⟩ := hl
    exact ⟨o, up _ _ e, r⟩
  have hf' := up _ _ hf
  have gD' := up _ _ gD
  have gI' := up _ _ gI
  have gN' := up _ _ gN
  have hc' := hcode.keeps up
  show wpAny _ _ _ _ _ _
  k_fold
  k_with "my free" => (k_dflt (refine' free_base ?a ?b ?c ?d ?_ ?e ?x; (case a => k_asm); (case b => assumption); (case c => assumption); (case d => assumption); (case e => rfl); (case x => rfl)))
  k_with "my shr" => (refine shr1 ?_)
  k_with "my shl" => (refine' shl_nat (k := (lo + hi) / 2 - lo) (j := 64) ?n ?h0 ?h1 ?hj ?_; (case n => omega); (case h0 => exact (dval_seg_lt hbits hlen (by omega)).1); (case h1 => exact (dval_seg_lt hbits hlen (by omega)).2); (case hj => omega))
  k_with "my with" => (refine' callWith_F ?k1 ?_; (case k1 => exact ⟨_, _, _, _, Fr.keep (by k_asm) _ _ hf'⟩))
  k_with "my fnat" => (exact ⟨_, _, _, _, Fr.keep (by k_asm) _ _ hf'⟩)
  k_with "my call" => ((first | refine' ih (lo := (lo + hi) / 2) (hi := hi) (oD := oD) (oI := oI) (oN := oN) ?B ?F ?X ?T ?hk ?f ?c ?gD dD ?gI dI ?gN dN ?l ?lt ?le ?kk ?hd ?hu ?_ | refine' ih (lo := lo) (hi := (lo + hi) / 2) (oD := oD) (oI := oI) (oN := oN) ?B ?F ?X ?T ?hk ?f ?c ?gD dD ?gI dI ?gN dN ?l ?lt ?le ?kk ?hd ?hu ?_); (case B => k_asm); (case F => k_asm); (case X => k_asm); (case T => k_asm); (case hk => exact rfl); (case f => exact Fr.keep (by k_asm) _ _ hf'); (case c => exact hc'.keeps (Fr.keep (by k_asm))); (case gD => exact Fr.keep (by k_asm) _ _ gD'); (case gI => exact Fr.keep (by k_asm) _ _ gI'); (case gN => exact Fr.keep (by k_asm) _ _ gN'); (case l => exact hl'.at fun o e => Fr.keep (by k_asm) _ o e); (case lt => omega); (case le => omega); (case kk => omega); (case hd => ktr_room); (case hu => ktr_units); (intro h9 tk9 t9 e9; (try dsimp only at e9); (have F9 := ext_F (by k_asm) e9); (have N9 := ext_N (by k_asm) e9); (try dsimp only); (try k_sweep); (try k_fold)))
  k_with "my item" => (obtain ⟨t0, hv⟩ := hi'.get lo ns[lo] (List.getElem?_eq_getElem (by omega)); refine item_base (by k_asm) hl' (by omega) (by omega) (by rw [Int.toNat_natCast]; exact hv) ?_)
  k_steps
  · show Done _ _ _ _ _
    exact Done.mk' (by k_asm) ⟨_, congrArg (fun z => Value.int z _) (seg_last (by omega) (by omega))⟩
  · exact Done.mk' (by k_asm) ⟨_, congrArg (fun z => Value.int z _) (dval_split (by omega) (by omega) hle)⟩
end Mine

end
section
open PySem PySem.W PySem.Spec PySem.Calls PyProof.Rows
namespace Mine
local macro_rules | `(tactic| walk_at "call builtin:len") => `(tactic| (k_here; k_dflt (refine' len_base ?a ?b ?c ?_; (case a => k_asm); (case b => k_asm); (case c => omega); k_whole)))
local macro_rules | `(tactic| walk_at "call ref") => `(tactic| k_extra "my call")
local macro_rules | `(tactic| walk_at "truthy ref") => `(tactic| k_extra "my truth")
def d2iQual : Str := Str.ofString "_digits2int.<locals>.inner"
theorem d2iNew (w : World) {p : Program} {loose : List Str} {mean : ExcName → Option Value} {mg mb : Str → Option Value} {dp un : Nat} {gd : Option (List Code)} {cn : Str} {cs : Scope} {a : Addr} {ccd : Value} {cl : List (Str × Addr)} {outer : List Env}
    {A₀ : Around} {base h₀ : Heap} {L : Addr} {m : Str → Option Value} {s : Shared} {Q E : Value → Shared → Prop}
    (B : Below A₀ base outer h₀) (F : Fr h₀ L s.heap m) (X : (hd2.heap_39 w.params).In h₀) (T : Top p loose mean mg mb h₀) (hk : cs.kind = .function) (C : CodeHd base 27 23)
    {l : Addr} {vs : List Value} {ns : List Int} {tn : Tok}
    (N : News h₀ L s.heap [(23, tabObj #[])]) (hlP : l ≠ 23)
    (hl : s.heap.IsList l vs.toArray) (hi' : IntsAre vs ns) (hbits : ∀ d ∈ ns, 0 ≤ d ∧ d ≤ 1) (hlen : ns.length ≤ 64)
    (hd : dp + 100 < recursionLimit) (hu : un + 2000 < cLine)
    (hret : ∀ h' tk' t c9, (∀ b o, s.heap.get? b = some o → b ∉ [23] → h'.get? b = some o) → h'.get? 23 = some (tabObj #[rawInt 20, rawInt 4, .ref c9]) → s.heap.objs.size ≤ c9 → CodeNew h' c9 d2iQual → Q (.int (dval ns) t) { s with heap := h', toks := tk' }) :
    wpAny (model PySem.Challenge.rw_ia0004_02.row.prog w) (ktrTop dp un gd cn cs L a ccd cl outer) (call (.ref 28) [.ref l, .int 1 tn]) Q E s := by
  revert X
  k_fill
  intro X
  k_with_none
  w_top off
  refine' con_defC (fun v h' => (∃ t, v = .int (dval ns) t) ∧ ∃ c9, h'.get? 23 = some (tabObj #[rawInt 20, rawInt 4, .ref c9]) ∧ s.heap.objs.size ≤ c9 ∧ CodeNew h' c9 d2iQual) ?k1 ?k2 ?k3 ?k4 ?k5 ?kA ?kF ?kK ?k6 ?k7 ?k8 ?k9 ?kB ?kD ?_ ?_ ?c2 ?c3 ?c4
  (case kA => exact rfl); (case kF => exact rfl); (case kK => first | assumption | exact rfl); (case k1 => k_asm); (case k2 => k_asm); (case k3 => k_asm); (case k4 => first | k_asm | exact News.nil); (case k5 => k_asm); (case k6 => k_is); (case k7 => k_is); (case k8 => ktr_room); (case k9 => first | exact BindsTo.of_eq rfl | exact binds_K (by k_in) rfl (by k_is) rfl rfl rfl | (refine' kp_binds ?kx ?ke; (case kx => k_in); (case ke => exact fun _ => rfl)))
  (case kB => exact rfl)
  (case kD => decide +kernel)
  (case c2 => exact rfl)
  (case c3 => exact rfl)
  (case c4 => exact rfl)
  rotate_left
  · rintro r h' tk' he ⟨⟨t, rfl⟩, c9, e1, e2, e3⟩
    exact hret _ _ _ _ he e1 e2 e3
  intro g' L' h' tk' cells' hg F' N' Y' B' l1 X' T' hz'
  (try k_lt l1)
  k_cells Y'
  (try simp only [List.cons_append, List.nil_append] at N')
  (try dsimp only)
  have hl' : g'.IsList l vs.toArray := by
    obtain ⟨o, e, r⟩ := hl
    exact ⟨o, hg _ _ e (by simpa using hlP), r⟩
  have hlen' : vs.length = ns.length := hi'.length
  show wpAny _ _ _ _ _ _
  k_fold
  k_with "my truth" => (refine truthy_base (by k_asm) hl' (by omega) ?_)
  k_with "my call" => ((rename News _ _ _ _ => N7); rw [hlen']; refine' d2iInner w (name := Str.ofString "inner") ?hin ?cd ?ci ?cn hi' hbits hlen 64 (lo := 0) (hi := ns.length) ?B ?F ?X ?T ?hk ?f ?c ?gD ?dD ?gI ?dI ?gN ?dN ?l ?lt ?le ?kk ?hd ?hu ?_; (case B => k_asm); (case F => k_asm); (case X => k_asm); (case T => k_asm); (case hk => exact rfl); (case f => exact News.get N7 (by k_mem)); (case hin => exact rfl); (case cd => exact rfl); (case ci => exact rfl); (case cn => exact rfl); (case c => exact codeRec_news N7 (by k_mem) (by k_asm) (by k_asm)); (case gD => exact News.get N7 (by k_mem)); (case gI => exact News.get N7 (by k_mem)); (case gN => exact News.get N7 (by k_mem)); (case dD => k_asm); (case dI => k_asm); (case dN => k_asm); (case l => exact hl'.at fun o e => Fr.keep (by k_asm) _ o e); (case lt => omega); (case le => omega); (case kk => omega); (case hd => ktr_room); (case hu => ktr_units); (intro h9 tk9 t9 e9; (try dsimp only at e9); (have F9 := ext_F (by k_asm) e9); (have N9 := ext_N (by k_asm) e9); (try dsimp only); (try k_sweep); (try k_fold)))
  k_steps
  · (show Done _ _ _ _ _)
    (rename News _ _ _ _ => N8)
    exact Done.mk' (by k_asm) ⟨⟨_, congrArg (fun z => Value.int z _) (congrArg dval (seg_all ns))⟩, _, News.get N8 (by k_mem), by omega, codeNew_news N8 (by k_mem) (by k_asm) (by k_asm)⟩
  · (show Done _ _ _ _ _)
    (rename News _ _ _ _ => N8)
    have e0 : ns = [] := List.eq_nil_of_length_eq_zero (by omega)
    exact Done.mk' (by k_asm) ⟨⟨_, congrArg (fun z => Value.int z _) (by rw [e0]; rfl)⟩, _, News.get N8 (by k_mem), by omega, codeNew_news N8 (by k_mem) (by k_asm) (by k_asm)⟩

theorem d2iHit (w : World) {p : Program} {loose : List Str} {mean : ExcName → Option Value} {mg mb : Str → Option Value} {dp un : Nat} {gd : Option (List Code)} {cn : Str} {cs : Scope} {a : Addr} {ccd : Value} {cl : List (Str × Addr)} {outer : List Env}
    {A₀ : Around} {base h₀ : Heap} {L : Addr} {m : Str → Option Value} {s : Shared} {Q E : Value → Shared → Prop}
    (B : Below A₀ base outer h₀) (F : Fr h₀ L s.heap m) (X : (hd2.heap_39 w.params).In h₀) (T : Top p loose mean mg mb h₀) (hk : cs.kind = .function) (C : CodeHd base 27 23)
    {l : Addr} {vs : List Value} {ns : List Int} {tn : Tok} {c9 : Addr}
    (N : News h₀ L s.heap [(23, tabObj #[rawInt 20, rawInt 4, .ref c9])]) (hcr : s.heap.CodeRec (.ref c9) d2iQual) (hlP : l ≠ 23)
    (hl : s.heap.IsList l vs.toArray) (hi' : IntsAre vs ns) (hbits : ∀ d ∈ ns, 0 ≤ d ∧ d ≤ 1) (hlen : ns.length ≤ 64)
    (hd : dp + 100 < recursionLimit) (hu : un + 2000 < cLine)
    (hret : ∀ h' tk' t, (∀ b o, s.heap.get? b = some o → h'.get? b = some o) → Q (.int (dval ns) t) { s with heap := h', toks := tk' }) :
    wpAny (model PySem.Challenge.rw_ia0004_02.row.prog w) (ktrTop dp un gd cn cs L a ccd cl outer) (call (.ref 28) [.ref l, .int 1 tn]) Q E s := by
  revert X
  k_fill
  intro X
  k_with_none
  w_top off
  refine' con_defC (fun v h' => (∃ t, v = .int (dval ns) t) ∧ h'.get? 23 = some (tabObj #[rawInt 20, rawInt 4, .ref c9])) ?k1 ?k2 ?k3 ?k4 ?k5 ?kA ?kF ?kK ?k6 ?k7 ?k8 ?k9 ?kB ?kD ?_ ?_ ?c2 ?c3 ?c4
  (case kA => exact rfl); (case kF => exact rfl); (case kK => first | assumption | exact rfl); (case k1 => k_asm); (case k2 => k_asm); (case k3 => k_asm); (case k4 => first | k_asm | exact News.nil); (case k5 => k_asm); (case k6 => k_is); (case k7 => k_is); (case k8 => ktr_room); (case k9 => first | exact BindsTo.of_eq rfl | exact binds_K (by k_in) rfl (by k_is) rfl rfl rfl | (refine' kp_binds ?kx ?ke; (case kx => k_in); (case ke => exact fun _ => rfl)))
  (case kB => exact rfl)
  (case kD => decide +kernel)
  (case c2 => exact rfl)
  (case c3 => exact rfl)
  (case c4 => exact rfl)
  rotate_left
  · rintro r h' tk' he ⟨⟨t, rfl⟩, e1⟩
    exact hret _ _ _ (keep_one he (N _ (.head _)).1 e1)
  intro g' L' h' tk' cells' hg F' N' Y' B' l1 X' T' hz'
  (try k_lt l1)
  k_cells Y'
  (try simp only [List.cons_append, List.nil_append] at N')
  (try dsimp only)
  have hl' : g'.IsList l vs.toArray := by
    obtain ⟨o, e, r⟩ := hl
    exact ⟨o, hg _ _ e (by simpa using hlP), r⟩
  have hlen' : vs.length = ns.length := hi'.length
  have hcr' : g'.CodeRec (.ref c9) d2iQual := CodeRec_up hcr hg (N _ (.head _)).1
  show wpAny _ _ _ _ _ _
  k_fold
  k_with "my truth" => (refine truthy_base (by k_asm) hl' (by omega) ?_)
  k_with "my call" => ((rename News _ _ _ _ => N7); rw [hlen']; refine' d2iInner w (name := Str.ofString "inner") ?hin ?cd ?ci ?cn hi' hbits hlen 64 (lo := 0) (hi := ns.length) ?B ?F ?X ?T ?hk ?f ?c ?gD ?dD ?gI ?dI ?gN ?dN ?l ?lt ?le ?kk ?hd ?hu ?_; (case B => k_asm); (case F => k_asm); (case X => k_asm); (case T => k_asm); (case hk => exact rfl); (case f => exact News.get N7 (by k_mem)); (case hin => exact rfl); (case cd => exact rfl); (case ci => exact rfl); (case cn => exact rfl); (case c => exact hcr'.keeps (Fr.keep (by k_asm))); (case gD => exact News.get N7 (by k_mem)); (case gI => exact News.get N7 (by k_mem)); (case gN => exact News.get N7 (by k_mem)); (case dD => k_asm); (case dI => k_asm); (case dN => k_asm); (case l => exact hl'.at fun o e => Fr.keep (by k_asm) _ o e); (case lt => omega); (case le => omega); (case kk => omega); (case hd => ktr_room); (case hu => ktr_units); (intro h9 tk9 t9 e9; (try dsimp only at e9); (have F9 := ext_F (by k_asm) e9); (have N9 := ext_N (by k_asm) e9); (try dsimp only); (try k_sweep); (try k_fold)))
  k_steps
  · (show Done _ _ _ _ _)
    (rename News _ _ _ _ => N8)
    exact Done.mk' (by k_asm) ⟨⟨_, congrArg (fun z => Value.int z _) (congrArg dval (seg_all ns))⟩, News.get N8 (by k_mem)⟩
  · (show Done _ _ _ _ _)
    (rename News _ _ _ _ => N8)
    have e0 : ns = [] := List.eq_nil_of_length_eq_zero (by omega)
    exact Done.mk' (by k_asm) ⟨⟨_, congrArg (fun z => Value.int z _) (by rw [e0]; rfl)⟩, News.get N8 (by k_mem)⟩
end Mine

end
section
open PySem PySem.W PySem.Spec PySem.Calls PyProof.Rows
namespace Mine
local macro_rules | `(tactic| walk_at "call ref") => `(tactic| k_extra "my call")
local macro_rules | `(tactic| walk_at "callWith ref") => `(tactic| k_extra "my with")
local macro_rules | `(tactic| walk_at "eval Name") => `(tactic| k_extra "my free")
local macro_rules | `(tactic| walk_at "FnAt") => `(tactic| k_extra "my fnat")
local macro_rules | `(tactic| walk_at "setItem ref int") => `(tactic| k_extra "my set")
local macro_rules | `(tactic| walk_at "binaryOp RShift int int") => `(tactic| k_extra "my shr")
local macro_rules | `(tactic| walk_at "binaryOp LShift int int") => `(tactic| k_extra "my shl")
local macro_rules | `(tactic| walk_at "binaryOp BitXor int int") => `(tactic| k_extra "my xor")
theorem i2dInner (w : World) {name : Str} {params : Arguments} {body : List Stmt} {scope : Scope} {pos : Pos} (hin : innerOf (hd2.heap_39 w.params) 21 = some (name, params, body, scope, pos))
    {f c' cD cI cN l : Addr} {qual : Str} {doc pm ctv : Value} {clos : List (Str × Addr)} {n : Nat} {tn : Tok}
    (cd : clos.lookup (Str.ofString "a_digits") = some cD) (ci : clos.lookup (Str.ofString "inner") = some cI) (cn' : clos.lookup (Str.ofString "n") = some cN) :
    ∀ (k : Nat) {p : Program} {loose : List Str} {mean : ExcName → Option Value} {mg mb : Str → Option Value} {dp un : Nat} {gd : Option (List Code)} {cn : Str} {cs : Scope} {a : Addr} {ccd : Value} {cl : List (Str × Addr)} {outer : List Env}
    {A₀ : Around} {base h₀ : Heap} {L : Addr} {m : Str → Option Value} {s : Shared} {Q E : Value → Shared → Prop}
    (B : Below A₀ base outer h₀) (F : Fr h₀ L s.heap m) (X : (hd2.heap_39 w.params).In h₀) (T : Top p loose mean mg mb h₀) (hk : cs.kind = .function)
    {lo hi : Nat} {x : Int} {tx t1 t2 : Tok} {oD oI oN : Obj} {vs : List Value} {ds : List Int},
    (hf : s.heap.get? f = some (fnMade name qual params body scope clos doc pm c' ctv)) → (hcode : s.heap.CodeRec (.ref c') qual) →
    (gD : s.heap.get? cD = some oD) → (dD : oD.data = .cell (some (.ref l))) → (gI : s.heap.get? cI = some oI) → (dI : oI.data = .cell (some (.ref f))) → (gN : s.heap.get? cN = some oN) → (dN : oN.data = .cell (some (.int 1 tn))) →
    (N : News h₀ L s.heap [(l, listOf vs.toArray n)]) → (ii : IntsAre vs ds) → (hlt : lo < hi) → (hle : hi ≤ ds.length) → (hkk : hi - lo ≤ k) → (hk6 : hi - lo ≤ 6) → (hlen : ds.length ≤ 64) → (hx0 : 0 ≤ x) → (hx1 : x < 2 ^ (hi - lo)) →
    (hd : dp + k + 3 < recursionLimit) → (hu : un + 16 * k + 100 < cLine) →
    (hret : ∀ r h' tk' vs', (∀ b o, s.heap.get? b = some o → b ∉ [l] → h'.get? b = some o) → h'.get? l = some (listOf vs'.toArray n) → IntsAre vs' (blit ds lo (bitsOf (hi - lo) x)) → Q r { s with heap := h', toks := tk' }) →
    wpAny (model PySem.Challenge.rw_ia0004_02.row.prog w) (ktrTop dp un gd cn cs L a ccd cl outer) (call (.ref f) [.int x tx, .int (lo : Int) t1, .int (hi : Int) t2]) Q E s := by
  cases hin
  intro k
  induction k with
  | zero => intros; omega
  | succ k ih => ?_
  intro p loose mean mg mb dp un gd cn cs a ccd cl outer A₀ base h₀ L m s Q E B F X T hk lo hi x tx t1 t2 oD oI oN vs ds hf hcode gD dD gI dI gN dN N ii hlt hle hkk hk6 hlen hx0 hx1 hd hu hret
  revert X
  k_fill
  intro X
  k_with_none
  w_top off
  refine' con_plain (mu := [(l, listOf vs.toArray n)]) (post := fun _ h' => ∃ vs', h'.get? l = some (listOf vs'.toArray n) ∧ IntsAre vs' (blit ds lo (bitsOf (hi - lo) x))) B F N T.nolimit rfl rfl hk hf rfl hcode ?k8 (BindsTo.of_eq rfl) (locs rfl) ?_ ?_ (by decide) rfl rfl rfl
  (case k8 => ktr_room)
  rotate_left
  · rintro r h' tk' he ⟨vs', e1, e2⟩
    exact hret _ _ _ _ he e1 e2
  intro g' L' h' hg F' N' B' l1 st hz'
  have X' := X.keeps st
  have T' := T.keeps st
  have hll := (N _ (.head _)).1
  have hf' := up_list hg hll hf (by intro _ _ e; cases e)
  have gD' := up_list hg hll gD (by rw [dD]; intro _ _ e; cases e)
  have gI' := up_list hg hll gI (by rw [dI]; intro _ _ e; cases e)
  have gN' := up_list hg hll gN (by rw [dN]; intro _ _ e; cases e)
  have hc' := codeRec_upl hcode hg hll
  have hlen' : vs.length = ds.length := ii.length
  obtain ⟨p1, p2, p3, p4, p5, p6⟩ := bit_parts (j := (lo + hi) / 2 - lo) hx0 hx1 (by omega) hk6
  show wpAny _ _ _ _ _ _
  k_fold
  k_with "my free" => (k_dflt (refine' free_base ?a ?b ?c ?d ?_ ?e ?x; (case a => k_asm); (case b => assumption); (case c => assumption); (case d => assumption); (case e => rfl); (case x => rfl)))
  k_with "my shr" => (refine shr1 ?_)
  k_with "my shr" => (refine shrk (k := (lo + hi) / 2 - lo) (by omega) ?_)
  k_with "my shl" => (k_dflt (refine shl_nat (k := (lo + hi) / 2 - lo) (j := 6) (by omega) p3 p6 (by omega) ?_))
  k_with "my xor" => (k_dflt (refine xor_low (k := (lo + hi) / 2 - lo) hx0 p5 (by omega) ?_))
  k_with "my with" => (refine' callWith_F ?k1 ?_; (case k1 => exact ⟨_, _, _, _, Fr.keep (by k_asm) _ _ hf'⟩))
  k_with "my fnat" => (exact ⟨_, _, _, _, Fr.keep (by k_asm) _ _ hf'⟩)
  k_with "my call" => (refine' ih (lo := lo) (hi := (lo + hi) / 2) (x := x % 2 ^ ((lo + hi) / 2 - lo)) (oD := oD) (oI := oI) (oN := oN) ?B ?F ?X ?T ?hk ?f ?c ?gD dD ?gI dI ?gN dN ?N ?ii ?lt ?le ?kk ?k6 ?hlen ?x0 ?x1 ?hd ?hu ?_; (case B => k_asm); (case F => k_asm); (case X => k_asm); (case T => k_asm); (case hk => exact rfl); (case f => exact Fr.keep (by k_asm) _ _ hf'); (case c => exact hc'.keeps (Fr.keep (by k_asm))); (case gD => exact Fr.keep (by k_asm) _ _ gD'); (case gI => exact Fr.keep (by k_asm) _ _ gI'); (case gN => exact Fr.keep (by k_asm) _ _ gN'); (case N => k_asm); (case ii => k_asm); (case lt => omega); (case le => omega); (case kk => omega); (case k6 => omega); (case hlen => omega); (case x0 => exact p1); (case x1 => exact p2); (case hd => ktr_room); (case hu => ktr_units); (intro r9 h9 tk9 vs9 e9 g9 i9; (try dsimp only at e9); (refine' after_go ?aF ?aN ?aU e9 g9 ?_; (case aF => k_asm); (case aN => k_asm); (case aU => k_upd); intro F9 N9); (try dsimp only); (try k_sweep); (try k_fold)))
  k_with "my call" => (refine' ih (lo := (lo + hi) / 2) (hi := hi) (x := x / 2 ^ ((lo + hi) / 2 - lo)) (oD := oD) (oI := oI) (oN := oN) ?B ?F ?X ?T ?hk ?f ?c ?gD dD ?gI dI ?gN dN ?N ?ii ?lt ?le ?kk ?k6 ?hlen ?x0 ?x1 ?hd ?hu ?_; (case B => k_asm); (case F => k_asm); (case X => k_asm); (case T => k_asm); (case hk => exact rfl); (case f => exact Fr.keep (by k_asm) _ _ hf'); (case c => exact hc'.keeps (Fr.keep (by k_asm))); (case gD => exact Fr.keep (by k_asm) _ _ gD'); (case gI => exact Fr.keep (by k_asm) _ _ gI'); (case gN => exact Fr.keep (by k_asm) _ _ gN'); (case N => k_asm); (case ii => k_asm); (case lt => omega); (case le => rw [blit_length (by rw [bitsOf_length]; omega)]; omega); (case kk => omega); (case k6 => omega); (case hlen => rw [blit_length (by rw [bitsOf_length]; omega)]; omega); (case x0 => exact p3); (case x1 => rw [show hi - (lo + hi) / 2 = hi - lo - ((lo + hi) / 2 - lo) by omega]; exact p4); (case hd => ktr_room); (case hu => ktr_units); (intro r8 h8 tk8 vs8 e8 g8 i8; (try dsimp only at e8); (refine' after_go ?aF ?aN ?aU e8 g8 ?_; (case aF => k_asm); (case aN => k_asm); (case aU => k_upd); intro F8 N8); (try dsimp only); (try k_sweep); (try k_fold)))
  k_steps
  · (show Done _ _ _ _ _)
    (rename News _ _ _ _ => N1)
    (rename IntsAre _ _ => i1)
    exact Done.mk' (by k_asm) ⟨_, (N1 _ (.head _)).1, (set_bits (ds := ds) (lo := lo) (hi := hi) (by omega) (by omega) hx0 hx1) ▸ i1⟩
  · (rename News _ _ _ _ => N1)
    (rename IntsAre _ _ => i1)
    exact Done.mk' (by k_asm) ⟨_, (N1 _ (.head _)).1, (blit_bits (ds := ds) (lo := lo) (mid := (lo + hi) / 2) (hi := hi) (x := x) (by omega) (by omega) hle) ▸ i1⟩
end Mine

end
section
open PySem PySem.W PySem.Spec PySem.Calls PyProof.Rows
namespace Mine
local macro_rules | `(tactic| walk_at "call ref") => `(tactic| k_extra "my call")
local macro_rules | `(tactic| walk_at "call builtin:len") => `(tactic| k_extra "my len")
local macro_rules | `(tactic| walk_at "binaryOp Mult ref int") => `(tactic| k_extra "my mul")
def i2dQual : Str := Str.ofString "_int2digits.<locals>.inner"
theorem i2dNew (w : World) {p : Program} {loose : List Str} {mean : ExcName → Option Value} {mg mb : Str → Option Value} {dp un : Nat} {gd : Option (List Code)} {cn : Str} {cs : Scope} {a : Addr} {ccd : Value} {cl : List (Str × Addr)} {outer : List Env}
    {A₀ : Around} {base h₀ : Heap} {L : Addr} {m : Str → Option Value} {s : Shared} {Q E : Value → Shared → Prop}
    (B : Below A₀ base outer h₀) (F : Fr h₀ L s.heap m) (X : (hd2.heap_39 w.params).In h₀) (T : Top p loose mean mg mb h₀) (hk : cs.kind = .function) (C : CodeHd base 20 16)
    {x : Int} {tx tn : Tok}
    (N : News h₀ L s.heap [(16, tabObj #[])]) (hx0 : 0 ≤ x) (hx1 : x < 64)
    (hd : dp + 100 < recursionLimit) (hu : un + 2000 < cLine)
    (hret : ∀ l vs n h' tk' c9, (∀ b o, s.heap.get? b = some o → b ∉ [16] → h'.get? b = some o) → h'.get? 16 = some (tabObj #[rawInt 5, rawInt 4, .ref c9]) → s.heap.objs.size ≤ c9 → CodeNew h' c9 i2dQual → c9 ≠ l → s.heap.objs.size ≤ l → h'.get? l = some (listOf vs.toArray n) → IntsAre vs (bitsOf (Builtin.Int.intBits x) x) → Q (.ref l) { s with heap := h', toks := tk' }) :
    wpAny (model PySem.Challenge.rw_ia0004_02.row.prog w) (ktrTop dp un gd cn cs L a ccd cl outer) (call (.ref 21) [.int x tx, .int 1 tn]) Q E s := by
  obtain ⟨b1, b2, b3⟩ := bits_of hx0 hx1
  revert X
  k_fill
  intro X
  k_with_none
  w_top off
  refine' con_defC (fun v h' => ∃ l vs n c9, v = .ref l ∧ h'.get? 16 = some (tabObj #[rawInt 5, rawInt 4, .ref c9]) ∧ s.heap.objs.size ≤ c9 ∧ CodeNew h' c9 i2dQual ∧ c9 ≠ l ∧ s.heap.objs.size ≤ l ∧ h'.get? l = some (listOf vs.toArray n) ∧ IntsAre vs (bitsOf (Builtin.Int.intBits x) x)) ?k1 ?k2 ?k3 ?k4 ?k5 ?kA ?kF ?kK ?k6 ?k7 ?k8 ?k9 ?kB ?kD ?_ ?_ ?c2 ?c3 ?c4
  (case kA => exact rfl); (case kF => exact rfl); (case kK => first | assumption | exact rfl); (case k1 => k_asm); (case k2 => k_asm); (case k3 => k_asm); (case k4 => first | k_asm | exact News.nil); (case k5 => k_asm); (case k6 => k_is); (case k7 => k_is); (case k8 => ktr_room); (case k9 => first | exact BindsTo.of_eq rfl | exact binds_K (by k_in) rfl (by k_is) rfl rfl rfl | (refine' kp_binds ?kx ?ke; (case kx => k_in); (case ke => exact fun _ => rfl)))
  (case kB => exact rfl)
  (case kD => decide +kernel)
  (case c2 => exact rfl)
  (case c3 => exact rfl)
  (case c4 => exact rfl)
  rotate_left
  · rintro r h' tk' he ⟨l, vs, n, c9, rfl, e1, e2, e3, e4, e5, e6, e7⟩
    exact hret _ _ _ _ _ _ he e1 e2 e3 e4 e5 e6 e7
  intro g' L' h' tk' cells' hg F' N' Y' B' l1 X' T' hz'
  (try k_lt l1)
  k_cells Y'
  (try simp only [List.cons_append, List.nil_append] at N')
  (try dsimp only)
  show wpAny _ _ _ _ _ _
  k_fold
  k_with "my mul" => ((k_dflt (refine' mul_ints (j := Builtin.Int.intBits x) ?mF ?mN ?mm ?mx ?mj ?_; (case mF => k_asm); (case mN => k_asm); (case mm => k_mem); (case mx => (rw [Int.fdiv_one]; omega)); (case mj => omega))); intro D7 h7 F7 N7 l7 i7; (try k_lt l7); (try k_sweep))
  k_with "my len" => (k_dflt (refine' len_news ?lN ?lm ?lz ?_; (case lN => k_asm); (case lm => k_mem); (case lz => (rw [List.length_replicate]; omega))))
  k_with "my call" => ((rename News _ _ _ _ => N7); (rename Fr _ _ _ _ => F7); rw [List.length_replicate]; refine' i2dInner w (name := Str.ofString "inner") (l := D7) ?hin ?cd ?ci ?cn 64 (lo := 0) (hi := Builtin.Int.intBits x) (ds := List.replicate (Builtin.Int.intBits x) 0) ?B ?F ?X ?T ?hk ?f ?c ?gD ?dD ?gI ?dI ?gN ?dN ?N i7 ?lt ?le ?kk ?k6 ?hlen hx0 ?x1 ?hd ?hu ?_; (case B => k_asm); (case F => k_asm); (case X => k_asm); (case T => k_asm); (case hk => exact rfl); (case f => exact News.get N7 (by k_mem)); (case hin => exact rfl); (case cd => exact rfl); (case ci => exact rfl); (case cn => exact rfl); (case c => exact codeRec_news N7 (by k_mem) (by k_asm) (by k_asm)); (case gD => exact News.get N7 (by k_mem)); (case gI => exact News.get N7 (by k_mem)); (case gN => exact News.get N7 (by k_mem)); (case dD => k_asm); (case dI => k_asm); (case dN => k_asm); (case N => exact after_one N7 (o' := default) (by k_upd)); (case lt => omega); (case le => rw [List.length_replicate]; omega); (case kk => omega); (case k6 => omega); (case hlen => rw [List.length_replicate]; omega); (case x1 => exact b1); (case hd => ktr_room); (case hu => ktr_units); (intro r8 h8 tk8 vs8 e8 g8 i8; (try dsimp only at e8); (refine' after_go ?aF ?aN ?aU e8 g8 ?_; (case aF => k_asm); (case aN => k_asm); (case aU => k_upd); intro F8 N8); (try dsimp only); (try k_sweep); (try k_fold)))
  k_steps
  · (show Done _ _ _ _ _)
    (rename News _ _ _ _ => N1)
    exact Done.mk' (by k_asm) ⟨D7, vs8, 0, _, rfl, News.get N1 (by k_mem), by omega, codeNew_news N1 (by k_mem) (by k_asm) (by k_asm), neN (by omega), by omega, News.get N1 (by k_mem), blit_rep _ _ ▸ i8⟩
  · (show Done _ _ _ _ _)
    (rename News _ _ _ _ => N1)
    have e0 := b3.mp (by assumption)
    exact Done.mk' (by k_asm) ⟨D7, _, 0, _, rfl, News.get N1 (by k_mem), by omega, codeNew_news N1 (by k_mem) (by k_asm) (by k_asm), neN (by omega), by omega, News.get N1 (by k_mem), (by rw [e0]; exact .nil)⟩

theorem i2dHit (w : World) {p : Program} {loose : List Str} {mean : ExcName → Option Value} {mg mb : Str → Option Value} {dp un : Nat} {gd : Option (List Code)} {cn : Str} {cs : Scope} {a : Addr} {ccd : Value} {cl : List (Str × Addr)} {outer : List Env}
    {A₀ : Around} {base h₀ : Heap} {L : Addr} {m : Str → Option Value} {s : Shared} {Q E : Value → Shared → Prop}
    (B : Below A₀ base outer h₀) (F : Fr h₀ L s.heap m) (X : (hd2.heap_39 w.params).In h₀) (T : Top p loose mean mg mb h₀) (hk : cs.kind = .function) (C : CodeHd base 20 16)
    {x : Int} {tx tn : Tok} {c9 : Addr}
    (N : News h₀ L s.heap [(16, tabObj #[rawInt 5, rawInt 4, .ref c9])]) (hcr : s.heap.CodeRec (.ref c9) i2dQual) (hx0 : 0 ≤ x) (hx1 : x < 64)
    (hd : dp + 100 < recursionLimit) (hu : un + 2000 < cLine)
    (hret : ∀ l vs n h' tk', (∀ b o, s.heap.get? b = some o → h'.get? b = some o) → s.heap.objs.size ≤ l → h'.get? l = some (listOf vs.toArray n) → IntsAre vs (bitsOf (Builtin.Int.intBits x) x) → Q (.ref l) { s with heap := h', toks := tk' }) :
    wpAny (model PySem.Challenge.rw_ia0004_02.row.prog w) (ktrTop dp un gd cn cs L a ccd cl outer) (call (.ref 21) [.int x tx, .int 1 tn]) Q E s := by
  obtain ⟨b1, b2, b3⟩ := bits_of hx0 hx1
  revert X
  k_fill
  intro X
  k_with_none
  w_top off
  refine' con_defC (fun v h' => ∃ l vs n, v = .ref l ∧ h'.get? 16 = some (tabObj #[rawInt 5, rawInt 4, .ref c9]) ∧ s.heap.objs.size ≤ l ∧ h'.get? l = some (listOf vs.toArray n) ∧ IntsAre vs (bitsOf (Builtin.Int.intBits x) x)) ?k1 ?k2 ?k3 ?k4 ?k5 ?kA ?kF ?kK ?k6 ?k7 ?k8 ?k9 ?kB ?kD ?_ ?_ ?c2 ?c3 ?c4
  (case kA => exact rfl); (case kF => exact rfl); (case kK => first | assumption | exact rfl); (case k1 => k_asm); (case k2 => k_asm); (case k3 => k_asm); (case k4 => first | k_asm | exact News.nil); (case k5 => k_asm); (case k6 => k_is); (case k7 => k_is); (case k8 => ktr_room); (case k9 => first | exact BindsTo.of_eq rfl | exact binds_K (by k_in) rfl (by k_is) rfl rfl rfl | (refine' kp_binds ?kx ?ke; (case kx => k_in); (case ke => exact fun _ => rfl)))
  (case kB => exact rfl)
  (case kD => decide +kernel)
  (case c2 => exact rfl)
  (case c3 => exact rfl)
  (case c4 => exact rfl)
  rotate_left
  · rintro r h' tk' he ⟨l, vs, n, rfl, e1, e5, e6, e7⟩
    exact hret _ _ _ _ _ (keep_one he (N _ (.head _)).1 e1) e5 e6 e7
  intro g' L' h' tk' cells' hg F' N' Y' B' l1 X' T' hz'
  (try k_lt l1)
  k_cells Y'
  (try simp only [List.cons_append, List.nil_append] at N')
  (try dsimp only)
  have hcr' : g'.CodeRec (.ref c9) i2dQual := CodeRec_up hcr hg (N _ (.head _)).1
  show wpAny _ _ _ _ _ _
  k_fold
  k_with "my mul" => ((k_dflt (refine' mul_ints (j := Builtin.Int.intBits x) ?mF ?mN ?mm ?mx ?mj ?_; (case mF => k_asm); (case mN => k_asm); (case mm => k_mem); (case mx => (rw [Int.fdiv_one]; omega)); (case mj => omega))); intro D7 h7 F7 N7 l7 i7; (try k_lt l7); (try k_sweep))
  k_with "my len" => (k_dflt (refine' len_news ?lN ?lm ?lz ?_; (case lN => k_asm); (case lm => k_mem); (case lz => (rw [List.length_replicate]; omega))))
  k_with "my call" => ((rename News _ _ _ _ => N7); (rename Fr _ _ _ _ => F7); rw [List.length_replicate]; refine' i2dInner w (name := Str.ofString "inner") (l := D7) ?hin ?cd ?ci ?cn 64 (lo := 0) (hi := Builtin.Int.intBits x) (ds := List.replicate (Builtin.Int.intBits x) 0) ?B ?F ?X ?T ?hk ?f ?c ?gD ?dD ?gI ?dI ?gN ?dN ?N i7 ?lt ?le ?kk ?k6 ?hlen hx0 ?x1 ?hd ?hu ?_; (case B => k_asm); (case F => k_asm); (case X => k_asm); (case T => k_asm); (case hk => exact rfl); (case f => exact News.get N7 (by k_mem)); (case hin => exact rfl); (case cd => exact rfl); (case ci => exact rfl); (case cn => exact rfl); (case c => exact hcr'.keeps (Fr.keep F7)); (case gD => exact News.get N7 (by k_mem)); (case gI => exact News.get N7 (by k_mem)); (case gN => exact News.get N7 (by k_mem)); (case dD => k_asm); (case dI => k_asm); (case dN => k_asm); (case N => exact after_one N7 (o' := default) (by k_upd)); (case lt => omega); (case le => rw [List.length_replicate]; omega); (case kk => omega); (case k6 => omega); (case hlen => rw [List.length_replicate]; omega); (case x1 => exact b1); (case hd => ktr_room); (case hu => ktr_units); (intro r8 h8 tk8 vs8 e8 g8 i8; (try dsimp only at e8); (refine' after_go ?aF ?aN ?aU e8 g8 ?_; (case aF => k_asm); (case aN => k_asm); (case aU => k_upd); intro F8 N8); (try dsimp only); (try k_sweep); (try k_fold)))
  k_steps
  · (show Done _ _ _ _ _)
    (rename News _ _ _ _ => N1)
    (rename Fr _ _ _ _ => F1)
    exact Done.mk' F1 ⟨D7, vs8, 0, rfl, News.get N1 (by k_mem), by omega, News.get N1 (by k_mem), blit_rep _ _ ▸ i8⟩
  · (show Done _ _ _ _ _)
    (rename News _ _ _ _ => N1)
    (rename Fr _ _ _ _ => F1)
    have e0 := b3.mp (by assumption)
    exact Done.mk' F1 ⟨D7, _, 0, rfl, News.get N1 (by k_mem), by omega, News.get N1 (by k_mem), (by rw [e0]; exact .nil)⟩
end Mine

end
section
open PySem PySem.W PySem.Spec PySem.Calls PyProof.Rows
namespace Mine
local macro_rules | `(tactic| walk_at "call builtin:len") => `(tactic| (k_here; k_dflt (refine' len_base ?a ?b ?c ?_; (case a => k_asm); (case b => k_asm); (case c => omega); k_whole)))
local macro_rules | `(tactic| walk_at "call ref") => `(tactic| k_extra "my call")
theorem has (w : World) {p : Program} {loose : List Str} {mean : ExcName → Option Value} {mg mb : Str → Option Value} {dp un : Nat} {gd : Option (List Code)} {cn : Str} {cs : Scope} {a : Addr} {ccd : Value} {cl : List (Str × Addr)} {outer : List Env}
    {A₀ : Around} {base h₀ : Heap} {L : Addr} {m : Str → Option Value} {s : Shared} {Q E : Value → Shared → Prop}
    (B : Below A₀ base outer h₀) (F : Fr h₀ L s.heap m) (X : (hd2.heap_39 w.params).In h₀) (T : Top p loose mean mg mb h₀) (hk : cs.kind = .function)
    {l : Addr} {vs : List Value} {ns : List Int} {x : Int} {tx : Tok}
    (hl : s.heap.IsList l vs.toArray) (ii : IntsAre vs ns) (hn : ns.length ≤ 1000)
    (hd : dp + 10 < recursionLimit) (hu : un + 300 < cLine)
    (hret : ∀ h' tk', (∀ b o, s.heap.get? b = some o → h'.get? b = some o) → Q (.bool (hasB ns x)) { s with heap := h', toks := tk' }) :
    wpAny (model PySem.Challenge.rw_ia0004_02.row.prog w) (ktrTop dp un gd cn cs L a ccd cl outer) (call (.ref 53) [.ref l, .int x tx]) Q E s := by
  revert X
  k_fill
  intro X
  k_with_none
  w_top off
  refine' con_def (fun v _ => v = .bool (hasB ns x)) ?k1 ?k2 ?k3 ?k4 ?k5 ?kA ?kF ?kK ?k6 ?k7 ?k8 ?k9 ?kB ?_ ?_ ?c5 ?c2 ?c3 ?c4
  (case kA => exact rfl); (case kF => exact rfl); (case kK => first | assumption | exact rfl); (case k1 => k_asm); (case k2 => k_asm); (case k3 => k_asm); (case k4 => first | k_asm | exact News.nil); (case k5 => k_asm); (case k6 => k_is); (case k7 => k_is); (case k8 => ktr_room); (case k9 => first | exact BindsTo.of_eq rfl | exact binds_K (by k_in) rfl (by k_is) rfl rfl rfl | (refine' kp_binds ?kx ?ke; (case kx => k_in); (case ke => exact fun _ => rfl)))
  (case kB => exact locs rfl)
  (case c5 => decide)
  (case c2 => exact rfl)
  (case c3 => exact rfl)
  (case c4 => exact rfl)
  rotate_left
  · rintro r h' tk' he rfl
    exact hret _ _ (fun b o e => he b o e (List.not_mem_nil))
  intro g' L' h' hg F' N' B' l1 X' T' hz'
  (try dsimp only)
  have hl' : g'.IsList l vs.toArray := by
    obtain ⟨o, e, r⟩ := hl
    exact ⟨o, hg _ _ e List.not_mem_nil, r⟩
  have hlen' : vs.length = ns.length := ii.length
  have hp := bis_le (fun k => decide (ns.getD k 0 < x)) ns.length
  show wpAny _ _ _ _ _ _
  k_fold
  k_with "my call" => (refine' bis2 w (below := fun k => decide (ns.getD k 0 < x)) ?B ?F ?X ?T ?hk ?hl ?hn (lt_items ii) ?hd ?hu ?_; (case B => k_asm); (case F => k_asm); (case X => k_asm); (case T => k_asm); (case hk => exact rfl); (case hl => exact hl'.at fun o e => Fr.keep (by k_asm) _ o e); (case hn => omega); (case hd => ktr_room); (case hu => ktr_units); (intro h9 tk9 t9 e9; (try dsimp only at e9); (have F9 := ext_F (by k_asm) e9); (have N9 := ext_N (by k_asm) e9); (try dsimp only); (try k_sweep); (try k_fold)); rw [hlen'])
  k_steps
  · exact Done.mk' (by k_asm) (congrArg Value.bool (hasB_t (by show bis _ _ < _; omega)))
  · exact Done.mk' (by k_asm) (congrArg Value.bool (hasB_f hlen' (by show ¬ bis _ _ < _; omega)))
end Mine

end
section
open PySem PySem.W PySem.Spec PySem.Calls PyProof.Rows
namespace Mine
local macro_rules | `(tactic| walk_at "call ref") => `(tactic| k_extra "my call")
local macro_rules | `(tactic| walk_at "call builtin:len") => `(tactic| k_extra "my len")
local macro_rules | `(tactic| walk_at "binaryOp Add ref ref") => `(tactic| k_extra "my add")
local macro_rules | `(tactic| walk_at "subscriptTail") => `(tactic| k_extra "my slice")
local macro_rules | `(tactic| walk_at "subscriptTail Name Slice ref ref") => `(tactic| k_extra "my slice")
local macro_rules | `(tactic| walk_at "CompEnd") => `(tactic| lcg_end)
theorem rowTurn (w : World) {p : Program} {loose : List Str} {mean : ExcName → Option Value} {mg mb : Str → Option Value} {dp un : Nat} {gd : Option (List Code)} {a : Addr} {ccd : Value} {outer : List Env}
    {A₀ : Around} {base h₀ : Heap} {L : Addr} {m : Str → Option Value} {s : Shared} {Q E : Value → Shared → Prop}
    (B : Below A₀ base outer h₀) (F : Fr h₀ L s.heap m) (X : (hd2.heap_39 w.params).In h₀) (T : Top p loose mean mg mb h₀) {test : Expr} {body : List Stmt} {cs : Scope} (hw : whileOf (hd2.heap_39 w.params) 58 = some (test, body, cs)) (C : CodeHd base 27 23)
    {size : Nat} {tz : Tok} {fin : List Int × List Int} {c9 O : Addr} {oc9 oO oS : Obj} {vs9 : Array Value} {t9 : Tok} {c : RowSt} (hs1 : 1 ≤ size) (hs2 : size ≤ 5)
    (N : News h₀ L s.heap (rowLed c9 O (L + 3) (L + 2) (L + 1) 23 oc9 oO oS (tabObj #[rawInt 20, rawInt 4, .ref c9]) c)) (hF : RowFacts (L + 3) c9 O (L + 3) (L + 2) (L + 1) 23 c) (hP : RowP size fin c)
    (d9 : oc9.data = .fields vs9) (v9 : vs9[1]? = some (.str d2iQual t9)) (dO : oO.data = .cell (some (.ref O))) (dS : oS.data = .cell (some (.int (size : Int) tz)))
    (o1 : @LT.lt Nat _ 23 L) (o2 : @LT.lt Nat _ (L + 3) O) (o3 : @LT.lt Nat _ O c9) (hl8 : c.row.length < 80)
    (hd : dp + 200 < recursionLimit) (hu : un + 5000 < cLine) :
    wpAny (model PySem.Challenge.rw_ia0004_02.row.prog w) (ktrTop dp un gd (Str.ofString "_law_row") cs L a ccd (cellsFrom (L + 1) cs.names []) outer) (execs body (envX (Str.ofString "_law_row") cs L a ccd (cellsFrom (L + 1) cs.names [])))
      (RowGo h₀ L s c9 O oc9 oO oS (tabObj #[rawInt 20, rawInt 4, .ref c9]) size fin c m) (fun _ _ => False) s := by
  cases hw
  obtain ⟨R, vsR, nR, row, vsO, nO, order, oR⟩ := c
  obtain ⟨dR, iR, iO, r1, r2, r3, r4, r5, r6, r7⟩ := hF
  dsimp only [rowLed] at dR iR iO r1 r2 r3 r4 r5 r6 r7 N hl8
  have hlo := hP.lo
  have hord := hP.ord
  dsimp only at hlo hord
  have hlR : vsR.length = row.length := iR.length
  have hlO : vsO.length = order.length := iO.length
  revert X
  k_fill
  intro X
  k_with_none
  w_top off
  show wpAny _ _ _ _ _ { s with heap := s.heap, toks := s.toks }
  k_fold
  k_with "my len" => (k_dflt (refine' len_news ?lN ?lm ?lz ?_; (case lN => k_asm); (case lm => k_mem); (case lz => first | omega | (have q := ia.length; simp only [List.length_append, List.length_cons, List.length_nil] at q; omega))))
  k_with "my add" => ((k_dflt (refine' kmk_add_ints ?aF ?aN ?aa ?ab iR (IntsAre.cons _ _ .nil) ?_ ?az; (case aF => k_asm); (case aN => k_asm); (case aa => exact news_list (by k_asm) (by k_mem)); (case ab => exact news_list (by k_asm) (by k_mem)); (case az => (rw [sizeLine_eq]; simp; omega)))); intro Da usa ha Fa Na la ia; (try k_lt la); (try k_sweep))
  k_with "my slice" => ((k_dflt (refine' slice_from (k := row.length + 1 - size) ?sx ?sF ?sN ?sl ia ?sz ?_; (case sF => k_asm); (case sN => k_asm); (case sl => exact news_list (by k_asm) (by k_mem)); (case sx => first | omega | (have q := ia.length; simp only [List.length_append, List.length_cons, List.length_nil] at q; omega)); (case sz => rw [ia.length]; simp; omega))); intro Ds wss hs Fs Ns ls is; (try k_lt ls); (try k_sweep))
  k_with "my call" => (refine' d2iHit w (C := by k_asm) (c9 := c9) ?B ?F ?X ?T ?hk ?N ?cr ?lP ?hl is ?bits ?len ?hd ?hu ?_; (case B => k_asm); (case F => k_asm); (case X => k_asm); (case T => k_asm); (case hk => exact rfl); (case hd => ktr_room); (case hu => ktr_units); (case N => exact after_one (o' := default) (by k_asm) (by k_upd)); (case cr => exact codeRec_news (oc := oc9) (by k_asm) (by k_mem) d9 v9); (case hl => exact news_list (by k_asm) (by k_mem)); (case lP => exact neN (by omega)); (case bits => exact bits_drop (bits_snoc hP.bits (by decide)) _); (case len => simp; omega); (intro h9 tk9 t9 e9; (try dsimp only at e9); (have F9 := ext_F (by k_asm) e9); (have N9 := ext_N (by k_asm) e9); (try dsimp only); (try k_sweep); (try k_fold)))
  k_with "my call" => (refine' has w (ns := order) ?B ?F ?X ?T ?hk ?hl iO ?hn ?hd ?hu ?_; (case B => k_asm); (case F => k_asm); (case X => k_asm); (case T => k_asm); (case hk => exact rfl); (case hd => ktr_room); (case hu => ktr_units); (case hl => exact news_list (by k_asm) (by k_mem)); (case hn => omega); (intro h7 tk7 e7; (try dsimp only at e7); (have F7 := ext_F (by k_asm) e7); (have N7 := ext_N (by k_asm) e7); (replace N7 := news_drop3 N7); (clear la ls ia is); (generalize hv7 : hasB order _ = b7); (replace hv7 := EqB.mk hv7); (try dsimp only); (try k_sweep); (try k_fold)))
  k_with "my call" => (refine' insI2 w (ns := order) ?B ?F ?X ?T ?hk ?N iO ?hn ?hd ?hu ?_; (case B => k_asm); (case F => k_asm); (case X => k_asm); (case T => k_asm); (case hk => exact rfl); (case hd => ktr_room); (case hu => ktr_units); (case N => exact after_one (o' := default) (by k_asm) (by k_upd)); (case hn => omega); (intro h8 tk8 vs8 e8 g8 i8; (try dsimp only at e8); (refine' after_go ?aF ?aN ?aU e8 g8 ?_; (case aF => k_asm); (case aN => k_asm); (case aU => k_upd); intro F8 N8); (try dsimp only); (try k_sweep); (try k_fold)))
  k_steps
  · show RowGo _ _ _ _ _ _ _ _ _ _ _ _ _ _ _
    (rename News _ _ _ _ => N1)
    (rename Fr _ _ _ _ => F1)
    exact ⟨_, _, _, rfl, F1, _, rfl, news_sub N1 (by (dsimp only [rowLed]; lcg_sub)), row_ret hP (EqB.to (by assumption) (by assumption)) (EqB.to (by assumption) (by assumption)), by (dsimp only; omega), by omega, by omega⟩
  all_goals first | ((rename News _ _ _ _ => N1); (rename Fr _ _ _ _ => F1); (rename (Obj.data _ = Data.cell (some (Value.ref Da))) => dR9); (obtain ⟨rr, hsg⟩ := signs_1 (size := size) (row := row) (order := order) (EqB.to (by assumption) (by assumption))); (refine ⟨_, _, _, rfl, F1, ⟨Da, usa, 0, row ++ [1], vs8, nO + 1, insI order (dval ((row ++ [1]).drop (row.length + 1 - size))), _⟩, news_sub N1 (by (dsimp only [rowLed]; lcg_sub)), ⟨dR9, ia, i8, by (dsimp only; omega), by (dsimp only; omega), by (dsimp only; omega), by (dsimp only; omega), by (dsimp only; omega), by (dsimp only; omega), by (dsimp only; omega)⟩, (row_next hP hl8 hsg (by decide) rfl rfl).1, (row_next hP hl8 hsg (by decide) rfl rfl).2, fun z hz => if_neg hz⟩)) | ((rename News _ _ _ _ => N1); (rename Fr _ _ _ _ => F1); (rename (Obj.data _ = Data.cell (some (Value.ref Da))) => dR9); (obtain ⟨rr, hsg⟩ := signs_0 (size := size) (row := row) (order := order) (EqB.to (by assumption) (by assumption)) (EqB.to (by assumption) (by assumption))); (refine ⟨_, _, _, rfl, F1, ⟨Da, usa, 0, row ++ [0], vs8, nO + 1, insI order (dval ((row ++ [0]).drop (row.length + 1 - size))), _⟩, news_sub N1 (by (dsimp only [rowLed]; lcg_sub)), ⟨dR9, ia, i8, by (dsimp only; omega), by (dsimp only; omega), by (dsimp only; omega), by (dsimp only; omega), by (dsimp only; omega), by (dsimp only; omega), by (dsimp only; omega)⟩, (row_next hP hl8 hsg (by decide) rfl rfl).1, (row_next hP hl8 hsg (by decide) rfl rfl).2, fun z hz => if_neg hz⟩))
end Mine

end
section
open PySem PySem.W PySem.Spec PySem.Calls PyProof.Rows
namespace Mine
local macro_rules | `(tactic| walk_at "call ref") => `(tactic| k_extra "my call")
local macro_rules | `(tactic| walk_at "binaryOp Mult ref int") => `(tactic| k_extra "my mul")
local macro_rules | `(tactic| walk_at "call builtin:len") => `(tactic| k_extra "my len")
theorem lawRow (w : World) {p : Program} {loose : List Str} {mean : ExcName → Option Value} {mg mb : Str → Option Value} {dp un : Nat} {gd : Option (List Code)} {cn : Str} {cs : Scope} {a : Addr} {ccd : Value} {cl : List (Str × Addr)} {outer : List Env}
    {A₀ : Around} {base h₀ : Heap} {L : Addr} {m : Str → Option Value} {s : Shared} {Q E : Value → Shared → Prop}
    (B : Below A₀ base outer h₀) (F : Fr h₀ L s.heap m) (X : (hd2.heap_39 w.params).In h₀) (T : Top p loose mean mg mb h₀) (hk : cs.kind = .function) (C : CodeHd base 27 23) (hP0 : @LT.lt Nat _ 23 L)
    {size : Nat} {tz : Tok} (hs1 : 1 ≤ size) (hs2 : size ≤ 5)
    (N : News h₀ L s.heap [(23, tabObj #[])])
    (hd : dp + 300 < recursionLimit) (hu : un + 6000 < cLine)
    (hret : ∀ r h' tk', (∀ b o, s.heap.get? b = some o → b ∉ [23] → h'.get? b = some o) → RowRet size s.heap.objs.size 23 (fun c9 => tabObj #[rawInt 20, rawInt 4, .ref c9]) d2iQual r h' → Q r { s with heap := h', toks := tk' }) :
    wpAny (model PySem.Challenge.rw_ia0004_02.row.prog w) (ktrTop dp un gd cn cs L a ccd cl outer) (call (.ref 58) [.int (size : Int) tz]) Q E s := by
  revert X
  k_fill
  intro X
  k_with_none
  w_top off
  refine' con_defC (RowRet size s.heap.objs.size 23 (fun c9 => tabObj #[rawInt 20, rawInt 4, .ref c9]) d2iQual) ?k1 ?k2 ?k3 ?k4 ?k5 ?kA ?kF ?kK ?k6 ?k7 ?k8 ?k9 ?kB ?kD ?_ ?_ ?c2 ?c3 ?c4
  (case kA => exact rfl); (case kF => exact rfl); (case kK => first | assumption | exact rfl); (case k1 => k_asm); (case k2 => k_asm); (case k3 => k_asm); (case k4 => first | k_asm | exact News.nil); (case k5 => k_asm); (case k6 => k_is); (case k7 => k_is); (case k8 => ktr_room); (case k9 => first | exact BindsTo.of_eq rfl | exact binds_K (by k_in) rfl (by k_is) rfl rfl rfl | (refine' kp_binds ?kx ?ke; (case kx => k_in); (case ke => exact fun _ => rfl)))
  (case kB => exact rfl)
  (case kD => decide +kernel)
  (case c2 => exact rfl)
  (case c3 => exact rfl)
  (case c4 => exact rfl)
  rotate_left
  · rintro r h' tk' he e1
    exact hret _ _ _ he e1
  intro g' L' h' tk' cells' hg F' N' Y' B' l1 X' T' hz'
  (try k_lt l1)
  k_cells Y'
  (try simp only [List.cons_append, List.nil_append] at N')
  (try dsimp only)
  show wpAny _ _ _ _ _ _
  k_fold
  k_with "my mul" => ((k_dflt (refine' mul_ints (j := size) ?mF ?mN ?mm ?mx ?mj ?_; (case mF => k_asm); (case mN => k_asm); (case mm => k_mem); (case mx => exact rfl); (case mj => omega))); intro D7 h7 F7 N7 l7 i7; (try k_lt l7); (try k_sweep))
  k_with "my call" => (refine' d2iNew w ?B ?F ?X ?T ?hk ?C ?N ?lP ?hl ?ii ?bits ?len ?hd ?hu ?_; (case B => k_asm); (case F => k_asm); (case X => k_asm); (case T => k_asm); (case hk => exact rfl); (case hd => ktr_room); (case hu => ktr_units); (case C => k_asm); (case N => exact after_one (o' := default) (by k_asm) (by k_upd)); (case hl => exact news_list (by k_asm) (by k_mem)); (case lP => exact neN (by omega)); (case ii => k_asm); (case bits => exact (fun d hd => by rw [List.eq_of_mem_replicate hd]; decide)); (case len => rw [List.length_replicate]; omega); (intro h9 tk9 t9 c9 e9 g9 z9 n9; (try dsimp only at e9 z9); (refine' after_new ?aF ?aN ?aU e9 g9 z9 n9 ?_; (case aF => k_asm); (case aN => k_asm); (case aU => k_upd); intro oc9 vs9 tt9 d9 v9 F9 N9 l9; (try k_lt l9)); (try dsimp only); (try k_sweep); (try k_fold)))
  k_with "my call" => (refine' insI2 w ?B ?F ?X ?T ?hk ?N ?ii ?hn ?hd ?hu ?_; (case B => k_asm); (case F => k_asm); (case X => k_asm); (case T => k_asm); (case hk => exact rfl); (case hd => ktr_room); (case hu => ktr_units); (case N => exact after_one (o' := default) (by k_asm) (by k_upd)); (case ii => first | k_asm | exact IntsAre.nil); (case hn => (simp; done)); (intro h8 tk8 vs8 e8 g8 i8; (try dsimp only at e8); (refine' after_go ?aF ?aN ?aU e8 g8 ?_; (case aF => k_asm); (case aN => k_asm); (case aU => k_upd); intro F8 N8); (try dsimp only); (try k_sweep); (try k_fold)))
  repeat' (first | (k_unfold; (try dsimp only)) | ((fail_if_success (with_reducible show wpAny _ _ (exec (PySem.Stmt.While _ _ _ _) _) _ _ _)); walk1))
  (rename News _ _ _ _ => N6)
  (rename Fr _ _ _ _ => F6)
  refine' rowWhile (z9 := L' + 3) size (rowOf size) [Str.ofString "signs"] F6 N6 ?hf ?hp ?turn PassesOwn.never
  case hf =>
    refine ⟨?_, i7, i8, ?_, ?_, ?_, ?_, ?_, ?_, ?_⟩
    · assumption
    all_goals (try dsimp only)
    all_goals omega
  case hp =>
    refine ⟨fun d hd => by rw [List.eq_of_mem_replicate hd]; decide, ?_, ?_, ?_, ?_⟩
    · (show _ ≤ (List.replicate size (0 : Int)).length); simp
    · (show (List.replicate size (0 : Int)).length ≤ _); simp; omega
    · show (insI [] _).length ≤ _; rw [insI_length]; simp
    · (show rowRun size (80 - (List.replicate size (0 : Int)).length) _ _ = _); rw [List.length_replicate]; rfl
  case turn =>
    clear hret
    intro c u hT tkT hF hP FT NT
    obtain ⟨R, vsR, nR, row, vsO, nO, order, oR⟩ := c
    have dR := hF.dR
    have iR := hF.iR
    have r1 := hF.r1
    have r2 := hF.r2
    have r3 := hF.r3
    have hhi := hP.hi
    have hlR : vsR.length = row.length := iR.length
    have NT' := NT
    dsimp only [kstB, rowLed] at dR iR r1 r2 r3 hhi FT NT ⊢
    k_with "my len" => (k_dflt (refine' len_news ?lN ?lm ?lz ?_; (case lN => k_asm); (case lm => k_mem); (case lz => omega)))
    repeat' (first | (k_unfold; (try dsimp only)) | ((fail_if_success (with_reducible show wpAny _ _ (execs (_ :: _) _) _ _ _)); first | walk1 | (dsimp only; walk1)))
    · refine' wpAny_mono (rowTurn w (Q := fun _ _ => True) (E := fun _ _ => True) ?B ?F ?X ?T ?hw ?C hs1 hs2 NT' hF hP d9 v9 ?dO ?dS ?o1 ?o2 ?o3 ?hl8 ?hd ?hu) ?_ (fun _ _ h => h.elim)
      case B => k_asm
      case F => k_asm
      case X => k_asm
      case T => k_asm
      case hw => exact rfl
      case C => k_asm
      case dO => assumption
      case dS => assumption
      case o1 => omega
      case o2 => omega
      case o3 => omega
      case hl8 => (dsimp only; omega)
      case hd => ktr_room
      case hu => ktr_units
      rintro fl s' ⟨h', tk, m', rfl, F', hh⟩
      cases fl with
      | brk => exact hh.elim
      | cont => exact hh.elim
      | next =>
        obtain ⟨c', N', hF', hP', hdec, hm⟩ := hh
        refine ksw_end c' F' N' (fun _ h => h) hF' (fun _ h => nomatch h) (fun z _ hz => ?_) hP' hdec
        have hne : z ≠ Str.ofString "signs" := by intro e; rw [e] at hz; exact absurd hz (by decide)
        rw [hm z hne]
        simp [hne]
      | ret v =>
        obtain ⟨T, rfl, N', hfin, hRT, hOT, h9T⟩ := hh
        dsimp only at hfin hRT
        dsimp only [rowLed] at N'
        (show Done _ _ _ _ _)
        exact Done.mk' F' ⟨T, R, _, c9, vsR, nR, vsO, nO, rfl, News.get N' (by k_mem), codeNew_news N' (by k_mem) d9 v9, News.get N' (.head _), News.get N' (by k_mem), News.get N' (by k_mem), (by rw [← hfin]; exact hF.iR), (by rw [← hfin]; exact hF.iO), ⟨by omega, by omega, by omega, by omega⟩, by omega, by omega, by omega, by omega, by omega, by omega⟩
    · clear NT'
      k_steps
      (show Done _ _ _ _ _)
      (rename News _ _ _ _ => N')
      have hfin : (row, order) = rowOf size := by
        have q := hP.run
        dsimp only at q
        rw [show 80 - row.length = 0 by omega] at q
        exact q
      exact Done.mk' (by k_asm) ⟨_, R, _, c9, vsR, nR, vsO, nO, rfl, News.get N' (by k_mem), codeNew_news N' (by k_mem) d9 v9, News.get N' (.head _), News.get N' (by k_mem), News.get N' (by k_mem), (by rw [← hfin]; exact hF.iR), (by rw [← hfin]; exact hF.iO), ⟨by omega, by omega, by omega, by omega⟩, by omega, by omega, by omega, by omega, by omega, by omega⟩
end Mine

end
section
open PySem PySem.W PySem.Spec PySem.Calls PyProof.Rows
namespace Mine
local macro_rules | `(tactic| walk_at "call ref") => `(tactic| k_extra "my call")
local macro_rules | `(tactic| walk_at "binaryOp Mult ref int") => `(tactic| k_extra "my mul")
local macro_rules | `(tactic| walk_at "binaryOp Add ref ref") => `(tactic| k_extra "my add")
local macro_rules | `(tactic| walk_at "binaryOp Pow int int") => `(tactic| k_extra "my pow")
local macro_rules | `(tactic| walk_at "subscriptTail") => `(tactic| k_extra "my slice")
local macro_rules | `(tactic| walk_at "subscriptTail Name Slice ref ref") => `(tactic| k_extra "my slice")
local macro_rules | `(tactic| walk_at "subscriptTail Name BinOp ref int") => `(tactic| k_extra "my item")
local macro_rules | `(tactic| walk_at "subscriptTail") => `(tactic| k_extra "my item")
local macro_rules | `(tactic| walk_at "call builtin:sorted") => `(tactic| k_extra "my sorted")
local macro_rules | `(tactic| walk_at "compareOp NotEq ref ref") => `(tactic| k_extra "my ne")
local macro_rules | `(tactic| walk_at "compareOp Eq ref ref") => `(tactic| k_extra "my eq")
local macro_rules | `(tactic| walk_at "CompSrcT") => `(tactic| k_extra "my src")
local macro_rules | `(tactic| walk_at "exec Assign cons ListComp") => `(tactic| (k_here; lcg_calm; k_dflt (refine LCt.Assign_ListComp_T (F₀ := by k_asm) (by rfl) (by with_unfolding_all rfl) (by with_unfolding_all rfl) (by decide) (by rfl) (by decide) (by rfl) (by rfl) (by rfl) ?_); k_dflt lct_toSrc))
theorem lawTurn (w : World) {nn : Nat} {tl : Tok} {p : Program} {loose : List Str} {mean : ExcName → Option Value} {mg mb : Str → Option Value} {dp un : Nat} {gd : Option (List Code)} {a : Addr} {ccd : Value} {outer : List Env}
    {A₀ : Around} {base h₀ : Heap} {L : Addr} {m : Str → Option Value} {s : Shared} {Q E : Value → Shared → Prop}
    (B : Below A₀ base outer h₀) (F : Fr h₀ L s.heap (fun z => if z = Str.ofString "least" then some (.int (nn : Int) tl) else m z)) (X : (hd2.heap_39 w.params).In h₀) (T : Top p loose mean mg mb h₀) {target iter : Expr} {body : List Stmt} {cs : Scope} (hw : forOf (hd2.heap_39 w.params) 63 = some (target, iter, body, cs)) (C : CodeHd base 20 16)
    {size : Nat} {tz : Tok} {c8 R I9 : Addr} {oI9 oc8 oE oW oR oS tab : Obj} {vs8 : Array Value} {t8 : Tok} {vsR : List Value} {nR : Nat} {row : List Int} (hlen : row.length = 2 ^ size + size - 1) (hfact : LoopFact row size nn) (hs1 : 1 ≤ size) (hs2 : size ≤ 5) (hnn : nn < 2 ^ (size - 1))
    (N : News h₀ L s.heap [(I9, oI9), (c8, oc8), (R, listOf vsR.toArray nR), (L + 4, oE), (L + 3, oW), (L + 2, oR), (L + 1, oS), (16, tabObj #[rawInt 5, rawInt 4, .ref c8]), (23, tab)])
    (iR : IntsAre vsR row) (d8 : oc8.data = .fields vs8) (v8 : vs8[1]? = some (.str i2dQual t8)) (dE : ∃ v, oE.data = .cell v) (dR : oR.data = .cell (some (.ref R))) (dS : oS.data = .cell (some (.int (size : Int) tz)))
    (o1 : @LT.lt Nat _ 23 L) (o2 : @LT.lt Nat _ (L + 4) R) (o3 : @LT.lt Nat _ R c8) (o4 : @LT.lt Nat _ c8 I9)
    (hd : dp + 200 < recursionLimit) (hu : un + 5000 < cLine) :
    wpAny (model PySem.Challenge.rw_ia0004_02.row.prog w) (ktrTop dp un gd (Str.ofString "law") cs L a ccd (cellsFrom (L + 1) cs.names []) outer) (execs body (envX (Str.ofString "law") cs L a ccd (cellsFrom (L + 1) cs.names [])))
      (LoopGo h₀ L s (fun oE' => [(I9, oI9), (c8, oc8), (R, listOf vsR.toArray nR), (L + 4, oE'), (L + 3, oW), (L + 2, oR), (L + 1, oS), (16, tabObj #[rawInt 5, rawInt 4, .ref c8]), (23, tab)])) (fun _ _ => False) s := by
  cases hw
  obtain ⟨vE, dE⟩ := dE
  have hlR : vsR.length = row.length := iR.length
  have hp5 : 2 ^ size ≤ 32 := Nat.le_trans (Nat.pow_le_pow_right (by decide) hs2) (by decide)
  have hp4 : 2 ^ (size - 1) ≤ 16 := Nat.le_trans (Nat.pow_le_pow_right (by decide) (show size - 1 ≤ 4 by omega)) (by decide)
  revert X
  k_fill
  intro X
  k_with_none
  w_top off
  show wpAny _ _ _ _ _ { s with heap := s.heap, toks := s.toks }
  dsimp only
  k_fold
  k_with "my mul" => ((k_dflt (refine' mul_ints (j := size) ?mF ?mN ?mm ?mx ?mj ?_; (case mF => k_asm); (case mN => k_asm); (case mm => k_mem); (case mx => exact rfl); (case mj => omega))); intro D7 h7 F7 N7 l7 i7; (try k_lt l7); (try k_sweep))
  k_with "my call" => (refine' i2dHit w (C := by k_asm) (c9 := c8) ?B ?F ?X ?T ?hk ?N ?cr ?x0 ?x1 ?hd ?hu ?_; (case B => k_asm); (case F => k_asm); (case X => k_asm); (case T => k_asm); (case hk => exact rfl); (case hd => ktr_room); (case hu => ktr_units); (case N => exact after_one (o' := default) (by k_asm) (by k_upd)); (case cr => exact codeRec_news (oc := oc8) (by k_asm) (by k_mem) d8 v8); (case x0 => omega); (case x1 => omega); (intro l6 vs6 n6 h6 tk6 e6 z6 g6 i6; (try dsimp only at e6 z6); (refine' after_list ?aF ?aN e6 z6 g6 ?_; (case aF => k_asm); (case aN => k_asm); intro F6 N6 l6'; (try k_lt l6')); (try dsimp only); (try k_sweep); (try k_fold)))
  k_with "my add" => ((k_dflt (refine' kmk_add_ints ?aF ?aN ?aa ?ab i6 i7 ?_ ?az; (case aF => k_asm); (case aN => k_asm); (case aa => exact news_list (by k_asm) (by k_mem)); (case ab => exact news_list (by k_asm) (by k_mem)); (case az => (rw [sizeLine_eq, bitsOf_length, List.length_replicate]; have := (bits_of (a := (nn : Int)) (by omega) (by omega)).2.1; omega)))); intro Da usa ha Fa Na la ia; (try k_lt la); (try k_sweep))
  k_with "my slice" => ((k_dflt (refine' slice_to (k := size - 1) ?sx ?sF ?sN ?sl ia ?sz ?_; (case sF => k_asm); (case sN => k_asm); (case sl => exact news_list (by k_asm) (by k_mem)); (case sx => omega); (case sz => (rw [ia.length, List.length_append, bitsOf_length, List.length_replicate]; have := (bits_of (a := (nn : Int)) (by omega) (by omega)).2.1; omega)))); intro De wse he Fe Ne le ie; (try k_lt le); (try k_sweep))
  k_with "my pow" => (k_dflt (refine pow_nat (k := size) rfl (Nat.le_trans hs2 (by decide)) ?_))
  k_with "my eq" => (k_dflt (refine' eq_intsK ?ea is ?eb ie ?eu ?_; (case ea => exact news_list (by k_asm) (by k_mem)); (case eb => exact news_list (by k_asm) (by k_mem)); (case eu => (clear off5; ktr_units))))
  k_with "my src" => ((k_dflt (refine' LCt.CompSrcT.range (n := 2 ^ size) (by rfl) ?sF ?sN ?sr ?ss ?sn ?sz ?_; (case sF => k_asm); (case sN => k_asm); (case sr => assumption); (case ss => exact range_small hp5); (case sn => exact range_size); (case sz => (rw [sizeLine_eq]; omega)))); intro gq; refine compT_run (aheadF row size (endsOf size nn)) trivial ?_ ?_; rotate_left; (intro ysB iB; unfold LCg.FinA; intro DB hB tkB FB NB oB; (try simp only [LCg.Off1, and_true] at oB); (try dsimp only)); rotate_left; (intro i5 v5 I5 oI5 C5 oC5 D5 ys5 m5 h5 tk5 E5 hi5 hP5 hC5 hx5 F5 N5 off5 ne5; obtain ⟨tv5, rfl⟩ := hP5; rw [Int.zero_add] at hx5; (try simp only [LCg.Off3, and_true] at off5)))
  k_with "my src" => (((fail_if_success (with_reducible (rename IntsAre _ (List.filterMap (afterF _ _ _) _) => q)))); (k_dflt (refine' LCt.CompSrcT.range (n := 2 ^ size) (by rfl) ?sF ?sN ?sr ?ss ?sn ?sz ?_; (case sF => k_asm); (case sN => k_asm); (case sr => assumption); (case ss => exact range_small hp5); (case sn => exact range_size); (case sz => (rw [sizeLine_eq]; omega)))); intro gq; refine compT_run (afterF row size (endsOf size nn)) trivial ?_ ?_; rotate_left; (intro ysA iA; unfold LCg.FinA; intro DA hA tkA FA NA oA; (try simp only [LCg.Off1, and_true] at oA); (try dsimp only)); rotate_left; (intro i5 v5 I5 oI5 C5 oC5 D5 ys5 m5 h5 tk5 E5 hi5 hP5 hC5 hx5 F5 N5 off5 ne5; obtain ⟨tv5, rfl⟩ := hP5; rw [Int.zero_add] at hx5; (try simp only [LCg.Off3, and_true] at off5)))
  k_with "my slice" => ((k_dflt (refine' slice_run (a := i5) (b := i5 + size - 1) ?sx ?sy ?sF ?sN ?sl iR ?sz ?_; (case sF => k_asm); (case sN => k_asm); (case sl => exact news_list (by k_asm) (by k_mem)); (case sx => rfl); (case sy => (clear off5; omega)); (case sz => (clear off5; omega)))); intro Ds wss hs Fs Ns ls is; (try k_lt ls); (try k_sweep))
  k_with "my item" => ((k_dflt (refine' ksa_sub ?N ?m iR ?h0 ?h1 ?hf ?_ ?hs; (case N => k_asm); (case m => k_mem); (case h0 => (clear off5; omega)); (case h1 => (clear off5; omega)); (case hf => (clear off5; omega)); (case hs => with_unfolding_all rfl))); intro t7)
  k_with "my slice" => ((k_dflt (refine' slice_to (k := 2 ^ size) ?sx ?sF ?sN ?sl iR ?sz ?_; (case sx => rfl); (case sF => k_asm); (case sN => k_asm); (case sl => exact news_list (by k_asm) (by k_mem)); (case sz => (clear off5; omega)))); intro Dt wst ht Ft Nt lt it; (try k_lt lt); (try k_sweep))
  k_with "my add" => ((k_dflt (refine' kmk_add_ints ?aF ?aN ?aa ?ab it iR ?_ ?az; (case aF => k_asm); (case aN => k_asm); (case aa => exact news_list (by k_asm) (by k_mem)); (case ab => exact news_list (by k_asm) (by k_mem)); (case az => (rw [sizeLine_eq, List.length_take]; clear off5; omega)))); intro Dq usq hq Fq Nq lq iq; (try k_lt lq); (try k_sweep))
  k_with "my item" => ((k_dflt (refine' ksa_sub ?N ?m iq ?h0 ?h1 ?hf ?_ ?hs; (case N => k_asm); (case m => k_mem); (case h0 => (clear off5; omega)); (case h1 => (rw [List.length_append, List.length_take]; clear off5; omega)); (case hf => (clear off5; omega)); (case hs => with_unfolding_all rfl))); intro t7)
  k_with "my sorted" => ((k_dflt (refine' sorted_N ?oF ?oN ?ol iA ?oz ?_; (case oF => k_asm); (case oN => k_asm); (case ol => exact news_seq (by k_asm) (by k_mem)); (case oz => (rw [iA.length, two_len hfact.a]; decide)))); intro hS vsS nsS eS FS NS iS pS sS; (have eS2 := two_sorted hfact.a pS sS); (try k_sweep))
  k_with "my sorted" => ((k_dflt (refine' sorted_N ?oF ?oN ?ol iB ?oz ?_; (case oF => k_asm); (case oN => k_asm); (case ol => exact news_seq (by k_asm) (by k_mem)); (case oz => (rw [iB.length, two_len hfact.b]; decide)))); intro hS vsS nsS eS FS NS iS pS sS; (have eS2 := two_sorted hfact.b pS sS); (try k_sweep))
  k_with "my ne" => (k_dflt (refine' ne_ints_false eS2 ?ea iS ?eb (IntsAre.cons _ _ (IntsAre.cons _ _ .nil)) ?eu ?_; (case ea => exact news_seq (by k_asm) (by k_mem)); (case eb => exact news_seq (by k_asm) (by k_mem)); (case eu => ktr_units)))
  k_steps
  all_goals first
    | exact after_some (by assumption) hs1
    | exact after_none (by assumption)
    | exact ahead_pos (by assumption) (by clear off5; omega)
    | exact ahead_zero (by assumption) (by clear off5; omega)
    | exact ahead_none (by assumption)
    | ((rename News _ _ _ _ => N1); (rename Fr _ _ _ _ => F1); (rename (Obj.data _ = Data.cell (some (Value.ref De))) => dE9); (show LoopGo _ _ _ _ _ _); exact ⟨rfl, _, _, _, _, rfl, F1, ⟨_, dE9⟩, news_sub N1 (by lcg_sub)⟩)
    | ((rename News _ _ _ _ => N1); exact ⟨_, _, rfl, by k_asm, news_sub N1 (by lcg_sub)⟩)
end Mine

end
section
open PySem PySem.W PySem.Spec PySem.Calls PyProof.Rows
namespace Mine
local macro_rules | `(tactic| walk_at "pyIter ref") => `(tactic| k_extra "my iter")
local macro_rules | `(tactic| walk_at "binaryOp Pow int int") => `(tactic| k_extra "my pow")
theorem lawD (w : World) {p : Program} {loose : List Str} {mean : ExcName → Option Value} {mg mb : Str → Option Value} {dp un : Nat} {gd : Option (List Code)} {a : Addr} {ccd : Value} {outer : List Env}
    {A₀ : Around} {base h₀ : Heap} {L : Addr} {m : Str → Option Value} {s : Shared}
    (B : Below A₀ base outer h₀) (F : Fr h₀ L s.heap m) (X : (hd2.heap_39 w.params).In h₀) (T : Top p loose mean mg mb h₀) {body : List Stmt} {cs : Scope} (hw : bodyOf (hd2.heap_39 w.params) 63 = some (body, cs)) (C : CodeHd base 20 16)
    {size : Nat} {tz : Tok} {c8 R : Addr} {oc8 oE oW oR oS : Obj} {pt vs8 : Array Value} {t8 : Tok} {vsR : List Value} {nR : Nat} {row : List Int} (hlen : row.length = 2 ^ size + size - 1) (hfact : ∀ n, n < 2 ^ (size - 1) → LoopFact row size n) (hs1 : 1 ≤ size) (hs2 : size ≤ 5)
    (N : News h₀ L s.heap [(c8, oc8), (R, listOf vsR.toArray nR), (L + 4, oE), (L + 3, oW), (L + 2, oR), (L + 1, oS), (16, tabObj #[rawInt 5, rawInt 4, .ref c8]), (23, tabObj pt)])
    (iR : IntsAre vsR row) (d8 : oc8.data = .fields vs8) (v8 : vs8[1]? = some (.str i2dQual t8)) (dE : ∃ v, oE.data = .cell v) (dR : oR.data = .cell (some (.ref R))) (dS : oS.data = .cell (some (.int (size : Int) tz)))
    (o1 : @LT.lt Nat _ 23 L) (o2 : @LT.lt Nat _ (L + 4) R) (o3 : @LT.lt Nat _ R c8)
    (hd : dp + 200 < recursionLimit) (hu : un + 5000 < cLine) :
    wpAny (model PySem.Challenge.rw_ia0004_02.row.prog w) (ktrTop dp un gd (Str.ofString "law") cs L a ccd (cellsFrom (L + 1) cs.names []) outer) (execs (body.drop 8) (envX (Str.ofString "law") cs L a ccd (cellsFrom (L + 1) cs.names [])))
      (LawEnd h₀ L [(27, 23), (20, 16)] s) (fun _ _ => False) s := by
  cases hw
  have hp4 : 2 ^ (size - 1) ≤ 16 := Nat.le_trans (Nat.pow_le_pow_right (by decide) (show size - 1 ≤ 4 by omega)) (by decide)
  revert X
  k_fill
  intro X
  k_with_none
  w_top off
  show wpAny _ _ _ _ _ { s with heap := s.heap, toks := s.toks }
  dsimp only [List.drop]
  k_fold
  k_with "my pow" => (k_dflt (refine pow_nat (k := size - 1) (by omega) (by omega) ?_))
  k_with "my iter" => ((k_dflt (refine' loop_run (n := 2 ^ (size - 1)) (news := [(c8, oc8), (R, listOf vsR.toArray nR), (L + 4, oE), (L + 3, oW), (L + 2, oR), (L + 1, oS), (16, tabObj #[rawInt 5, rawInt 4, .ref c8]), (23, tabObj pt)]) (fun I i m nx => ∃ oE, (∃ v, oE.data = .cell v) ∧ nx = [(c8, oc8), (R, listOf vsR.toArray nR), (L + 4, oE), (L + 3, oW), (L + 2, oR), (L + 1, oS), (16, tabObj #[rawInt 5, rawInt 4, .ref c8]), (23, tabObj pt)] ∧ @LT.lt Nat _ c8 I) rfl ?hr ?hsm ?hn ?hF ?hN ?h0 ?step ?fin; (case hr => assumption); (case hsm => exact range_small hp4); (case hn => exact range_size); (case hF => k_asm); (case hN => exact news_sub (by k_asm) (by lcg_sub)))); (case h0 => (intro I hI; exact ⟨oE, dE, rfl, hI (c8, oc8) (List.mem_cons_self ..)⟩)); (case step => (rintro I i t h tk m' nx oI hi ⟨oE', dE', rfl, hI⟩ F9 N9; refine wpAny_mono (lawTurn w (Q := fun _ _ => True) (E := fun _ _ => True) (nn := i) (tl := t) (m := m') B F9 X T rfl C hlen (hfact i hi) hs1 hs2 hi N9 iR d8 v8 dE' dR dS o1 o2 o3 hI (by omega) (by omega)) ?_ (fun _ _ q => q.elim); rintro fl s' ⟨rfl, h', tk', m8, oE9, rfl, F8, dE9, N8⟩; exact ⟨h', tk', m8, _, rfl, F8, N8, (by intro p hp; simp only [List.mem_cons, List.not_mem_nil, or_false] at hp; rcases hp with rfl | rfl | rfl | rfl | rfl | rfl | rfl | rfl <;> exact neN (by (try dsimp only); omega)), ⟨oE9, dE9, rfl, hI⟩⟩)); rintro I m8 nx h tk ⟨oE8, dE8, rfl, hI⟩ F9 N9; dsimp only at F9 N9 ⊢)
  k_steps
  (show LawEnd _ _ _ _ _ _)
  (rename News _ _ _ _ => N1)
  (rename Fr _ _ _ _ => F1)
  exact ⟨rfl, _, _, _, rfl, F1, GrownAt.of N1 (by k_mem), GrownAt.of N1 (by k_mem), trivial⟩
end Mine

end
section
open PySem PySem.W PySem.Spec PySem.Calls PyProof.Rows
namespace Mine
local macro_rules | `(tactic| walk_at "call ref") => `(tactic| k_extra "my call")
local macro_rules | `(tactic| walk_at "binaryOp Mult ref int") => `(tactic| k_extra "my mul")
local macro_rules | `(tactic| walk_at "binaryOp Add ref ref") => `(tactic| k_extra "my add")
local macro_rules | `(tactic| walk_at "binaryOp Pow int int") => `(tactic| k_extra "my pow")
local macro_rules | `(tactic| walk_at "binaryOp Mod int int") => `(tactic| k_extra "my mod")
local macro_rules | `(tactic| walk_at "subscriptTail") => `(tactic| k_extra "my slice")
local macro_rules | `(tactic| walk_at "subscriptTail Name Slice ref ref") => `(tactic| k_extra "my slice")
local macro_rules | `(tactic| walk_at "subscriptTail") => `(tactic| k_extra "my item")
local macro_rules | `(tactic| walk_at "call builtin:len") => `(tactic| k_extra "my len")
local macro_rules | `(tactic| walk_at "compareOp Eq ref ref") => `(tactic| k_extra "my eq")
local macro_rules | `(tactic| walk_at "CompSrcT") => `(tactic| k_extra "my src")
local macro_rules | `(tactic| walk_at "exec Assign cons ListComp") => `(tactic| (k_here; lcg_calm; k_dflt (refine LCt.Assign_ListComp_T (F₀ := by k_asm) (by rfl) (by with_unfolding_all rfl) (by with_unfolding_all rfl) (by decide) (by rfl) (by decide) (by rfl) (by rfl) (by rfl) ?_); k_dflt lct_toSrc))
theorem lawC (w : World) {p : Program} {loose : List Str} {mean : ExcName → Option Value} {mg mb : Str → Option Value} {dp un : Nat} {gd : Option (List Code)} {a : Addr} {ccd : Value} {outer : List Env}
    {A₀ : Around} {base h₀ : Heap} {L : Addr} {m : Str → Option Value} {s : Shared} {l : Addr}
    (B : Below A₀ base outer h₀) (F : Fr h₀ L s.heap (fun z => if z = Str.ofString "script" then some (.ref l) else m z)) (X : (hd2.heap_39 w.params).In h₀) (T : Top p loose mean mg mb h₀) {body : List Stmt} {cs : Scope} (hw : bodyOf (hd2.heap_39 w.params) 63 = some (body, cs)) (C : CodeHd base 20 16) (C' : CodeHd base 27 23)
    {vs : List Value} {ns : List Int} (hl : h₀.IsList l vs.toArray) (hi : IntsAre vs ns) (hns : ns.length ≤ 63)
    {size : Nat} {tz : Tok} {c9 R : Addr} {oc9 oE oW oR oS : Obj} {vs9 : Array Value} {t9 : Tok} {vsR : List Value} {nR : Nat} {row : List Int} (hlen : row.length = 2 ^ size + size - 1) (hfact : ∀ n, n < 2 ^ (size - 1) → LoopFact row size n) (hword : ∀ n, n < 2 ^ size → WordFact row size n) (hs1 : 1 ≤ size) (hs2 : size ≤ 5)
    (N : News h₀ L s.heap [(c9, oc9), (R, listOf vsR.toArray nR), (L + 4, oE), (L + 3, oW), (L + 2, oR), (L + 1, oS), (16, tabObj #[]), (23, tabObj #[rawInt 20, rawInt 4, .ref c9])])
    (iR : IntsAre vsR row) (d9 : oc9.data = .fields vs9) (v9 : vs9[1]? = some (.str d2iQual t9)) (dE : ∃ v, oE.data = .cell v) (dW : ∃ v, oW.data = .cell v) (dR : oR.data = .cell (some (.ref R))) (dS : oS.data = .cell (some (.int (size : Int) tz)))
    (o1 : @LT.lt Nat _ 23 L) (o2 : @LT.lt Nat _ (L + 4) R) (o3 : @Ne Nat R c9) (o5 : @LT.lt Nat _ (L + 4) c9)
    (hd : dp + 200 < recursionLimit) (hu : un + 5000 < cLine) :
    wpAny (model PySem.Challenge.rw_ia0004_02.row.prog w) (ktrTop dp un gd (Str.ofString "law") cs L a ccd (cellsFrom (L + 1) cs.names []) outer) (execs (body.drop 4) (envX (Str.ofString "law") cs L a ccd (cellsFrom (L + 1) cs.names [])))
      (LawEnd h₀ L [(27, 23), (20, 16)] s) (fun _ _ => False) s := by
  cases hw
  obtain ⟨vW, dW⟩ := dW
  have hlR : vsR.length = row.length := iR.length
  have hp5 : 2 ^ size ≤ 32 := Nat.le_trans (Nat.pow_le_pow_right (by decide) hs2) (by decide)
  revert X
  k_fill
  intro X
  k_with_none
  w_top off
  show wpAny _ _ _ _ _ { s with heap := s.heap, toks := s.toks }
  dsimp only [List.drop]
  k_fold
  k_with "my pow" => (k_dflt (refine pow_nat (k := size) (by first | rfl | omega) (by omega) ?_))
  k_with "my mod" => ((k_dflt (refine mod_pow (k := size) rfl ?_)); intro nn hnn; (have hw1 := (hword nn hnn).a); (have hw2 := (hword nn hnn).b))
  k_with "my add" => (((fail_if_success (with_reducible (rename IntsAre _ (bitsOf _ _) => q)))); (k_dflt (refine' kmk_add_ints ?aF ?aN ?aa ?ab hi (IntsAre.cons _ _ .nil) ?_ ?az; (case aF => k_asm); (case aN => k_asm); (case aa => exact hl.at fun o e => Fr.keep (by k_asm) _ _ e); (case ab => exact news_list (by k_asm) (by k_mem)); (case az => (rw [sizeLine_eq]; simp; omega)))); intro D0 us0 h0 F0 N0 l0 i0; (try k_lt l0); (try k_sweep))
  k_with "my item" => ((k_dflt (refine' ksa_sub ?N ?m i0 ?h0 ?h1 ?hf ?_ ?hs; (case N => k_asm); (case m => k_mem); (case h0 => omega); (case h1 => (simp; try omega)); (case hf => omega); (case hs => with_unfolding_all rfl))); intro t7)
  k_with "my mul" => ((k_dflt (refine' mul_ints (j := size) ?mF ?mN ?mm ?mx ?mj ?_; (case mF => k_asm); (case mN => k_asm); (case mm => k_mem); (case mx => exact rfl); (case mj => omega))); intro D7 h7 F7 N7 l7 i7; (try k_lt l7); (try k_sweep))
  k_with "my call" => (refine' i2dNew w (C := by k_asm) (x := (nn : Int)) ?B ?F ?X ?T ?hk ?N ?x0 ?x1 ?hd ?hu ?_; (case B => k_asm); (case F => k_asm); (case X => k_asm); (case T => k_asm); (case hk => exact rfl); (case hd => ktr_room); (case hu => ktr_units); (case N => exact after_one (o' := default) (by k_asm) (by k_upd)); (case x0 => omega); (case x1 => omega); (intro l6 vs6 n6 h6 tk6 c8 e6 g6 z6 cn6 ne6 zl6 gl6 i6; (try dsimp only at e6 z6 zl6); (refine' after_newl ?aF ?aN ?aU e6 g6 z6 cn6 zl6 gl6 ?_; (case aF => k_asm); (case aN => k_asm); (case aU => k_upd); intro oc8 vs8 t8 d8 v8 F6 N6 lc6 ll6; (try k_lt lc6); (try k_lt ll6)); (try dsimp only); (try k_sweep); (try k_fold)))
  k_with "my add" => ((k_dflt (refine' kmk_add_ints ?aF ?aN ?aa ?ab i6 i7 ?_ ?az; (case aF => k_asm); (case aN => k_asm); (case aa => exact news_list (by k_asm) (by k_mem)); (case ab => exact news_list (by k_asm) (by k_mem)); (case az => (rw [sizeLine_eq, bitsOf_length, List.length_replicate]; have := (bits_of (a := (nn : Int)) (by omega) (by omega)).2.1; omega)))); intro Da usa ha Fa Na la ia; (try k_lt la); (try k_sweep))
  k_with "my slice" => ((k_dflt (refine' slice_to (k := size) ?sx ?sF ?sN ?sl ia ?sz ?_; (case sF => k_asm); (case sN => k_asm); (case sl => exact news_list (by k_asm) (by k_mem)); (case sx => omega); (case sz => (rw [ia.length, List.length_append, bitsOf_length, List.length_replicate]; have := (bits_of (a := (nn : Int)) (by omega) (by omega)).2.1; omega)))); intro De wse he Fe Ne le ie; (try k_lt le); (try k_sweep); change IntsAre wse (wordOf size nn) at ie)
  k_with "my eq" => (k_dflt (refine' eq_intsK ?ea is ?eb ie ?eu ?_; (case ea => exact news_list (by k_asm) (by k_mem)); (case eb => exact news_list (by k_asm) (by k_mem)); (case eu => (clear off5; ktr_units))))
  k_with "my src" => ((k_dflt (refine' LCt.CompSrcT.range (n := 2 ^ size) (by rfl) ?sF ?sN ?sr ?ss ?sn ?sz ?_; (case sF => k_asm); (case sN => k_asm); (case sr => assumption); (case ss => exact range_small hp5); (case sn => exact range_size); (case sz => (rw [sizeLine_eq]; omega)))); intro gq; refine compT_run (placeF row size (wordOf size nn)) trivial ?_ ?_; rotate_left; (intro ysA iA; unfold LCg.FinA; intro DA hA tkA FA NA oA; (try simp only [LCg.Off1, and_true] at oA); (try dsimp only)); rotate_left; (intro i5 v5 I5 oI5 C5 oC5 D5 ys5 m5 h5 tk5 E5 hi5 hP5 hC5 hx5 F5 N5 off5 ne5; obtain ⟨tv5, rfl⟩ := hP5; rw [Int.zero_add] at hx5; (try simp only [LCg.Off3, and_true] at off5)))
  k_with "my slice" => ((k_dflt (refine' slice_run (a := i5) (b := i5 + size) ?sx ?sy ?sF ?sN ?sl iR ?sz ?_; (case sF => k_asm); (case sN => k_asm); (case sl => exact news_list (by k_asm) (by k_mem)); (case sx => rfl); (case sy => (clear off5; omega)); (case sz => (clear off5; omega)))); intro Ds wss hs Fs Ns ls is; (try k_lt ls); (try k_sweep))
  k_with "my len" => (k_dflt (refine' len_is (k := 1) ?lN ?lm ?lk (by decide) ?_; (case lN => k_asm); (case lm => k_mem); (case lk => (rw [← hw1, ← iA.length]; simp))))
  k_with "my call" => (refine' d2iHit w (C := by k_asm) (c9 := c9) ?B ?F ?X ?T ?hk ?N ?cr ?lP ?hl ie ?bits ?len ?hd ?hu ?_; (case B => k_asm); (case F => k_asm); (case X => k_asm); (case T => k_asm); (case hk => exact rfl); (case hd => ktr_room); (case hu => ktr_units); (case N => exact after_one (o' := default) (by k_asm) (by k_upd)); (case cr => exact codeRec_news (oc := oc9) (by k_asm) (by k_mem) d9 v9); (case hl => exact news_list (by k_asm) (by k_mem)); (case lP => exact neN (by omega)); (case bits => exact bits_word _ _); (case len => (unfold wordOf; rw [List.length_take]; omega)); (intro h9 tk9 t9 e9; (try dsimp only at e9); (have F9 := ext_F (by k_asm) e9); (have N9 := ext_N (by k_asm) e9); (try dsimp only); (try k_sweep); (try k_fold)))
  repeat' (first | (k_unfold; (try dsimp only)) | ((fail_if_success (with_reducible show wpAny _ _ (execs (PySem.Stmt.For _ _ _ _ _ :: _) _) _ _ _)); first | walk1 | (dsimp only; walk1)))
  all_goals first
    | exact place_some (by assumption)
    | exact place_none (by assumption)
    | ((rename News _ _ _ _ => N1); exact ⟨_, _, rfl, by k_asm, news_sub N1 (by lcg_sub)⟩)
    | exact absurd hw2 (by assumption)
    | ((rename News _ _ _ _ => N1); (rename Fr _ _ _ _ => F1); refine wpAny_mono (lawD w (c8 := c8) B F1 X T rfl C hlen hfact hs1 hs2 (news_sub N1 (by lcg_sub)) iR d8 v8 dE dR dS o1 o2 (by omega) (by omega) (by omega)) ?_ (fun _ _ q => q.elim); rintro fl s' ⟨rfl, h', tk', m', rfl, F', G'⟩; exact ⟨rfl, h', tk', m', rfl, F', G'⟩)
end Mine

end
section
open PySem PySem.W PySem.Spec PySem.Calls PyProof.Rows
namespace Mine
local macro_rules | `(tactic| walk_at "call ref") => `(tactic| k_extra "my call")
local macro_rules | `(tactic| walk_at "binaryOp Mult ref int") => `(tactic| k_extra "my mul")
local macro_rules | `(tactic| walk_at "binaryOp Add int int") => `(tactic| k_extra "my add1")
local macro_rules | `(tactic| walk_at "binaryOp Pow int int") => `(tactic| k_extra "my pow")
local macro_rules | `(tactic| walk_at "binaryOp Mod int int") => `(tactic| k_extra "my mod")
local macro_rules | `(tactic| walk_at "subscriptTail") => `(tactic| k_extra "my slice")
local macro_rules | `(tactic| walk_at "subscriptTail Name Slice ref ref") => `(tactic| k_extra "my slice")
local macro_rules | `(tactic| walk_at "call builtin:len") => `(tactic| k_extra "my len")
local macro_rules | `(tactic| walk_at "call builtin:sum") => `(tactic| k_extra "my sum")
local macro_rules | `(tactic| walk_at "call type:list") => `(tactic| k_extra "my list")
local macro_rules | `(tactic| walk_at "compareOp NotEq ref ref") => `(tactic| k_extra "my ne")
theorem lawA (w : World) {p : Program} {loose : List Str} {mean : ExcName → Option Value} {mg mb : Str → Option Value} {dp un : Nat} {gd : Option (List Code)} {a : Addr} {ccd : Value} {outer : List Env}
    {A₀ : Around} {base h₀ : Heap} {L : Addr} {m : Str → Option Value} {s : Shared} {l : Addr}
    (B : Below A₀ base outer h₀) (F : Fr h₀ L s.heap (fun z => if z = Str.ofString "script" then some (.ref l) else m z)) (X : (hd2.heap_39 w.params).In h₀) (T : Top p loose mean mg mb h₀) {body : List Stmt} {cs : Scope} (hw : bodyOf (hd2.heap_39 w.params) 63 = some (body, cs)) (C : CodeHd base 20 16) (C' : CodeHd base 27 23)
    {vs : List Value} {ns : List Int} (hl : h₀.IsList l vs.toArray) (hi : IntsAre vs ns) (hns : ns.length ≤ 63)
    {oE oW oR oS : Obj}
    (N : News h₀ L s.heap [(L + 4, oE), (L + 3, oW), (L + 2, oR), (L + 1, oS), (16, tabObj #[]), (23, tabObj #[])])
    (dE : ∃ v, oE.data = .cell v) (dW : ∃ v, oW.data = .cell v) (dR : ∃ v, oR.data = .cell v) (dS : ∃ v, oS.data = .cell v)
    (o1 : @LT.lt Nat _ 23 L)
    (hd : dp + 400 < recursionLimit) (hu : un + 7000 < cLine) :
    wpAny (model PySem.Challenge.rw_ia0004_02.row.prog w) (ktrTop dp un gd (Str.ofString "law") cs L a ccd (cellsFrom (L + 1) cs.names []) outer) (execs body (envX (Str.ofString "law") cs L a ccd (cellsFrom (L + 1) cs.names [])))
      (LawEnd h₀ L [(27, 23), (20, 16)] s) (fun _ _ => False) s := by
  cases hw
  obtain ⟨vR, dR⟩ := dR
  obtain ⟨vS, dS⟩ := dS
  revert X
  k_fill
  intro X
  k_with_none
  w_top off
  show wpAny _ _ _ _ _ { s with heap := s.heap, toks := s.toks }
  dsimp only
  k_fold
  k_with "my mod" => ((k_dflt (refine mod_five ?_)); intro k5 hk5)
  k_with "my add1" => (((fail_if_success (with_reducible (rename RowAll _ _ _ => q)))); (k_dflt (refine one_add' (k := k5) ?_)); intro size hsize; (have hs1 : 1 ≤ size := by omega); (have hs2 : size ≤ 5 := by omega))
  k_with "my call" => (refine' lawRow w (size := size) ?B ?F ?X ?T ?hk ?C ?P0 hs1 hs2 ?N ?hd ?hu ?_; (case B => k_asm); (case F => k_asm); (case X => k_asm); (case T => k_asm); (case hk => exact rfl); (case C => k_asm); (case P0 => omega); (case N => exact after_one (o' := default) (by k_asm) (by k_upd)); (case hd => ktr_room); (case hu => ktr_units); (intro r9 h9 tk9 e9 p9; (try dsimp only at e9 p9); (refine' after_row2 hs1 hs2 ?aF ?aN ?aU e9 p9 ?_; (case aF => k_asm); (case aN => k_asm); (case aU => k_updF); intro T9 R9 O9 c9 vsR nR vsO nO oc9 vs9 tt9 row order hAll er9 d9 v9 iR iO F9 N9 lT lR lO lc ne9; subst er9; clear p9; (try k_lt lT); (try k_lt lR); (try k_lt lO); (try k_lt lc); (try dsimp only at N9); (have hlen := hAll.len); (have hord := hAll.ord); (have hsum := hAll.sum)); (try dsimp only); (try k_sweep); (try k_fold)))
  k_with "my pow" => (k_dflt (refine pow_nat (k := size) (by rfl) (by omega) ?_))
  k_with "my pow" => (k_dflt (refine pow_nat (k := size - 1) (by omega) (by omega) ?_))
  k_with "my len" => (k_dflt (refine' len_is (k := 2 ^ size + size - 1) ?lN ?lm ?lk ?lz ?_; (case lN => k_asm); (case lm => k_mem); (case lk => (rw [← hlen, ← iR.length]; simp)); (case lz => (have hp5 : 2 ^ size ≤ 32 := Nat.le_trans (Nat.pow_le_pow_right (by decide) hs2) (by decide)); omega)))
  k_with "my list" => ((k_dflt (refine' kll_range (n := 2 ^ size) rfl ?sF ?sN ?sr ?ss ?sn ?sz ?_; (case sF => k_asm); (case sN => k_asm); (case sr => assumption); (case ss => exact range_small (Nat.le_trans (Nat.pow_le_pow_right (by decide) hs2) (by decide) : 2 ^ size ≤ 32)); (case sn => exact range_size); (case sz => exact (Nat.le_trans (Nat.pow_le_pow_right (by decide) hs2) (by decide))))); intro D3 us3 c3 h3 tk3 F3 N3 l3 i3; (try k_lt l3); (try k_sweep))
  k_with "my ne" => (k_dflt (refine' ne_ints_false hord ?ea iO ?eb i3 ?eu ?_; (case ea => exact news_list (by k_asm) (by k_mem)); (case eb => exact news_list (by k_asm) (by k_mem)); (case eu => ktr_units)))
  k_with "my mul" => ((k_dflt (refine' mul_ints (j := size - 1) ?mF ?mN ?mm ?mx ?mj ?_; (case mF => k_asm); (case mN => k_asm); (case mm => k_mem); (case mx => omega); (case mj => omega))); intro D7 h7 F7 N7 l7 i7; (try k_lt l7); (try k_sweep))
  k_with "my mul" => ((k_dflt (refine' mul_ints (j := size) ?mF ?mN ?mm ?mx ?mj ?_; (case mF => k_asm); (case mN => k_asm); (case mm => k_mem); (case mx => exact rfl); (case mj => omega))); intro D8 h8 F8 N8 l8 i8; (try k_lt l8); (try k_sweep))
  k_with "my slice" => ((k_dflt (refine' slice_from (k := row.length - size + 1) ?sx ?sF ?sN ?sl iR ?sz ?_; (case sF => k_asm); (case sN => k_asm); (case sl => exact news_list (by k_asm) (by k_mem)); (case sx => (have := Nat.pow_pos (n := size) (show 0 < 2 by decide)); omega); (case sz => (rw [iR.length, hlen]; (have hp5 : 2 ^ size ≤ 32 := Nat.le_trans (Nat.pow_le_pow_right (by decide) hs2) (by decide)); omega)))); intro De wse he Fe Ne le ie; (try k_lt le); (try k_sweep))
  k_with "my slice" => ((k_dflt (refine' slice_to (k := size) ?sx ?sF ?sN ?sl iR ?sz ?_; (case sF => k_asm); (case sN => k_asm); (case sl => exact news_list (by k_asm) (by k_mem)); (case sx => exact rfl); (case sz => (rw [iR.length, hlen]; (have hp5 : 2 ^ size ≤ 32 := Nat.le_trans (Nat.pow_le_pow_right (by decide) hs2) (by decide)); omega)))); intro Dh wsh hh Fh Nh lh ih; (try k_lt lh); (try k_sweep))
  k_with "my ne" => (k_dflt (refine' ne_ints_false hAll.tail ?ea ie ?eb i7 ?eu ?_; (case ea => exact news_list (by k_asm) (by k_mem)); (case eb => exact news_list (by k_asm) (by k_mem)); (case eu => ktr_units)))
  k_with "my ne" => (k_dflt (refine' ne_ints_false hAll.head ?ea ih ?eb i8 ?eu ?_; (case ea => exact news_list (by k_asm) (by k_mem)); (case eb => exact news_list (by k_asm) (by k_mem)); (case eu => ktr_units)))
  k_with "my sum" => ((k_dflt (refine' sumK rfl ?sF ?sN ?sl iR ?_; (case sF => k_asm); (case sN => k_asm); (case sl => exact news_list (by k_asm) (by k_mem)))); intro h4 tk4 t4 F4 N4)
  repeat' (first | ((fail_if_success (with_reducible (rename RowAll _ _ _ => q))); first | (k_unfold; (try dsimp only)) | walk1 | (dsimp only; walk1)))
  repeat' (first | (k_unfold; (try dsimp only)) | ((fail_if_success (with_reducible show wpAny _ _ (execs (PySem.Stmt.Assign _ _ _ :: _) _) _ _ _)); first | walk1 | (dsimp only; walk1)))
  all_goals first
    | exact absurd hsum (by assumption)
    | ((rename (((2 ^ size + size - 1 : Nat) : Int) ≠ _) => q9); exfalso; clear hlen hord hsum; (have := Nat.pow_pos (n := size) (show 0 < 2 by decide)); omega)
    | ((rename News _ _ _ _ => N1); (rename Fr _ _ _ _ => F1); (rename (Obj.data _ = Data.cell (some (Value.ref R9))) => dR9); (rename (Obj.data _ = Data.cell (some (Value.int _ _))) => dS9); (have F2 := fr_at (x := Str.ofString "script") (v := .ref l) F1 (by rfl)); refine wpAny_mono (lawC w (c9 := c9) (l := l) B F2 X T rfl C C' hl hi hns hlen hAll.loop hAll.word hs1 hs2 (news_sub N1 (by lcg_sub)) iR d9 v9 dE dW dR9 dS9 o1 (by omega) (by omega) (by omega) (by omega) (by omega)) ?_ (fun _ _ q => q.elim); rintro fl s' ⟨rfl, h', tk', m', rfl, F', G'⟩; exact ⟨rfl, h', tk', m', rfl, F', G'⟩)
end Mine

end
section
open PySem PySem.W PySem.Spec PySem.Calls PyProof.Rows
namespace Mine
theorem law2 : PySem.Challenge.rw_ia0004_02.Holds := hd2 (by
  k_with_none
  w_top off
  k_go0
  (rename Fr _ _ _ _ => F1)
  (rename News _ _ _ _ => N1)
  (rename Below _ _ _ _ => B1)
  (rename Frag.In _ _ => X1)
  (rename_i T1 _ _)
  refine' wpAny_mono (lawA (m := fun _ => none) _ ?B ?F ?X ?T ?hw ?C ?C' ?hl ?hi ?hns ?N ?dE ?dW ?dR ?dS ?o1 ?hd ?hu) ?_ ?_
  case B => k_asm
  case F => exact F1
  case X => exact X1
  case T => k_asm
  case hw => exact rfl
  case C => k_asm
  case C' => k_asm
  case hl => assumption
  case hi => assumption
  case hns => omega
  case N => exact news_sub N1 (by lcg_sub)
  case dE => exact ⟨_, by assumption⟩
  case dW => exact ⟨_, by assumption⟩
  case dR => exact ⟨_, by assumption⟩
  case dS => exact ⟨_, by assumption⟩
  case o1 => omega
  case hd => ktr_room
  case hu => ktr_units
  · rintro fl s' ⟨rfl, h', tk', m', rfl, F8, G8⟩
    refine ⟨?_, G8⟩
    k_steps
  · exact fun _ _ q => q.elim)
end Mine

end
theorem PySem.Challenge.cw_ia0004_02_holds : PySem.Challenge.rw_ia0004_02.Holds := by
  exact Mine.law2
