import PyProof.Rows.All
import Wide.All
import OpenK.AllK
import Wide.FinOn
import PySem.Challenge.RW_ax6028_01
open PySem PySem.W PyProof.Rows PySem.Calls
set_option Elab.async false
namespace Mine
set_option maxRecDepth 100000 in
set_option maxHeartbeats 8000000 in
open_top hd for PySem.Challenge.rw_ax6028_01
/-- a goal that the walk leaves alone -/
def Hold (P : Prop) : Prop := P
theorem Hold.out {P : Prop} (h : Hold P) : P := h

/-- a def's contract: what it hands back and the ledger behind it -/
def CallOK (w : World) (loose : List Str) (mean : ExcName → Option Value) (mg mb : Str → Option Value) (f : Addr) (dn : Nat) (args : List Value) (news : List (Addr × Obj)) (Ret : Value → List (Addr × Obj) → Prop) : Prop :=
  ∀ (dp un : Nat) (gd : Option (List Code)) (cn : Str) (cs : Scope) (a : Addr) (ccd : Value) (cl : List (Str × Addr)) (outer : List Env) (A₀ : Around) (base h₀ : Heap) (L : Addr) (m : Str → Option Value) (s : Shared) (Q E : Value → Shared → Prop),
    Below A₀ base outer h₀ → Fr h₀ L s.heap m → (hd.heap_39 w.params).In h₀ → News h₀ L s.heap news → Top hd.view_39 loose mean mg mb h₀ → cs.kind = .function →
    dp + dn < recursionLimit → un + (100 * dn + 100) < cLine →
    (∀ v news' h' tk', Fr h₀ L h' m → News h₀ L h' news' → Ret v news' → Q v { s with heap := h', toks := tk' }) →
    wpAny (model PySem.Challenge.rw_ax6028_01.row.prog w) (ktrTop dp un gd cn cs L a ccd cl outer) (call (.ref f) args) Q E s

section
variable {w : World} {loose : List Str} {mean : ExcName → Option Value} {mg mb : Str → Option Value} {f : Addr} {dn : Nat} {args : List Value} {news : List (Addr × Obj)} {Ret : Value → List (Addr × Obj) → Prop}
theorem CallOK.use {dp un : Nat} {gd : Option (List Code)} {cn : Str} {cs : Scope} {a : Addr} {ccd : Value} {cl : List (Str × Addr)} {outer : List Env} {A₀ : Around} {base h₀ : Heap} {L : Addr} {m : Str → Option Value} {s : Shared} {Q E : Value → Shared → Prop} {news₁ : List (Addr × Obj)}
    (C : CallOK w loose mean mg mb f dn args news Ret) (B : Below A₀ base outer h₀) (F : Fr h₀ L s.heap m) (X : (hd.heap_39 w.params).In h₀) (N : News h₀ L s.heap news₁) (hn : ∀ p ∈ news, p ∈ news₁) (T : Top hd.view_39 loose mean mg mb h₀) (hk : cs.kind = .function)
    (hd : dp + dn < recursionLimit) (hu : un + (100 * dn + 100) < cLine)
    (ret : ∀ v news' h' tk', Fr h₀ L h' m → News h₀ L h' news' → Ret v news' → Q v { s with heap := h', toks := tk' }) :
    wpAny (model PySem.Challenge.rw_ax6028_01.row.prog w) (ktrTop dp un gd cn cs L a ccd cl outer) (call (.ref f) args) Q E s := C _ _ _ _ _ _ _ _ _ _ _ _ _ _ _ _ _ B F X (fun p hp => N p (hn p hp)) T hk hd hu ret
end

/-- the state between two turns: the ledger, the names -/
def LpS {σ : Type} (Led : σ → List (Addr × Obj)) (ps : σ → List (Str × Value)) (x : Str) (stored : List Str) (m₀ : Str → Option Value) (P : σ → Prop) (m : Str → Option Value) (nx : List (Addr × Obj)) : Prop :=
  ∃ c : σ, nx = Led c ∧ (∀ p ∈ ps c, m p.1 = some p.2) ∧ (∀ z, z ≠ x → (∀ p ∈ ps c, z ≠ p.1) → stored.contains z = false → m z = m₀ z) ∧ P c

section
variable {prog : Program} {w : World} {A : Around} {E : Value → Shared → Prop} {s : Shared} {env : Env} {h₀ : Heap} {x : Str} {body : List Stmt} {Q : Flow → Shared → Prop}

theorem lp_end {σ : Type} {Led : σ → List (Addr × Obj)} {ps : σ → List (Str × Value)} {stored : List Str} {m₀ : Str → Option Value} {P : σ → Prop} {L : Addr} {m' : Str → Option Value} {own news' : List (Addr × Obj)} {s₁ : Shared} {h' : Heap} {tk : Nat} (c : σ)
    (F : Fr h₀ L h' m') (N : News h₀ L h' news') (hn : ∀ p ∈ Led c, p ∈ news') (ho : ∀ p ∈ own, p ∈ news') (hoff : OwnOff own ((Led c).map (·.1)))
    (hk : ∀ p ∈ ps c, m' p.1 = some p.2) (hr : ∀ z, z ≠ x → (∀ p ∈ ps c, z ≠ p.1) → stored.contains z = false → m' z = m₀ z) (hp : P c) :
    InvEndG h₀ L (LpS Led ps x stored m₀ P) own s₁ { s₁ with heap := h', toks := tk } :=
  ⟨h', tk, m', news', Led c, rfl, F, N, hn, ho, hoff, c, rfl, hk, hr, hp⟩

theorem lp_range {σ : Type} {r : Addr} {a₀ b₀ : Int} {t₀ u₀ v₀ : Tok} {n : Nat} {m₀ : Str → Option Value} {news : List (Addr × Obj)} (Led : σ → List (Addr × Obj)) (ps : σ → List (Str × Value)) (stored : List Str) (P : Nat → σ → Prop) (c₀ : σ)
    (hh : A.handled = none) (hr : IsRange s.heap r a₀ b₀ 1 t₀ u₀ v₀) (hsmall : Builtin.Range.small a₀ b₀ 1 = true) (hsz : Builtin.Range.rangeSize a₀ b₀ 1 = (n : Int)) (F : Fr h₀ env.locals s.heap m₀) (N : News h₀ env.locals s.heap news) (hn : ∀ p ∈ Led c₀, p ∈ news)
    (hk : ∀ p ∈ ps c₀, m₀ p.1 = some p.2) (hp : P 0 c₀)
    (turn : ∀ (c : σ) (i : Nat) t (u : Str → Option Value) h tk own, i < n → OwnOff own ((Led c).map (·.1)) → P i c →
      Fr h₀ env.locals h (fun y => if y = x then some (.int (a₀ + (i : Int)) t) else kstB (fun z => if stored.contains z then u z else m₀ z) (ps c) y) → News h₀ env.locals h (Led c ++ own) →
      wpAny (model prog w) A (execs body env) (InvPostG h₀ env.locals (LpS Led ps x stored m₀ (P (i + 1))) own { s with heap := h, toks := tk } Q) E { s with heap := h, toks := tk })
    (done : ∀ (c : σ) (u : Str → Option Value) h tk, P n c → Fr h₀ env.locals h (fun y => if y = x then u y else kstB (fun z => if stored.contains z then u z else m₀ z) (ps c) y) → News h₀ env.locals h (Led c) → Q .next { s with heap := h, toks := tk }) :
    wpAny (model prog w) A (pyIter (.ref r)) (fun it s₂ => LoopAtV prog w A h₀ env x body Q E it s₂) E s := by
  refine wpAny_pyIter_range hr hsmall ?_
  have W : Walks prog w A s.heap.objs.size [s.heap.objs.size] [s.heap.objs.size] n (fun i v => i < n ∧ ∃ t, v = .int (a₀ + i * 1) t)
      (fun i h => IsRangeIter h s.heap.objs.size (a₀ + (i : Nat) * 1) ((n : Int) - (i : Nat)) 1) := (Walks.range hh _ a₀ 1 n).bound
  refine kdr_loop (news := Led c₀) (fun i m nx => LpS Led ps x stored m₀ (P i) m nx) W (fun _ h => h) (fun _ h => h) ?_ ?_ ?_ ?_ (by show IsRangeIter _ _ _ _ _; rw [hsz]; simpa using Heap.get?_push_size _ rfl) (F.push _) (fun p hp => ⟨Heap.get?_push_of_some _ (N p (hn p hp)).1, (N p (hn p hp)).2⟩) ⟨c₀, rfl, hk, fun _ _ _ _ => rfl, hp⟩ ?_ ?_
  · intro i h hi b hb
    rw [List.mem_singleton.mp hb]
    exact ⟨_, hi⟩
  · intro hm
    exact absurd F.ns.lt ((List.mem_singleton.mp hm) ▸ Nat.lt_irrefl _)
  · intro b hb
    rw [List.mem_singleton.mp hb]
    exact next_is_new F
  · intro p hp hI
    exact absurd (Heap.lt_size (N p (hn p hp)).1) ((List.mem_singleton.mp hI) ▸ Nat.lt_irrefl _)
  · rintro i v m₁ nx h tk own hi ⟨_, t, rfl⟩ hoff ⟨c, rfl, h1, h2, hp'⟩ F₁ N₁
    have e1 : a₀ + (i : Int) * 1 = a₀ + (i : Int) := by omega
    rw [e1] at F₁
    exact turn c i t m₁ h tk own hi hoff hp' (kst_fr h1 h2 F₁) N₁
  · rintro m₁ nx h tk ⟨c, rfl, h1, h2, hp'⟩ F₁ N₁
    exact done c m₁ h tk hp' (kst_frOut h1 h2 F₁) N₁

theorem lp_list {σ : Type} {l : Addr} {vs : List Value} {nn : Nat} {m₀ : Str → Option Value} {news : List (Addr × Obj)} (Led : σ → List (Addr × Obj)) (ps : σ → List (Str × Value)) (stored : List Str) (P : Nat → σ → Prop) (c₀ : σ)
    (hh : A.handled = none) (hl : ∀ c, (l, listOf vs.toArray nn) ∈ Led c) (F : Fr h₀ env.locals s.heap m₀) (N : News h₀ env.locals s.heap news) (hn : ∀ p ∈ Led c₀, p ∈ news)
    (hk : ∀ p ∈ ps c₀, m₀ p.1 = some p.2) (hp : P 0 c₀)
    (turn : ∀ (c : σ) (i : Nat) v (u : Str → Option Value) h tk own, vs[i]? = some v → OwnOff own ((Led c).map (·.1)) → P i c →
      Fr h₀ env.locals h (fun y => if y = x then some v else kstB (fun z => if stored.contains z then u z else m₀ z) (ps c) y) → News h₀ env.locals h (Led c ++ own) →
      wpAny (model prog w) A (execs body env) (InvPostG h₀ env.locals (LpS Led ps x stored m₀ (P (i + 1))) own { s with heap := h, toks := tk } Q) E { s with heap := h, toks := tk })
    (done : ∀ (c : σ) (u : Str → Option Value) h tk, P vs.length c → Fr h₀ env.locals h (fun y => if y = x then u y else kstB (fun z => if stored.contains z then u z else m₀ z) (ps c) y) → News h₀ env.locals h (Led c) → Q .next { s with heap := h, toks := tk }) :
    wpAny (model prog w) A (pyIter (.ref l)) (fun it s₂ => LoopAtV prog w A h₀ env x body Q E it s₂) E s := by
  refine kdl_iter (news := Led c₀) (fun i m nx => LpS Led ps x stored m₀ (P i) m nx) hh (hl c₀) F (fun p hp => N p (hn p hp)) ⟨c₀, rfl, hk, fun _ _ _ _ => rfl, hp⟩ ?_ ?_
  · rintro i v m₁ nx h tk own hv hoff _ ⟨c, rfl, h1, h2, hp'⟩ F₁ N₁
    refine wpAny_mono (turn c i v m₁ h tk own hv hoff hp' (kst_fr h1 h2 F₁) N₁) (fun f s₂ p => ?_) fun _ _ x => x
    have up : InvEndG h₀ env.locals (LpS Led ps x stored m₀ (P (i + 1))) own { s with heap := h, toks := tk } s₂ →
        InvEndG h₀ env.locals (fun m' nx => (l, listOf vs.toArray nn) ∈ nx ∧ LpS Led ps x stored m₀ (P (i + 1)) m' nx) own { s with heap := h, toks := tk } s₂ := by
      rintro ⟨h', tk', m', news', nx', e', F', N', hn', ho', ha, hS⟩
      refine ⟨h', tk', m', news', nx', e', F', N', hn', ho', ha, ?_, hS⟩
      obtain ⟨c', rfl, _⟩ := hS
      exact hl c'
    cases f with
    | ret v => exact p
    | brk => exact p
    | next => exact up p
    | cont => exact up p
  · rintro m₁ nx h tk ⟨c, rfl, h1, h2, hp'⟩ F₁ N₁
    exact done c m₁ h tk hp' (kst_frOut h1 h2 F₁) N₁
end

section
variable {prog : Program} {w : World} {A : Around} {E : Value → Shared → Prop} {s : Shared} {h₀ : Heap} {L D : Addr} {m : Str → Option Value} {news news' : List (Addr × Obj)}
theorem append_L {vs : List Value} {n : Nat} {x : Value} {Q : Value → Shared → Prop} (F : Fr h₀ L s.heap m) (N : News h₀ L s.heap news) (U : Upd D (listOf vs.toArray n) (listOf (vs ++ [x]).toArray (n + 1)) news news') (hz : vs.length ≤ 4000)
    (h : ∀ h', Fr h₀ L h' m → News h₀ L h' news' → Q .none { s with heap := h' }) : wpAny (model prog w) A (call (.builtin "list.append") [.ref D, x]) Q E s := by
  have e : (vs ++ [x]).toArray = vs.toArray.push x := by simp
  rw [e] at U
  exact append_K F N U h (by rw [List.size_toArray, sizeLine_eq]; omega)
end

theorem offs_of {a b own r : List (Addr × Obj)} {d : Addr} (e : a ++ b ++ own = r) (h1 : ∀ p ∈ a, p.1 ≠ d) (h2 : ∀ p ∈ b, p.1 ≠ d) (h3 : ∀ p ∈ own, p.1 ≠ d) : ∀ p ∈ r, p.1 ≠ d := by
  subst e
  intro p hp
  rcases List.mem_append.mp hp with hp | hp
  · exact (List.mem_append.mp hp).elim (h1 p) (h2 p)
  · exact h3 p hp
theorem allLt_ne {d : Addr} {l : List (Addr × Obj)} (h : AllLt d l) : ∀ p ∈ l, p.1 ≠ d := by
  induction l with
  | nil => intro p hp; cases hp
  | cons q r ih =>
    intro p hp
    obtain ⟨h1, h2⟩ := h
    cases hp with
    | head => exact Nat.ne_of_lt h1
    | tail _ hp => exact ih h2 p hp

theorem own_more {own : List (Addr × Obj)} {l l' : List Addr} {a : Addr} (h : OwnOff own l) (hs : ∀ b ∈ l', b ∈ l ∨ b = a) (ha : ∀ p ∈ own, p.1 ≠ a) : OwnOff own l' := by
  intro p hp b hb
  rcases hs b hb with h1 | rfl
  · exact h p hp b h1
  · exact ha p hp
theorem own_same {own : List (Addr × Obj)} {l l' : List Addr} (h : OwnOff own l) (hs : ∀ b ∈ l', b ∈ l) : OwnOff own l' := fun p hp b hb => h p hp b (hs b hb)

section
variable {prog : Program} {w : World} {A : Around} {E : Value → Shared → Prop} {s : Shared} {h₀ : Heap} {L : Addr} {news : List (Addr × Obj)}
theorem list_led (N : News h₀ L s.heap news) {l : Addr} {vs : List Value} {n : Nat} (hm : (l, listOf vs.toArray n) ∈ news) : s.heap.IsList l vs.toArray := ⟨_, (N _ hm).1, rfl, n, rfl⟩
theorem tup_item {value slice : PySem.Expr} {a : Addr} {items : List Value} {n j : Nat} {k : Int} {u : Tok} {v : Value} {Q : Value → Shared → Prop} (N : News h₀ L s.heap news) (hm : (a, ({ cls := .type "tuple", data := .seq items.toArray n } : Obj)) ∈ news)
    (hlo : -(2 ^ 63) ≤ k) (hhi : k < 2 ^ 63) (hj : seqIndex? k items.length = some j) (hx : items[j]? = some v) (h : Q v s)
    (hs : subscripted slice false (.ref a) (.int k u) = operate [.ref a, .int k u] (getItem (.ref a) (.int k u)) := by with_unfolding_all rfl) :
    wpAny (model prog w) A (subscriptTail value slice (.ref a) (.int k u)) Q E s :=
  item_tupleT (l := items) ⟨_, (N _ hm).1, rfl, n, rfl⟩ hlo hhi hj hx h hs
end

section
variable {prog : Program} {w : World} {A : Around} {E : Value → Shared → Prop} {s : Shared} {h₀ : Heap} {L : Addr} {news : List (Addr × Obj)}
theorem len_L (N : News h₀ L s.heap news) {l : Addr} {vs : List Value} {n : Nat} {Q : Value → Shared → Prop} (hm : (l, listOf vs.toArray n) ∈ news) (hz : vs.length ≤ 4000) (h : Q (.int vs.length (s.toks + 1)) { s with toks := s.toks + 1 + 1 }) :
    wpAny (model prog w) A (call (.builtin "len") [.ref l]) Q E s :=
  Calls.call_len_list (list_led N hm) (by rw [List.size_toArray]; omega) (by rw [List.size_toArray]; exact h)
end

section
variable {prog : Program} {w : World} {A : Around} {E : Value → Shared → Prop} {s : Shared} {h₀ : Heap} {L : Addr} {m : Str → Option Value} {news : List (Addr × Obj)}
theorem add_L {l b : Addr} {vs ws : List Value} {n k : Nat} {Q : Value → Shared → Prop} (F : Fr h₀ L s.heap m) (N : News h₀ L s.heap news) (hl : (l, listOf vs.toArray n) ∈ news) (hb : (b, listOf ws.toArray k) ∈ news) (hz : vs.length + ws.length ≤ 4000)
    (h : ∀ D h', Fr h₀ L h' m → News h₀ L h' ((D, listOf (vs ++ ws).toArray 0) :: news) → (∀ p ∈ news, p.1 < D) → Q (.ref D) { s with heap := h' }) : wpAny (model prog w) A (binaryOp .Add (.ref l) (.ref b)) Q E s :=
  add_lists F N (list_led N hl) (list_led N hb) (fun h' F' N' => h _ h' F' N' fun p hp => Heap.lt_size (N p hp).1) (by rw [sizeLine_eq]; omega)
theorem truthy_L {l : Addr} {vs : List Value} {n : Nat} {Q : Bool → Shared → Prop} (N : News h₀ L s.heap news) (hl : (l, listOf vs.toArray n) ∈ news) (hz : vs.length ≤ 4000) (h : Q (!vs.isEmpty) { s with toks := s.toks + 1 + 1 }) : wpAny (model prog w) A (truthy (.ref l)) Q E s :=
  wpAny_truthy_list (list_led N hl) (by rw [List.size_toArray]; omega) (by simpa using h)
end

section
variable {prog : Program} {w : World} {A : Around} {E : Value → Shared → Prop} {s : Shared} {h₀ : Heap} {L : Addr} {news : List (Addr × Obj)}
theorem list_item {value slice : PySem.Expr} {l : Addr} {vs : List Value} {n : Nat} {k : Int} {u : Tok} {v : Value} {Q : Value → Shared → Prop} (N : News h₀ L s.heap news) (hm : (l, listOf vs.toArray n) ∈ news)
    (h0 : 0 ≤ k) (hhi : k < 2 ^ 63) (hx : vs[k.toNat]? = some v) (h : Q v s)
    (hs : subscripted slice false (.ref l) (.int k u) = operate [.ref l, .int k u] (getItem (.ref l) (.int k u)) := by with_unfolding_all rfl) :
    wpAny (model prog w) A (subscriptTail value slice (.ref l) (.int k u)) Q E s :=
  tail_any (list_led N hm).typeIs slot_list_getitem.lookup (wpAny_getItem_list (list_led N hm) h0 hhi (by simpa using hx) h) hs
end

local macro_rules | `(tactic| units_room) => `(tactic| ((try simp only [units_in1, units_deeper, Around.mark_units]); (try dsimp only [ktrTop]); omega))
local macro_rules | `(tactic| k_units) => `(tactic| units_room)
local macro_rules | `(tactic| k_all) => `(tactic| (with_reducible assumption))
local macro_rules | `(tactic| walk_at "compareOp NotEq ref ref") => `(tactic| (k_here; (with_reducible show wpAny _ _ (compareOp CmpOp.NotEq (Value.ref _) (Value.ref _)) _ _ _); (with_unfolding_all refine' ne_intsK (us := []) (ms := []) ?k1 ?k2 ?k3 ?k4 ?k5 ?_; (case k1 => is_list); (case k2 => assumption); (case k3 => is_list); (case k4 => exact IntsAre.nil); (case k5 => units_room)); (try simp only [reduceCtorEq, decide_false, decide_true, Bool.not_false, Bool.not_true])))
local macro_rules | `(tactic| walk_at "call ref") => `(tactic| (k_here; (with_reducible show wpAny _ _ (PySem.call (Value.ref _) _) _ _ _); refine Hold.out ?_))
local macro_rules | `(tactic| walk_at "pyIter ref") => `(tactic| ((with_reducible show wpAny _ _ (pyIter (Value.ref _)) _ _ _); refine Hold.out ?_))
local macro_rules | `(tactic| walk_at "eval ListComp") => `(tactic| (k_here; refine Hold.out ?_))
local macro_rules | `(tactic| walk_at "call type:range") => `(tactic| (k_here; (rename Fr _ _ _ _ => F'); (rename News _ _ _ _ => N'); first
  | (with_unfolding_all refine range1_rows F' N' ?_; intro h' tk' t1' t2' t3' R' F' N' K'; clear K')
  | (with_unfolding_all refine range2_rows F' N' ?_; intro h' tk' t1' t2' t3' R' F' N' K'; clear K')))
local macro_rules | `(tactic| walk_at "call builtin:list.append") => `(tactic| (k_here; (with_reducible show wpAny _ _ (PySem.call (Value.builtin _) [Value.ref _, _]) _ _ _); k_dflt (refine' append_L ?k1 ?k2 ?k3 ?z ?_; (case k1 => k_asm); (case k2 => k_asm); (case k3 => k_upd); (case z => first | omega | ((try simp only [List.length_append, List.length_cons, List.length_nil]); omega))); intro h' F' N'; (try dsimp only [List.nil_append, List.cons_append] at N')))
local macro_rules | `(tactic| k_enter) => `(tactic| (refine' code_defC ?k1 ?k2 ?k3 ?k4 ?k5 ?kA ?kF ?kK ?k6 ?k7 ?k8 ?k9 ?kB ?kD ?_ ?c2 ?c3 ?c4; (case kA => exact rfl); (case kF => exact rfl); (case kK => first | exact rfl | assumption); (case k1 => k_asm); (case k2 => k_asm); (case k3 => k_asm); (case k4 => k_asm); (case k5 => k_asm); (case k6 => k_is); (case k7 => k_is); (case k8 => ktr_room); (case k9 => exact BindsTo.of_eq rfl); (case kB => exact rfl); (case kD => decide +kernel); (case c2 => exact rfl); (case c3 => exact rfl); (case c4 => exact rfl); k_whole; intro g' L' h' tk' cells' FG' F' N' Y' B' X' T' l1; k_cells Y'; (try simp only [List.cons_append, List.nil_append] at N'); (try dsimp only); (try k_fold)))
local macro_rules | `(tactic| k_mem) => `(tactic| assumption)
local macro_rules | `(tactic| walk_at "subscriptTail") => `(tactic| (k_here; (with_reducible show wpAny _ _ (PySem.subscriptTail _ _ (Value.ref _) (Value.int _ _)) _ _ _); k_dflt (refine' tup_item ?k1 ?k2 ?k3 ?k4 ?k5 ?k6 ?_ ?k7; (case k1 => k_asm); (case k2 => k_mem); (case k3 => decide); (case k4 => decide); (case k5 => rfl); (case k6 => rfl); (case k7 => with_unfolding_all rfl); k_whole)))
local macro_rules | `(tactic| walk_at "call builtin:len") => `(tactic| (k_here; (with_reducible show wpAny _ _ (PySem.call (Value.builtin "len") [Value.ref _]) _ _ _); k_dflt (refine' len_L ?k1 ?k2 ?z ?_; (case k1 => k_asm); (case k2 => k_mem); (case z => first | omega | ((try simp only [List.length_append, List.length_cons, List.length_nil]); omega)))))
local macro_rules | `(tactic| walk_at "exec Assign cons ListComp") => `(tactic| (k_here; refine Hold.out ?_))
local macro_rules | `(tactic| walk_at "call builtin:sorted") => `(tactic| (k_here; refine Hold.out ?_))
local macro_rules | `(tactic| walk_at "call builtin:max") => `(tactic| (k_here; (with_reducible show wpAny _ _ (PySem.call (Value.builtin _) [Value.ref _]) _ _ _); refine Hold.out ?_))
local macro_rules | `(tactic| walk_at "call builtin:str.join") => `(tactic| (k_here; refine Hold.out ?_))
local macro_rules | `(tactic| walk_at "binaryOp Add ref ref") => `(tactic| (k_here; (with_reducible show wpAny _ _ (PySem.binaryOp _ (Value.ref _) (Value.ref _)) _ _ _); k_dflt (refine' add_L ?k1 ?k2 ?k3 ?k4 ?z ?_; (case k1 => k_asm); (case k2 => k_asm); (case k3 => k_mem); (case k4 => k_mem); (case z => first | omega | ((try simp only [List.length_append, List.length_cons, List.length_nil]); omega))); intro D' h' F' N' l1; (try k_lt l1)))
local macro_rules | `(tactic| walk_at "truthy ref") => `(tactic| (k_here; (with_reducible show wpAny _ _ (PySem.truthy (Value.ref _)) _ _ _); k_dflt (refine' truthy_L ?k1 ?k2 ?z ?_; (case k1 => k_asm); (case k2 => k_mem); (case z => first | omega | ((try simp only [List.length_append, List.length_cons, List.length_nil]); omega))); (try simp only [List.isEmpty_nil, List.isEmpty_cons, Bool.not_true, Bool.not_false])))
local macro_rules | `(tactic| walk_at "subscriptTail") => `(tactic| (k_here; (with_reducible show wpAny _ _ (PySem.subscriptTail _ _ (Value.ref _) (Value.int 0 _)) _ _ _); k_dflt (refine' list_item ?k1 ?k2 ?k3 ?k4 ?k5 ?_ ?k7; (case k1 => k_asm); (case k2 => k_mem); (case k3 => decide); (case k4 => decide); (case k5 => rfl); (case k7 => with_unfolding_all rfl); k_whole)))

def TakeRet (D L0 : Addr) (rest : List (Addr × Obj)) (many : Int) (v : Value) (news' : List (Addr × Obj)) : Prop :=
  ∃ (r : Int) (tr : Tok) (vs' : List Value) (ns' : List Int) (n1' n2' : Nat) (seed' : Int) (t' : Tok), v = .int r tr ∧ news' = (D, listOf #[.ref L0, .int seed' t'] n1') :: (L0, listOf vs'.toArray n2') :: rest ∧
    IntsAre vs' ns' ∧ ns'.length < 64 ∧ 0 ≤ seed' ∧ seed' < 2147483647 ∧ 0 ≤ r ∧ r < many

set_option maxRecDepth 100000 in
set_option maxHeartbeats 8000000 in
theorem take_ok (w : World) (loose : List Str) (mean : ExcName → Option Value) (mg mb : Str → Option Value)
   (D L0 : Addr) (vs : List Value) (ns : List Int) (n1 n2 : Nat) (seed : Int) (t tm : Tok) (many : Int) (rest : List (Addr × Obj))
   (hi : IntsAre vs ns) (hDL : @Ne Nat D L0) (hr1 : ∀ p ∈ rest, p.1 ≠ D) (hr2 : ∀ p ∈ rest, p.1 ≠ L0) (hm0 : 0 < many) (hm1 : many < 1048576) (hs0 : 0 ≤ seed) (hs1 : seed < 2147483647) (hlen : ns.length < 64) :
   CallOK w loose mean mg mb 33 1 [.ref D, .int many tm] ((D, listOf #[.ref L0, .int seed t] n1) :: (L0, listOf vs.toArray n2) :: rest) (TakeRet D L0 rest many) := by
  w_top off
  unfold CallOK
  k_fill
  intro dp un gd cn cs a ccd cl outer A₀ base h₀ L m s Q E B F X N T hk hd hu hret
  have hvl := hi.length
  cases hi with
  | nil =>
    refine wpAny_call ?_
    have hi0 := IntsAre.nil
    k_dflt ktr_enter
    k_steps
    refine hret _ ((D, _) :: (L0, _) :: rest) _ _ (by assumption) (cb_drop (by assumption) (fun p hp => List.mem_cons_of_mem _ hp)) ?_
    have hb := Int.fmod_nonneg_of_pos (seed * 48271) (b := 2147483647) (by decide)
    have hb2 := Int.fmod_lt_of_pos (seed * 48271) (b := 2147483647) (by decide)
    exact ⟨_, _, [], [], _, _, _, _, rfl, rfl, .nil, by decide, hb, hb2, Int.fmod_nonneg_of_pos _ hm0, Int.fmod_lt_of_pos _ hm0⟩
  | cons n0 t0 hi' =>
    refine wpAny_call ?_
    have hi0 := IntsAre.cons n0 t0 hi'
    k_dflt ktr_enter
    k_steps
    k_dflt (refine' kl_popAt (k := 0) (p := []) ?F ?N ?f ?k ?e ?U ?z ?_)
    (case F => k_asm)
    (case N => k_asm)
    (case U => k_upd)
    (case f => rfl)
    (case k => simp [seqIndex?])
    (case e => rfl)
    (case z => (simp only [List.length_cons, sizeLine] at *; omega))
    intro h' F' N'
    (try dsimp only [List.nil_append, List.cons_append] at N')
    k_steps
    refine hret _ ((D, _) :: (L0, _) :: rest) _ _ (by assumption) (cb_drop (by assumption) (fun p hp => List.mem_cons_of_mem _ hp)) ?_
    exact ⟨_, _, _, _, _, _, _, _, rfl, rfl, hi', by simp at hlen; omega, hs0, hs1, Int.fmod_nonneg_of_pos _ hm0, Int.fmod_lt_of_pos _ hm0⟩

def offTwo (D L0 : Addr) (news : List (Addr × Obj)) : List (Addr × Obj) := news.filter (fun p => decide (p.1 ≠ D) && decide (p.1 ≠ L0))
theorem upd2 {D L0 : Addr} {oD oL : Obj} {news : List (Addr × Obj)} {g1 : Obj → List (Addr × Obj)} {g2 : Obj → Obj → List (Addr × Obj)} (U1 : UpdF D oD news g1) (U2 : ∀ o, UpdF L0 oL (g1 o) (g2 o)) :
    (∀ p ∈ (D, oD) :: (L0, oL) :: offTwo D L0 news, p ∈ news) ∧ ∀ o o', ∀ p ∈ g2 o o', p ∈ (D, o) :: (L0, o') :: offTwo D L0 news := by
  obtain ⟨pre, post, e0, hg1, x1, x2⟩ := U1.split
  refine ⟨fun p hp => ?_, fun o o' p hp => ?_⟩
  · rcases List.mem_cons.mp hp with rfl | hp
    · rw [e0]; exact List.mem_append_right _ (.head _)
    · rcases List.mem_cons.mp hp with rfl | hp
      · obtain ⟨p2, q2, e2, -, -, -⟩ := (U2 oD).split
        have e : g1 oD = news := by rw [hg1, e0]
        rw [← e, e2]; exact List.mem_append_right _ (.head _)
      · exact (List.mem_filter.mp hp).1
  · obtain ⟨p2, q2, e2, hg2, y1, y2⟩ := (U2 o).split
    rw [hg2] at hp
    have hin : p ∈ p2 ++ q2 → p ∈ (D, o) :: (L0, o') :: offTwo D L0 news := by
      intro h
      have hL : p.1 ≠ L0 := (List.mem_append.mp h).elim (y1 p) (y2 p)
      have h1 : p ∈ g1 o := by
        rw [e2]
        exact (List.mem_append.mp h).elim (fun h => List.mem_append_left _ h) fun h => List.mem_append_right _ (.tail _ h)
      rw [hg1] at h1
      have h2 : p ∈ pre ++ post → p ∈ (D, o) :: (L0, o') :: offTwo D L0 news := by
        intro h
        have hD : p.1 ≠ D := (List.mem_append.mp h).elim (x1 p) (x2 p)
        refine .tail _ (.tail _ (List.mem_filter.mpr ⟨?_, by simp [hD, hL]⟩))
        rw [e0]
        exact (List.mem_append.mp h).elim (fun h => List.mem_append_left _ h) fun h => List.mem_append_right _ (.tail _ h)
      rcases List.mem_append.mp h1 with h1 | h1
      · exact h2 (List.mem_append_left _ h1)
      · rcases List.mem_cons.mp h1 with rfl | h1
        · exact .head _
        · exact h2 (List.mem_append_right _ h1)
    rcases List.mem_append.mp hp with hp | hp
    · exact hin (List.mem_append_left _ hp)
    · rcases List.mem_cons.mp hp with rfl | hp
      · exact .tail _ (.head _)
      · exact hin (List.mem_append_right _ hp)

theorem take_use {w : World} {loose : List Str} {mean : ExcName → Option Value} {mg mb : Str → Option Value} {dp un : Nat} {gd : Option (List Code)} {cn : Str} {cs : Scope} {a : Addr} {ccd : Value} {cl : List (Str × Addr)} {outer : List Env} {A₀ : Around} {base h₀ : Heap} {L : Addr} {m : Str → Option Value} {s : Shared} {Q E : Value → Shared → Prop} {news : List (Addr × Obj)}
    {D L0 : Addr} {vs : List Value} {ns : List Int} {n1 n2 : Nat} {seed : Int} {t tm : Tok} {many : Int} {g1 : Obj → List (Addr × Obj)} {g2 : Obj → Obj → List (Addr × Obj)}
    (B : Below A₀ base outer h₀) (F : Fr h₀ L s.heap m) (X : (hd.heap_39 w.params).In h₀) (N : News h₀ L s.heap news) (T : Top hd.view_39 loose mean mg mb h₀) (hk : cs.kind = .function)
    (U1 : UpdF D (listOf #[.ref L0, .int seed t] n1) news g1) (U2 : ∀ o, UpdF L0 (listOf vs.toArray n2) (g1 o) (g2 o)) (hDL : @Ne Nat D L0)
    (hd : dp + 1 < recursionLimit) (hu : un + 200 < cLine) (hi : IntsAre vs ns) (hs0 : 0 ≤ seed) (hs1 : seed < 2147483647) (hlen : ns.length < 64) (hm0 : 0 < many) (hm1 : many < 1048576)
    (ret : ∀ (r : Int) tr vs' ns' n1' n2' seed' t' h' tk', Fr h₀ L h' m → News h₀ L h' (g2 (listOf #[.ref L0, .int seed' t'] n1') (listOf vs'.toArray n2')) → IntsAre vs' ns' → ns'.length < 64 → 0 ≤ seed' → seed' < 2147483647 → 0 ≤ r → r < many → Q (.int r tr) { s with heap := h', toks := tk' }) :
    wpAny (model PySem.Challenge.rw_ax6028_01.row.prog w) (ktrTop dp un gd cn cs L a ccd cl outer) (call (.ref 33) [.ref D, .int many tm]) Q E s := by
  obtain ⟨k1, k2⟩ := upd2 U1 U2
  refine CallOK.use (take_ok w loose mean mg mb D L0 vs ns n1 n2 seed t tm many (offTwo D L0 news) hi hDL ?_ ?_ hm0 hm1 hs0 hs1 hlen) B F X N k1 T hk hd hu ?_
  · intro p hp; simpa using (Bool.and_eq_true_iff.mp (List.mem_filter.mp hp).2).1
  · intro p hp; simpa using (Bool.and_eq_true_iff.mp (List.mem_filter.mp hp).2).2
  · rintro v news' h' tk' F' N' ⟨r, tr, vs', ns', n1', n2', seed', t', rfl, rfl, hi', hl', hs0', hs1', hr0, hr1⟩
    exact ret r tr vs' ns' n1' n2' seed' t' h' tk' F' (fun p hp => N' p (k2 _ _ p hp)) hi' hl' hs0' hs1' hr0 hr1

local macro_rules | `(tactic| walk_at "call ref") => `(tactic| (k_here; (with_reducible show wpAny _ _ (PySem.call (Value.ref 33) [Value.ref _, Value.int _ _]) _ _ _); k_dflt (refine' take_use ?k1 ?k2 ?k3 ?k4 ?k5 ?k6 ?U1 ?U2 ?k7 ?k8 ?k9 ?i1 ?i2 ?i3 ?i4 ?m0 ?m1 ?_; (case k1 => k_asm); (case k2 => k_asm); (case k3 => k_asm); (case k4 => k_asm); (case k5 => k_asm); (case k6 => first | exact rfl | assumption); (case U1 => k_updF); (case U2 => (intro _; k_updF)); (case k7 => (first | assumption | omega)); (case k8 => ktr_room); (case k9 => units_room); (case i1 => assumption); (case i2 => (first | assumption | omega)); (case i3 => (first | assumption | omega)); (case i4 => (first | assumption | omega)); (case m0 => (first | decide | omega)); (case m1 => (first | decide | omega))); intro r' tr' vs' ns' n1' n2' seed' t' h' tk' F' N' hi' hl' hs0' hs1' hr0' hr1'; (try dsimp only at N')))
abbrev Cell := Int × Str × Int
def cellDat (c : Cell) : Dat := .tuple [.int c.1, .str c.2.1, .int c.2.2]
def adv (c : Cell) : Int := if c.2.2 = 2 then 2 else 1
/-- what a row's cells keep -/
structure RowGood (cells : List Cell) : Prop where
  pw : cells.Pairwise (fun a b => a.1 + adv a ≤ b.1)
  each : ∀ c ∈ cells, 0 ≤ c.1 ∧ c.1 < 64 ∧ (c.2.2 = 0 ∨ c.2.2 = 1 ∨ c.2.2 = 2) ∧ c.2.1.length ≤ 32
  len : cells.length ≤ 8
def coveredOf (cells : List Cell) : List Int := (cells.filter (fun c => c.2.2 == 2)).map (fun c => c.1 + 1)

def DrawAt (D L0 : Addr) (d1 d2 : Addr × Obj) : Prop :=
  ∃ (vs : List Value) (ns : List Int) (n1 n2 : Nat) (seed : Int) (t : Tok), d1 = (D, listOf #[.ref L0, .int seed t] n1) ∧ d2 = (L0, listOf vs.toArray n2) ∧ IntsAre vs ns ∧ ns.length < 64 ∧ 0 ≤ seed ∧ seed < 2147483647

def RowRet (D L0 : Addr) (rest : List (Addr × Obj)) (v : Value) (news' : List (Addr × Obj)) : Prop :=
  ∃ (T R C : Addr) (cells : List Cell) (rv cvs : List Value) (n0 n3 n4 : Nat) (add : List (Addr × Obj)) (d1 d2 : Addr × Obj), v = .ref T ∧ news' = d1 :: d2 :: (add ++ rest) ∧ DrawAt D L0 d1 d2 ∧
    (T, ({ cls := .type "tuple", data := .seq #[.ref R, .ref C] n0 } : Obj)) ∈ add ∧ (R, listOf rv.toArray n3) ∈ add ∧ (C, listOf cvs.toArray n4) ∈ add ∧
    DatAll add rv (cells.map cellDat) ∧ IntsAre cvs (coveredOf cells) ∧ RowGood cells ∧ (∀ p ∈ add, p.1 ≠ D ∧ p.1 ≠ L0)

structure RowSt where
  cells : List Cell
  rv : List Value
  cvs : List Value
  nr : Nat
  nc : Nat
  col : Int
  tc : Tok
  vs : List Value
  ns : List Int
  n1 : Nat
  n2 : Nat
  seed : Int
  t : Tok
  tl : List (Addr × Obj)
structure RowInv (D L0 R C : Addr) (i : Nat) (c : RowSt) : Prop where
  dat : DatAll c.tl c.rv (c.cells.map cellDat)
  cov : IntsAre c.cvs (coveredOf c.cells)
  good : c.cells.Pairwise (fun a b => a.1 + adv a ≤ b.1)
  each : ∀ x ∈ c.cells, 0 ≤ x.1 ∧ x.1 < 64 ∧ (x.2.2 = 0 ∨ x.2.2 = 1 ∨ x.2.2 = 2) ∧ x.2.1.length ≤ 32
  len : c.cells.length = i
  lt : ∀ x ∈ c.cells, x.1 + adv x ≤ c.col
  lo : 0 ≤ c.col
  hi : c.col ≤ 2 + 3 * (i : Int)
  hints : IntsAre c.vs c.ns
  l64 : c.ns.length < 64
  s0 : 0 ≤ c.seed
  s1 : c.seed < 2147483647
  off : ∀ p ∈ c.tl, p.1 ≠ D ∧ p.1 ≠ L0 ∧ p.1 ≠ R ∧ p.1 ≠ C

theorem row_step {D L0 R C a : Addr} {i : Nat} {c : RowSt} {txt : Str} {wv col' : Int} {tcx tt tw tc' : Tok} {cvs' vs' : List Value} {ns' : List Int} {nr' nc' n1' n2' n0 : Nat} {seed' : Int} {t' : Tok} {o : Obj} (hI : RowInv D L0 R C i c) (hi8 : i < 9)
    (hw : wv = 0 ∨ wv = 1 ∨ wv = 2) (htxt : txt.length ≤ 32) (hcol : c.col + (if wv = 2 then 2 else 1) ≤ col') (hcol2 : col' ≤ c.col + 3)
    (ho : o = ({ cls := .type "tuple", data := .seq #[.int c.col tcx, .str txt tt, .int wv tw] n0 } : Obj))
    (hcov' : IntsAre cvs' (coveredOf (c.cells ++ [(c.col, txt, wv)]))) (hints : IntsAre vs' ns') (h64 : ns'.length < 64) (hs0 : 0 ≤ seed') (hs1 : seed' < 2147483647)
    (ha : a ≠ D ∧ a ≠ L0 ∧ a ≠ R ∧ a ≠ C) :
    RowInv D L0 R C (i + 1) ⟨c.cells ++ [(c.col, txt, wv)], c.rv ++ [.ref a], cvs', nr', nc', col', tc', vs', ns', n1', n2', seed', t', (a, o) :: c.tl⟩ := by
  obtain ⟨hdat, hcov, hgood, heach, hlen', hlt, hlo, hhi, hints0, h640, hs00, hs10, hoffs⟩ := hI
  refine ⟨?_, hcov', ?_, ?_, ?_, ?_, ?_, ?_, hints, h64, hs0, hs1, ?_⟩
  · show DatAll _ _ (List.map cellDat (c.cells ++ [(c.col, txt, wv)]))
    rw [List.map_append]
    refine DatAll.append (DatAll.mono (fun p hp => List.mem_cons_of_mem _ hp) hdat) (DatAll.one ?_)
    exact DatIn.tuple (vs := [.int c.col tcx, .str txt tt, .int wv tw]) (n := n0) (by rw [ho]; exact List.mem_cons_self) (.cons (.int _ _) (.cons (.str _ _) (.cons (.int _ _) .nil)))
  · refine List.pairwise_append.mpr ⟨hgood, List.pairwise_singleton _ _, fun x hx y hy => ?_⟩
    rw [List.mem_singleton.mp hy]; exact hlt x hx
  · intro x hx
    rcases List.mem_append.mp hx with hx | hx
    · exact heach x hx
    · rw [List.mem_singleton.mp hx]
      exact ⟨hlo, by show c.col < 64; omega, hw, htxt⟩
  · show (c.cells ++ [_]).length = _
    rw [List.length_append, hlen']; rfl
  · intro x hx
    rcases List.mem_append.mp hx with hx | hx
    · have := hlt x hx
      show x.1 + adv x ≤ col'
      split at hcol <;> omega
    · rw [List.mem_singleton.mp hx]
      exact hcol
  · show 0 ≤ col'
    split at hcol <;> omega
  · show col' ≤ 2 + 3 * ((i + 1 : Nat) : Int)
    omega
  · intro p hp
    rcases List.mem_cons.mp hp with rfl | hp
    · exact ha
    · exact hoffs p hp
theorem text_short (x : String) (i : Nat) {t : Str} (hi : i < 9) (hx : x.length ≤ 1) (h : t.length ≤ (Str.ofString x).length + (Str.ofString (toString (0 + (i : Int)))).length) : t.length ≤ 32 := by
  have e := int_text_length_le10 (a := 0 + (i : Int)) (k := 2) (by decide) (by omega)
  rw [PySem.ofString_length, PySem.ofString_length] at h
  omega
theorem coveredOf_snoc (cells : List Cell) (x : Cell) : coveredOf (cells ++ [x]) = coveredOf cells ++ (if x.2.2 = 2 then [x.1 + 1] else []) := by
  unfold coveredOf
  rw [List.filter_append, List.map_append]
  by_cases h : x.2.2 = 2 <;> simp [h]

theorem hn_row {e1 e2 e3 e4 a : Addr × Obj} {tl rest own rest' : List (Addr × Obj)} (h : tl ++ rest ++ own = rest') : ∀ p ∈ e1 :: e2 :: e3 :: e4 :: ((a :: tl) ++ rest), p ∈ a :: e1 :: e2 :: e3 :: e4 :: rest' := by
  subst h; intro p hp; simp only [List.mem_cons, List.mem_append, List.cons_append] at hp ⊢; grind
theorem ho_row {e1 e2 e3 e4 a : Addr × Obj} {tl rest own rest' : List (Addr × Obj)} (h : tl ++ rest ++ own = rest') : ∀ p ∈ own, p ∈ a :: e1 :: e2 :: e3 :: e4 :: rest' := by
  subst h; intro p hp; simp only [List.mem_cons, List.mem_append]; grind

set_option maxRecDepth 100000 in
set_option maxHeartbeats 8000000 in
theorem row_ok (w : World) (loose : List Str) (mean : ExcName → Option Value) (mg mb : Str → Option Value)
   (D L0 : Addr) (vs : List Value) (ns : List Int) (n1 n2 : Nat) (seed : Int) (t : Tok) (rest : List (Addr × Obj))
   (hi : IntsAre vs ns) (hDL : @Ne Nat D L0) (hr1 : ∀ p ∈ rest, p.1 ≠ D) (hr2 : ∀ p ∈ rest, p.1 ≠ L0) (hs0 : 0 ≤ seed) (hs1 : seed < 2147483647) (hlen : ns.length < 64) :
   CallOK w loose mean mg mb 40 2 [.ref D] ((D, listOf #[.ref L0, .int seed t] n1) :: (L0, listOf vs.toArray n2) :: rest) (RowRet D L0 rest) := by
  w_top off
  unfold CallOK
  k_fill
  intro dp un gd cn cs a ccd cl outer A₀ base h₀ L m s Q E B F X N T hk hd hu hret
  refine wpAny_call ?_
  k_dflt ktr_enter
  k_steps
  rename_i g' L' _ FG' B' X' T' _ R _ lR _ _ C _ lC _ _ col tcol _ _ _ _ _ _ _ _ _ _ _ _ hc0 hc1 _ _ _ nn tnn vsA nsA n1A n2A seedA tA _ _ _ _ hiA hlA hsA0 hsA1 hn0 hn1 _ _ _ _ _ hR F1 N1
  unfold Hold
  obtain ⟨nN, rfl⟩ : ∃ k : Nat, nn = (k : Int) := ⟨nn.toNat, by omega⟩
  refine lp_range (σ := RowSt) (n := nN) (fun c => (C, listOf c.cvs.toArray c.nc) :: (R, listOf c.rv.toArray c.nr) :: (D, listOf #[.ref L0, .int c.seed c.t] c.n1) :: (L0, listOf c.vs.toArray c.n2) :: (c.tl ++ rest)) (fun c => [(Str.ofString "column", .int c.col c.tc)]) [Str.ofString "wide"] (RowInv D L0 R C)
    ⟨[], [], [], 0, 0, col, tcol, vsA, nsA, n1A, n2A, seedA, tA, []⟩ rfl hR ?_ ?_ F1 N1 ?_ ?_ ?_ ?_ ?_
  · exact small_one (by decide) (by decide) (by omega) (by omega)
  · simp [rangeSize_nat]
  · intro p hp; exact hp
  · intro p hp; rw [List.mem_singleton.mp hp]; rfl
  · exact ⟨.nil, .nil, .nil, fun _ h => (nomatch h), rfl, fun _ h => (nomatch h), hc0, by show col ≤ 2 + 3 * ((0 : Nat) : Int); omega, hiA, hlA, hsA0, hsA1, fun _ h => (nomatch h)⟩
  · intro c i tk u h tkk own hin hoff hI F2 N2
    have hI' := hI
    obtain ⟨hdat, hcov, hgood, heach, hlen', hlt, hlo, hhi, hints, h64, hs0', hs1', hoffs⟩ := hI
    generalize hrest : c.tl ++ rest ++ own = rest'
    have N3 : News g' L' h ((C, listOf c.cvs.toArray c.nc) :: (R, listOf c.rv.toArray c.nr) :: (D, listOf #[.ref L0, .int c.seed c.t] c.n1) :: (L0, listOf c.vs.toArray c.n2) :: rest') := by
      rw [← hrest]; exact N2
    have r1 : ∀ p ∈ rest', p.1 ≠ D := offs_of hrest (fun p hp => (hoffs p hp).1) hr1 (hoff.ne (b := D) (by simp))
    have r2 : ∀ p ∈ rest', p.1 ≠ L0 := offs_of hrest (fun p hp => (hoffs p hp).2.1) hr2 (hoff.ne (b := L0) (by simp))
    have r3 : ∀ p ∈ rest', p.1 ≠ R := offs_of hrest (fun p hp => (hoffs p hp).2.2.1) (allLt_ne lR.2.2) (hoff.ne (b := R) (by simp))
    have r4 : ∀ p ∈ rest', p.1 ≠ C := offs_of hrest (fun p hp => (hoffs p hp).2.2.2) (allLt_ne lC.2.2.2) (hoff.ne (b := C) (by simp))
    clear N2
    have hrl : c.rv.length = i := by rw [hdat.length, List.length_map, hlen']
    have hcl : c.cvs.length ≤ i := by rw [hcov.length, coveredOf, List.length_map, ← hlen']; exact List.length_filter_le _ _
    k_steps
    · rename_i ht a1 _ la _ _ _ _ _ r _ vsB nsB _ _ _ _ _ _ hiB hlB hsB0 hsB1 hq0 hq1 _ F4 N4
      have ea := Nat.ne_of_gt la.1
      have e1 : r.fdiv 2 = r / 2 := Int.fdiv_eq_ediv_of_nonneg _ (by decide)
      refine' lp_end (P := RowInv D L0 R C (i + 1)) (c := ⟨c.cells ++ [(c.col, Str.ofString "W" ++ Str.ofString (toString (0 + (i : Int))), 2)], _, _, _, _, c.col + 2 + r.fdiv 2, _, vsB, nsB, _, _, _, _, (a1, _) :: c.tl⟩) F4 N4 (hn_row hrest) (ho_row hrest) (own_more (a := a1) hoff ?xa ?xb) ?xc ?xd ?xe
      case xc => intro p hp; rw [List.mem_singleton.mp hp]; rfl
      case xa => intro b hb; simp at hb ⊢; grind
      case xb => intro p hp; exact allLt_ne la.2.2.2.2 p (by rw [← hrest]; exact List.mem_append_right _ hp)
      case xd =>
        intro z h1 h2 h3
        have n1 : z ≠ Str.ofString "column" := h2 _ (List.mem_singleton.mpr rfl)
        have n2 : z ≠ Str.ofString "wide" := fun e => absurd h3 (by rw [e]; decide)
        simp only [if_neg n1, if_neg n2, if_neg h1, kstB, h3, Bool.false_eq_true, if_false]
      case xe => exact row_step hI' (by omega) (by decide) (text_short "W" i (by omega) (by decide) ht.2) (by simp; omega) (by omega) rfl (by rw [coveredOf_snoc]; exact hcov.append (.cons _ _ .nil)) hiB hlB hsB0 hsB1 ⟨Nat.ne_of_gt la.2.2.1, Nat.ne_of_gt la.2.2.2.1, Nat.ne_of_gt la.2.1, Nat.ne_of_gt la.1⟩
    · rename_i ht _ a1 _ la _ _ _ r _ vsB nsB _ _ _ _ _ _ hiB hlB hsB0 hsB1 hq0 hq1 _ F4 N4
      have ea := Nat.ne_of_gt la.1
      have e1 : r.fdiv 2 = r / 2 := Int.fdiv_eq_ediv_of_nonneg _ (by decide)
      refine' lp_end (P := RowInv D L0 R C (i + 1)) (c := ⟨c.cells ++ [(c.col, Str.ofString "c" ++ Str.ofString (toString (0 + (i : Int))), 1)], _, _, _, _, c.col + 1 + r.fdiv 2, _, vsB, nsB, _, _, _, _, (a1, _) :: c.tl⟩) F4 N4 (hn_row hrest) (ho_row hrest) (own_more (a := a1) hoff ?xa ?xb) ?xc ?xd ?xe
      case xc => intro p hp; rw [List.mem_singleton.mp hp]; rfl
      case xa => intro b hb; simp at hb ⊢; grind
      case xb => intro p hp; exact allLt_ne la.2.2.2.2 p (by rw [← hrest]; exact List.mem_append_right _ hp)
      case xd =>
        intro z h1 h2 h3
        have n1 : z ≠ Str.ofString "column" := h2 _ (List.mem_singleton.mpr rfl)
        have n2 : z ≠ Str.ofString "wide" := fun e => absurd h3 (by rw [e]; decide)
        simp only [if_neg n1, if_neg n2, if_neg h1, kstB, h3, Bool.false_eq_true, if_false]
      case xe => exact row_step hI' (by omega) (by decide) (text_short "c" i (by omega) (by decide) ht.2) (by simp; omega) (by omega) rfl (by rw [coveredOf_snoc]; simpa using hcov) hiB hlB hsB0 hsB1 ⟨Nat.ne_of_gt la.2.2.1, Nat.ne_of_gt la.2.2.2.1, Nat.ne_of_gt la.2.1, Nat.ne_of_gt la.1⟩
    · rename_i ht _ a1 _ la _ _ _ r _ vsB nsB _ _ _ _ _ _ hiB hlB hsB0 hsB1 hq0 hq1 _ F4 N4
      have ea := Nat.ne_of_gt la.1
      have e1 : r.fdiv 2 = r / 2 := Int.fdiv_eq_ediv_of_nonneg _ (by decide)
      refine' lp_end (P := RowInv D L0 R C (i + 1)) (c := ⟨c.cells ++ [(c.col, Str.ofString "c" ++ Str.ofString (toString (0 + (i : Int))), 0)], _, _, _, _, c.col + 1 + r.fdiv 2, _, vsB, nsB, _, _, _, _, (a1, _) :: c.tl⟩) F4 N4 (hn_row hrest) (ho_row hrest) (own_more (a := a1) hoff ?xa ?xb) ?xc ?xd ?xe
      case xc => intro p hp; rw [List.mem_singleton.mp hp]; rfl
      case xa => intro b hb; simp at hb ⊢; grind
      case xb => intro p hp; exact allLt_ne la.2.2.2.2 p (by rw [← hrest]; exact List.mem_append_right _ hp)
      case xd =>
        intro z h1 h2 h3
        have n1 : z ≠ Str.ofString "column" := h2 _ (List.mem_singleton.mpr rfl)
        have n2 : z ≠ Str.ofString "wide" := fun e => absurd h3 (by rw [e]; decide)
        simp only [if_neg n1, if_neg n2, if_neg h1, kstB, h3, Bool.false_eq_true, if_false]
      case xe => exact row_step hI' (by omega) (by decide) (text_short "c" i (by omega) (by decide) ht.2) (by simp; omega) (by omega) rfl (by rw [coveredOf_snoc]; simpa using hcov) hiB hlB hsB0 hsB1 ⟨Nat.ne_of_gt la.2.2.1, Nat.ne_of_gt la.2.2.2.1, Nat.ne_of_gt la.2.1, Nat.ne_of_gt la.1⟩
  · intro c u h tkk hI F2 N2
    have N3 : News g' L' h ((C, listOf c.cvs.toArray c.nc) :: (R, listOf c.rv.toArray c.nr) :: (D, listOf #[.ref L0, .int c.seed c.t] c.n1) :: (L0, listOf c.vs.toArray c.n2) :: (c.tl ++ rest)) := N2
    clear N2
    k_steps
    rename_i a _ _ _ lA _ _ _ _
    obtain ⟨hdat, hcov, hgood, heach, hlen', hlt, hlo, hhi, hints, h64, hs0', hs1', hoffs⟩ := hI
    have sub : ∀ {l : List (Addr × Obj)} {e1 e2 e3 e4 e5 : Addr × Obj}, ∀ p ∈ e4 :: e5 :: ((e1 :: e3 :: e2 :: c.tl) ++ l), p ∈ e1 :: e2 :: e3 :: e4 :: e5 :: (c.tl ++ l) := by
      intro l e1 e2 e3 e4 e5 p hp
      simp only [List.mem_cons, List.mem_append, List.cons_append] at hp ⊢
      grind
    refine hret _ _ _ _ (by assumption) (cb_drop (by assumption) sub) ⟨a, R, C, c.cells, c.rv, c.cvs, 0, c.nr, c.nc, _, _, _, rfl, rfl, ⟨c.vs, c.ns, _, _, _, _, rfl, rfl, hints, h64, hs0', hs1'⟩, .head _, .tail _ (.head _), .tail _ (.tail _ (.head _)), hdat.mono (fun p hp => .tail _ (.tail _ (.tail _ hp))), hcov, ⟨hgood, heach, by omega⟩, ?_⟩
    intro p hp
    rcases List.mem_cons.mp hp with rfl | hp
    · exact ⟨Nat.ne_of_gt lA.2.2.1, Nat.ne_of_gt lA.2.2.2.1⟩
    · rcases List.mem_cons.mp hp with rfl | hp
      · exact ⟨Nat.ne_of_gt lR.1, Nat.ne_of_gt lR.2.1⟩
      · rcases List.mem_cons.mp hp with rfl | hp
        · exact ⟨Nat.ne_of_gt lC.2.1, Nat.ne_of_gt lC.2.2.1⟩
        · exact ⟨(hoffs p hp).1, (hoffs p hp).2.1⟩

section
variable {α : Type}
theorem paired_get {Rel : Value → α → Prop} {vs : List Value} {xs : List α} (h : Paired Rel vs xs) : ∀ {i : Nat} {v : Value}, vs[i]? = some v → ∃ x, xs[i]? = some x ∧ Rel v x := by
  induction h with
  | nil => intro i v e; simp at e
  | cons h1 _ ih =>
    intro i v e
    cases i with
    | zero => simp at e; subst e; exact ⟨_, rfl, h1⟩
    | succ i => simp at e; simpa using ih e
theorem paired_mono {β : Type} {F G : β → α → Prop} {vs : List β} {xs : List α} (h : Paired F vs xs) (hm : ∀ v x, F v x → G v x) : Paired G vs xs := by
  induction h with
  | nil => exact .nil
  | cons h1 _ ih => exact .cons (hm _ _ h1) ih
theorem paired_append {β : Type} {F : β → α → Prop} {vs ws : List β} {xs ys : List α} (h : Paired F vs xs) (k : Paired F ws ys) : Paired F (vs ++ ws) (xs ++ ys) := by
  induction h with
  | nil => exact k
  | cons h1 _ ih => exact .cons h1 ih
noncomputable def pOf (Rel : Value → α → Prop) (pc : α → Bool) (v : Value) : Bool := @decide (∃ x, Rel v x ∧ pc x = true) (Classical.propDecidable _)
theorem pOf_eq {Rel : Value → α → Prop} {pc : α → Bool} (hfun : ∀ v x y, Rel v x → Rel v y → x = y) {v : Value} {x : α} (h : Rel v x) : pOf Rel pc v = pc x := by
  unfold pOf
  cases e : pc x with
  | true => exact @decide_eq_true _ (Classical.propDecidable _) ⟨x, h, e⟩
  | false =>
    refine @decide_eq_false _ (Classical.propDecidable _) ?_
    rintro ⟨y, hy, hp⟩
    rw [hfun v x y h hy, hp] at e
    cases e
theorem paired_filter {Rel : Value → α → Prop} {pc : α → Bool} (hfun : ∀ v x y, Rel v x → Rel v y → x = y) {vs : List Value} {xs : List α} (h : Paired Rel vs xs) : Paired Rel (vs.filter (pOf Rel pc)) (xs.filter pc) := by
  induction h with
  | nil => exact .nil
  | cons h1 _ ih =>
    rw [List.filter_cons, List.filter_cons, pOf_eq hfun h1]
    split
    · exact .cons h1 ih
    · exact ih
theorem paired_join {β : Type} {Rel : Value → α → Prop} {F : Value → β → Prop} {G : α → β → Prop} (hfun : ∀ v x y, Rel v x → Rel v y → x = y) (hF : ∀ v y, F v y → ∃ x, Rel v x ∧ G x y) {vs : List Value} {xs : List α} (h : Paired Rel vs xs) : ∀ {ys : List β}, Paired F vs ys → Paired G xs ys := by
  induction h with
  | nil => intro ys k; cases k; exact .nil
  | cons h1 _ ih =>
    intro ys k
    cases k with
    | cons k1 k2 =>
      obtain ⟨x, hx, hG⟩ := hF _ _ k1
      rw [hfun _ _ _ hx h1] at hG
      exact .cons hG (ih k2)
end

section
variable {prog : Program} {w : World} {A : Around} {E : Value → Shared → Prop} {env : Env} {s : Shared} {h₀ : Heap} {L : Addr} {m : Str → Option Value} {α : Type}

/-- the block's own questions and its own item, over a heap that only grows -/
structure CompQ (prog : Program) (w : World) (A : Around) (h₀ : Heap) (L : Addr) (m : Str → Option Value) (env : Env) (scope : Scope) (cl : List (Str × Addr)) (x : Str) (ifs : List Expr) (elt : Expr) (news : List (Addr × Obj)) (Rel : Value → α → Prop) (pc : α → Bool) (Fn : α → Value → Prop) : Prop where
  tests : ∀ C oC v d (s₃ : Shared) m₃ E', Rel v d → Fr h₀ L s₃.heap m → News h₀ L s₃.heap ((C, oC) :: news) → LCg.NsObj oC m₃ → m₃ x = some v →
    wpAny (model prog w) A (forIn ifs true fun c r => if r = true then do let ok ← isTrue c (compEnvC scope cl C env) (eval c (compEnvC scope cl C env)); pure (ForInStep.yield ok) else pure (ForInStep.yield r))
      (fun ok s₄ => ok = pc d ∧ Keeps s₃ s₄) E' s₃
  item : ∀ C oC v d (s₃ : Shared) m₃ E', Rel v d → pc d = true → Fr h₀ L s₃.heap m → News h₀ L s₃.heap ((C, oC) :: news) → LCg.NsObj oC m₃ → m₃ x = some v →
    wpAny (model prog w) A (eval elt (compEnvC scope cl C env)) (fun y s₄ => Fn d y ∧ Keeps s₃ s₄) E' s₃

/-- where the source is laid out: a list, its items told -/
def CompAt (prog : Program) (w : World) (A : Around) (h₀ : Heap) (L : Addr) (m : Str → Option Value) (env : Env) (scope : Scope) (cl : List (Str × Addr)) (x : Str) (ifs : List Expr) (elt : Expr) (Rel : Value → α → Prop) (pc : α → Bool) (Fn : α → Value → Prop) (G : List Value → List (Addr × Obj) → Shared → Prop) (xv : Value) (s₁ : Shared) : Prop :=
  ∃ (l : Addr) (vs : List Value) (xs : List α) (news : List (Addr × Obj)), xv = .ref l ∧ A.handled = none ∧ Fr h₀ L s₁.heap m ∧ News h₀ L s₁.heap news ∧ s₁.heap.IsList l vs.toArray ∧ vs.length ≤ 4000 ∧ Paired Rel vs xs ∧
    CompQ prog w A h₀ L m env scope cl x ifs elt news Rel pc Fn ∧ ∀ ys, Paired Fn (xs.filter pc) ys → G ys news s₁

theorem comp_quiet {elt : Expr} {x : Str} {ifs : List Expr} {scope : Scope} {cl : List (Str × Addr)} {pc : α → Bool} {Fn : α → Value → Prop} {vs : List Value} {xs : List α} {news : List (Addr × Obj)} {Rel : Value → α → Prop} {s₁ s₂ : Shared} {I : Addr}
    (F : Fr h₀ L s₁.heap m) (N : News h₀ L s₁.heap news) (hfun : ∀ v x y, Rel v x → Rel v y → x = y) (hp : Paired Rel vs xs) (hq : CompQ prog w A h₀ L m env scope cl x ifs elt news Rel pc Fn)
    (hI : I = s₁.heap.objs.size) (hz : s₁.heap.objs.size ≤ s₂.heap.objs.size) (hs₂ : ∀ b o, s₁.heap.get? b = some o → s₂.heap.get? b = some o) :
    QuietOnC prog w A env scope cl x ifs elt [I] (fun i v => vs.toArray[i]? = some v) (pOf Rel pc) (fun v y => ∃ d, Rel v d ∧ Fn d y) s₂ := by
  have keep : ∀ {s₃ : Shared}, (∀ b o, b ∉ [I] → s₂.heap.get? b = some o → s₃.heap.get? b = some o) → ∀ b o, s₁.heap.get? b = some o → s₃.heap.get? b = some o := fun hk b o e =>
    hk b o (fun hb => absurd (Heap.lt_size e) (by rw [List.mem_singleton.mp hb, hI]; exact Nat.lt_irrefl _)) (hs₂ b o e)
  have ledg : ∀ {s₃ : Shared} {C : Addr} {m₃ : Str → Option Value}, s₂.heap.objs.size ≤ C → s₃.heap.Ns C m₃ → (∀ b o, s₁.heap.get? b = some o → s₃.heap.get? b = some o) →
      ∃ oC, News h₀ L s₃.heap ((C, oC) :: news) ∧ LCg.NsObj oC m₃ := fun {s₃ C m₃} hC hn hk => by
    obtain ⟨oC, e, hN⟩ := LCg.ns_obj hn
    refine ⟨oC, fun p hp => ?_, hN⟩
    have hL := F.ns.lt
    rcases List.mem_cons.mp hp with rfl | hp
    · refine ⟨e, ?_, ?_⟩
      · show C ≠ L
        exact Nat.ne_of_gt (Nat.lt_of_lt_of_le hL (Nat.le_trans hz hC))
      · cases q : h₀.get? C with
        | none => rfl
        | some o => exact absurd (Heap.lt_size q) (Nat.not_lt.mpr (Nat.le_trans F.above (Nat.le_of_lt (Nat.lt_of_lt_of_le hL (Nat.le_trans hz hC)))))
    · exact ⟨hk _ _ (N p hp).1, (N p hp).2⟩
  refine ⟨fun C i v s₃ m₃ E' hC hP hn hx hk _ => ?_, fun C i v s₃ m₃ E' hC hP hpv hn hx hk _ => ?_⟩
  · obtain ⟨oC, N₃, hN⟩ := ledg hC hn (keep hk)
    obtain ⟨d, _, hd⟩ := paired_get hp (show vs[i]? = some v by simpa using hP)
    refine wpAny_mono (hq.tests C oC v d s₃ m₃ E' hd (F.keeps (keep hk)) N₃ hN hx) (fun ok s₄ h4 => ⟨?_, h4.2⟩) fun _ _ e => e
    rw [pOf_eq hfun hd]; exact h4.1
  · obtain ⟨oC, N₃, hN⟩ := ledg hC hn (keep hk)
    obtain ⟨d, _, hd⟩ := paired_get hp (show vs[i]? = some v by simpa using hP)
    rw [pOf_eq hfun hd] at hpv
    exact wpAny_mono (hq.item C oC v d s₃ m₃ E' hd hpv (F.keeps (keep hk)) N₃ hN hx) (fun y s₄ h4 => ⟨⟨d, hd, h4.1⟩, h4.2⟩) fun _ _ e => e

theorem comp_done {xs : List α} {vs ys : List Value} {Rel : Value → α → Prop} {pc : α → Bool} {Fn : α → Value → Prop} (hfun : ∀ v x y, Rel v x → Rel v y → x = y) (hp : Paired Rel vs xs) {ws : List Value} (hl : ws.length = vs.length) (hw : ∀ (j : Nat) v, ws[j]? = some v → vs.toArray[j]? = some v)
    (hF : Paired (fun v y => ∃ d, Rel v d ∧ Fn d y) (ws.filter (pOf Rel pc)) ys) : Paired Fn (xs.filter pc) ys := by
  have e : ws = vs := by
    refine List.ext_getElem? fun j => ?_
    cases q : ws[j]? with
    | some v => have := hw j v q; simpa using this.symm
    | none =>
      have h1 : ws.length ≤ j := by simpa using q
      rw [hl] at h1
      exact (List.getElem?_eq_none h1).symm
  subst e
  exact paired_join hfun (fun _ _ h => h) (paired_filter hfun hp) hF

theorem comp_eval (_F₀ : Fr h₀ L s.heap m) {elt iter : Expr} {x : Str} {px : Pos} {ifs : List Expr} {scope : Scope} {cl : List (Str × Addr)} {pos : Pos} {Q : Value → Shared → Prop} (Rel : Value → α → Prop) (pc : α → Bool) (Fn : α → Value → Prop) (hfun : ∀ v x y, Rel v x → Rel v y → x = y)
    (hclos : closureFor scope env = pure cl) (hcell : ∀ y ∈ scope.names, y.2 ≠ .cell) (hkind : scope.kind = .function)
    (hnames : ∀ y ∈ scope.names, y.2 = .local → scope.names.lookup y.1 = some .local) (hx : scope.names.lookup x = some .local)
    (h : wpAny (model prog w) A (eval iter env) (CompAt prog w A h₀ L m env scope cl x ifs elt Rel pc Fn (fun ys news s₁ => ∀ D h' tk n, Fr h₀ L h' m → News h₀ L h' ((D, listOf ys.toArray n) :: news) → (∀ q ∈ news, q.1 ≠ D) → Q (.ref D) { s₁ with heap := h', toks := tk })) E s)
    (hs : ∀ x, foldedSetIterable iter env x = pure x := by intro _; rfl) :
    wpAny (model prog w) A (eval (.ListComp elt [⟨.Name x px, iter, ifs, 0⟩] scope pos) env) Q E s := by
  refine wpAny_ListComp_free (pOf Rel pc) (fun v y => ∃ d, Rel v d ∧ Fn d y) hclos hcell hkind hnames hx (wpAny_mono h (fun xv s₁ h₁ => ?_) fun _ _ e => e) hs
  obtain ⟨l, vs, xs, news, rfl, hh, F, N, hl, hz, hp, hq, hG⟩ := h₁
  obtain ⟨ol, hol, _⟩ := id hl
  have hne : l ≠ s₁.heap.objs.size := Nat.ne_of_lt (Heap.lt_size hol)
  refine wpAny_pyIter_list hl ?_
  have up : ∀ b o, s₁.heap.get? b = some o → (s₁.heap.push { cls := .type "list_iterator", data := .fields #[.ref l, .int 0 0] }).get? b = some o := fun b o e => Heap.get?_push_of_some _ e
  refine ⟨_, _, _, vs.toArray.size, _, _, rfl, Walks.list hh s₁.heap.objs.size l hne vs.toArray, (by rw [List.size_toArray, sizeLine_eq]; omega), ⟨⟨_, Heap.get?_push_size _ rfl, rfl, rfl⟩, hl.at fun o e => up _ _ e⟩, (fun b hb => ?_), comp_quiet F N hfun hp hq rfl (by show _ ≤ (s₁.heap.push _).objs.size; rw [Heap.size_push]; exact Nat.le_succ _) up, ?_⟩
  · show b < (s₁.heap.push _).objs.size
    rw [Heap.size_push]
    rcases List.mem_cons.mp hb with rfl | hb
    · exact Nat.lt_succ_self _
    · rw [List.mem_singleton.mp hb]; exact Nat.lt_succ_of_lt (Heap.lt_size hol)
  · intro D h' tk ys ws hD _ hpl hlen hP hF hk
    have hk' : ∀ b o, s₁.heap.get? b = some o → h'.get? b = some o := fun b o e => hk b o (fun hb => absurd (Heap.lt_size e) (by rw [List.mem_singleton.mp hb]; exact Nat.lt_irrefl _)) (up b o e)
    have hDn : s₁.heap.get? D = none := by
      cases q : s₁.heap.get? D with
      | none => rfl
      | some o => have := up D o q; rw [hD] at this; cases this
    obtain ⟨n, hn⟩ := hpl
    refine hG ys.toList (comp_done hfun hp (by simpa using hlen) hP hF) D h' tk n (F.keeps hk') (fun p hp => ?_) (fun q hq e => ?_)
    · rcases List.mem_cons.mp hp with rfl | hp
      · refine ⟨by simpa using hn, ?_, ?_⟩
        · rintro rfl
          obtain ⟨oL, _, _, eL, _⟩ := F.ns
          rw [hDn] at eL; cases eL
        · cases q : h₀.get? D with
          | none => rfl
          | some o => have := F.keep D o q; rw [hDn] at this; cases this
      · exact ⟨hk' _ _ (N p hp).1, (N p hp).2⟩
    · have := (N q hq).1
      rw [e, hDn] at this; cases this

theorem comp_assign (_F₀ : Fr h₀ L s.heap m) {elt iter : Expr} {x y : Str} {px py : Pos} {ifs : List Expr} {scope : Scope} {cl : List (Str × Addr)} {pos spos : Pos} {Q : Flow → Shared → Prop} (Rel : Value → α → Prop) (pc : α → Bool) (Fn : α → Value → Prop) (hfun : ∀ v x y, Rel v x → Rel v y → x = y)
    (hsw : swapsWith (.ListComp elt [⟨.Name x px, iter, ifs, 0⟩] scope pos) (some (.Name y py)) spos.line env = pure true)
    (hclos : closureFor scope env = pure cl) (hcell : ∀ y ∈ scope.names, y.2 ≠ .cell) (hkind : scope.kind = .function)
    (hnames : ∀ y ∈ scope.names, y.2 = .local → scope.names.lookup y.1 = some .local) (hx : scope.names.lookup x = some .local)
    (hy : env.kindOf y = some .local) (hcls : (env.scope.kind == .class || (env.scope.kind == .module && env.locals != env.globals)) = false) (hL : env.locals = L)
    (h : wpAny (model prog w) A (eval iter env) (CompAt prog w A h₀ L m env scope cl x ifs elt Rel pc Fn (fun ys news s₁ => ∀ D h' tk n, Fr h₀ L h' (fun z => if z = y then some (.ref D) else m z) → News h₀ L h' ((D, listOf ys.toArray n) :: news) → (∀ q ∈ news, q.1 ≠ D) → Q .next { s₁ with heap := h', toks := tk })) E s)
    (hs : ∀ x, foldedSetIterable iter env x = pure x := by intro _; rfl) :
    wpAny (model prog w) A (exec (.Assign [.Name y py] (.ListComp elt [⟨.Name x px, iter, ifs, 0⟩] scope pos) spos) env) Q E s := by
  refine wpAny_Assign_ListComp_free (pOf Rel pc) (fun v y => ∃ d, Rel v d ∧ Fn d y) hsw hclos hcell hkind hnames hx hy hcls (wpAny_mono h (fun xv s₁ h₁ => ?_) fun _ _ e => e) hs
  obtain ⟨l, vs, xs, news, rfl, hh, F, N, hl, hz, hp, hq, hG⟩ := h₁
  obtain ⟨ol, hol, _⟩ := id hl
  have hne : l ≠ s₁.heap.objs.size := Nat.ne_of_lt (Heap.lt_size hol)
  refine wpAny_pyIter_list hl ?_
  have up : ∀ b o, s₁.heap.get? b = some o → (s₁.heap.push { cls := .type "list_iterator", data := .fields #[.ref l, .int 0 0] }).get? b = some o := fun b o e => Heap.get?_push_of_some _ e
  have hLl : env.locals ∉ [s₁.heap.objs.size] := fun hb => absurd F.ns.lt (by rw [← hL, List.mem_singleton.mp hb]; exact Nat.lt_irrefl _)
  refine ⟨_, _, _, vs.toArray.size, _, _, m, rfl, Walks.list hh s₁.heap.objs.size l hne vs.toArray, (by rw [List.size_toArray, sizeLine_eq]; omega), ⟨⟨_, Heap.get?_push_size _ rfl, rfl, rfl⟩, hl.at fun o e => up _ _ e⟩, (fun b hb => ?_), hLl, ?_, comp_quiet F N hfun hp hq rfl (by show _ ≤ (s₁.heap.push _).objs.size; rw [Heap.size_push]; exact Nat.le_succ _) up, ?_⟩
  · show b < (s₁.heap.push _).objs.size
    rw [Heap.size_push]
    rcases List.mem_cons.mp hb with rfl | hb
    · exact Nat.lt_succ_self _
    · rw [List.mem_singleton.mp hb]; exact Nat.lt_succ_of_lt (Heap.lt_size hol)
  · rw [hL]; exact (F.keeps up).ns
  · intro D h' tk ys ws hD _ hpl hlen hP hF hns hk
    have hk' : ∀ b o, b ≠ L → s₁.heap.get? b = some o → h'.get? b = some o := fun b o hb e => hk b o (by rw [hL]; exact hb) (fun hb => absurd (Heap.lt_size e) (by rw [List.mem_singleton.mp hb]; exact Nat.lt_irrefl _)) (up b o e)
    have hDn : s₁.heap.get? D = none := by
      cases q : s₁.heap.get? D with
      | none => rfl
      | some o => have := up D o q; rw [hD] at this; cases this
    have hDL : D ≠ L := by
      rintro rfl
      obtain ⟨oL, _, _, eL, _⟩ := F.ns
      rw [hDn] at eL; cases eL
    have h0L : ∀ b o, h₀.get? b = some o → b ≠ L := fun b o e q => absurd (Heap.lt_size e) (by rw [q]; exact Nat.not_lt.mpr F.above)
    obtain ⟨n, hn⟩ := hpl
    refine hG ys.toList (comp_done hfun hp (by simpa using hlen) hP hF) D h' tk n ⟨by rw [← hL]; exact hns, fun b o e => hk' b o (h0L b o e) (F.keep b o e), F.above⟩ (fun p hp => ?_) (fun q hq e => ?_)
    · rcases List.mem_cons.mp hp with rfl | hp
      · refine ⟨by simpa using hn, hDL, ?_⟩
        cases q : h₀.get? D with
        | none => rfl
        | some o => have := F.keep D o q; rw [hDn] at this; cases this
      · exact ⟨hk' _ _ (N p hp).2.1 (N p hp).1, (N p hp).2⟩
    · have := (N q hq).1
      rw [e, hDn] at this; cases this
end
theorem ints_of_paired {α : Type} {g : α → Int} {xs : List α} {ys : List Value} (h : Paired (fun x y => ∃ t, y = Value.int (g x) t) xs ys) : IntsAre ys (xs.map g) := by
  induction h with
  | nil => exact .nil
  | cons h1 _ ih =>
    obtain ⟨t, rfl⟩ := h1
    exact .cons _ t ih
theorem filter_true {α : Type} (xs : List α) : xs.filter (fun _ => true) = xs := by
  induction xs with
  | nil => rfl
  | cons x r ih => simp
/-- the greatest of a list and a number beside it -/
def maxD (d : Int) (l : List Int) : Int := l.foldl max d
theorem maxD_spec : ∀ (l : List Int) (d : Int), d ≤ maxD d l ∧ (∀ x ∈ l, x ≤ maxD d l) ∧ (maxD d l = d ∨ maxD d l ∈ l)
  | [], d => ⟨Int.le_refl _, (fun _ h => nomatch h), .inl rfl⟩
  | y :: r, d => by
    obtain ⟨h1, h2, h3⟩ := maxD_spec r (max d y)
    refine ⟨by show d ≤ maxD (max d y) r; omega, fun x hx => ?_, ?_⟩
    · show x ≤ maxD (max d y) r
      rcases List.mem_cons.mp hx with rfl | hx
      · omega
      · exact h2 x hx
    · show maxD (max d y) r = d ∨ maxD (max d y) r ∈ y :: r
      rcases h3 with h3 | h3
      · rw [h3]
        by_cases h : d ≤ y
        · right; rw [show max d y = y by omega]; exact .head _
        · left; omega
      · right; exact .tail _ h3
theorem eq_maxD {M d : Int} {l : List Int} (h1 : M ∈ l ++ [d]) (h2 : ∀ a, a ∈ l ++ [d] → a ≤ M) : M = maxD d l := by
  obtain ⟨a1, a2, a3⟩ := maxD_spec l d
  have b1 : maxD d l ≤ M := by
    rcases a3 with e | e
    · rw [e]; exact h2 d (List.mem_append_right _ (.head _))
    · exact h2 _ (List.mem_append_left _ e)
  have b2 : M ≤ maxD d l := by
    rcases List.mem_append.mp h1 with e | e
    · exact a2 _ e
    · rw [List.mem_singleton.mp e]; exact a1
  omega
theorem maxD_le {B d : Int} {l : List Int} (hd : d ≤ B) (hl : ∀ x ∈ l, x ≤ B) : maxD d l ≤ B := by
  obtain ⟨-, -, h⟩ := maxD_spec l d
  rcases h with h | h
  · rw [h]; exact hd
  · exact hl _ h
theorem maxD_ge {d : Int} {l : List Int} : d ≤ maxD d l := (maxD_spec l d).1

def CellIn (led : List (Addr × Obj)) (v : Value) (c : Cell) : Prop :=
  ∃ (a : Addr) (n : Nat) (t1 t2 t3 : Tok), v = .ref a ∧ (a, ({ cls := .type "tuple", data := .seq #[.int c.1 t1, .str c.2.1 t2, .int c.2.2 t3] n } : Obj)) ∈ led
theorem CellIn.mono {led led' : List (Addr × Obj)} (hs : ∀ p ∈ led, p ∈ led') {v : Value} {c : Cell} (h : CellIn led v c) : CellIn led' v c := by
  obtain ⟨a, n, t1, t2, t3, e, hm⟩ := h
  exact ⟨a, n, t1, t2, t3, e, hs _ hm⟩
theorem news_fun {h₀ h : Heap} {L : Addr} {news : List (Addr × Obj)} (N : News h₀ L h news) {a : Addr} {o o' : Obj} (h1 : (a, o) ∈ news) (h2 : (a, o') ∈ news) : o = o' := by
  have e1 := (N _ h1).1
  have e2 := (N _ h2).1
  rw [e1] at e2
  exact Option.some.inj e2
theorem cellIn_fun {h₀ h : Heap} {L : Addr} {led : List (Addr × Obj)} (N : News h₀ L h led) : ∀ v (x y : Cell), CellIn led v x → CellIn led v y → x = y := by
  rintro v ⟨x1, x2, x3⟩ ⟨y1, y2, y3⟩ ⟨a, n, t1, t2, t3, rfl, hm⟩ ⟨b, n', u1, u2, u3, e, hm'⟩
  cases e
  have := news_fun N hm hm'
  simp at this
  obtain ⟨⟨⟨rfl, _⟩, ⟨rfl, _⟩, ⟨rfl, _⟩⟩, _⟩ := this
  rfl
theorem cells_paired {led : List (Addr × Obj)} : ∀ {cells : List Cell} {vs : List Value}, DatAll led vs (cells.map cellDat) → Paired (CellIn led) vs cells
  | [], _, h => by cases h; exact .nil
  | c :: r, _, h => by
    cases h with
    | cons h1 h2 =>
      refine .cons ?_ (cells_paired h2)
      cases h1 with
      | tuple hm hd =>
        cases hd with
        | cons a1 hd =>
          cases hd with
          | cons a2 hd =>
            cases hd with
            | cons a3 hd =>
              cases hd; cases a1; cases a2; cases a3
              exact ⟨_, _, _, _, _, rfl, hm⟩

def isWithin (cells : List Cell) (col : Int) : Bool := cells.any (fun c => c.2.2 == 2 && c.1 + 1 == col)
theorem within_len (cells : List Cell) (col : Int) : decide (0 < ((cells.filter (fun c => c.2.2 == 2 && c.1 + 1 == col)).length : Int)) = isWithin cells col := by
  unfold isWithin
  induction cells with
  | nil => rfl
  | cons c r ih =>
    rw [List.filter_cons, List.any_cons]
    cases h : (c.2.2 == 2 && c.1 + 1 == col) with
    | true => simp
    | false => simpa using ih

set_option maxRecDepth 100000 in
set_option maxHeartbeats 8000000 in
theorem within_ok (w : World) (loose : List Str) (mean : ExcName → Option Value) (mg mb : Str → Option Value)
   (R : Addr) (rv : List Value) (nr : Nat) (cells : List Cell) (col : Int) (t : Tok) (news : List (Addr × Obj))
   (hR : (R, listOf rv.toArray nr) ∈ news) (hP : Paired (CellIn news) rv cells) (hlen : rv.length ≤ 8) :
   CallOK w loose mean mg mb 50 1 [.ref R, .int col t] news (fun v news' => v = .bool (isWithin cells col) ∧ news' = news) := by
  w_top off
  unfold CallOK
  k_fill
  intro dp un gd cn cs a ccd cl outer A₀ base h₀ L m s Q E B F X N T hk hd hu hret
  refine wpAny_call ?_
  k_dflt k_enter
  k_steps
  rename_i g' L' h1 tk1 FG' F' B' X' T' l1 oc dc N'
  unfold Hold
  k_dflt (refine comp_eval F' (CellIn news) (fun c => c.2.2 == 2 && c.1 + 1 == col) (fun c y => CellIn news y c) (cellIn_fun N) (by with_unfolding_all rfl) (by decide) (by rfl) (by decide) (by rfl) ?_)
  k_steps
  refine ⟨R, rv, cells, _, rfl, rfl, by assumption, by assumption, ?_, by omega, hP, ⟨?_, ?_⟩, ?_⟩
  · exact list_led (by assumption) (.tail _ hR)
  · intro C oC v d s₃ m₃ E' hv F3 N3 hns hm3
    obtain ⟨a, n, t1, t2, t3, rfl, hm⟩ := hv
    refine wpAny_tests_one ?_
    k_steps
    all_goals first | exact ⟨_, _, rfl, fun _ _ e => e⟩ | (simp_all; done) | skip
  · intro C oC v d s₃ m₃ E' hv hpc F3 N3 hns hm3
    k_steps
    · exact hv
    · exact ⟨_, _, rfl, fun _ _ e => e⟩
  · intro ys hys D h' tk n F4 N4 hD
    have hyl : ys.length = (cells.filter (fun c => c.2.2 == 2 && c.1 + 1 == col)).length := hys.length.symm
    have hcl : cells.length ≤ 8 := by rw [← hP.length]; exact hlen
    have hfl := List.length_filter_le (fun c : Cell => c.2.2 == 2 && c.1 + 1 == col) cells
    k_steps
    refine hret _ news _ _ (by assumption) (cb_drop (by assumption) (fun p hp => .tail _ (.tail _ hp))) ⟨?_, rfl⟩
    refine congrArg Value.bool ?_
    rw [hyl]
    exact within_len cells col

section
variable {n : Nat} {f : Nat → Int} {cmp : Nat → Nat → (Bool → Shared → Prop) → Shared → Prop}
def gA (f : Nat → Int) (p : Array Nat) (i : Nat) : Int := f (p.getD i 0)
def Srt (f : Nat → Int) (p : Array Nat) (k : Nat) : Prop := ∀ i j, i ≤ j → j < k → gA f p i ≤ gA f p j
def Dsc (f : Nat → Int) (p : Array Nat) (k : Nat) : Prop := ∀ i j, i < j → j < k → gA f p j < gA f p i
structure IsP (n : Nat) (p : Array Nat) : Prop where
  perm : p.toList.Perm (List.range n)
theorem IsP.size {p : Array Nat} (h : IsP n p) : p.size = n := by
  have := h.perm.length_eq
  simpa using this
theorem IsP.lt {p : Array Nat} (h : IsP n p) (hn : 0 < n) (i : Nat) : p.getD i 0 < n := by
  by_cases hi : i < p.size
  · have e : p.getD i 0 = p[i] := by simp [Array.getD, hi]
    rw [e]
    have hm : p[i] ∈ p.toList := by simp
    have := h.perm.mem_iff.mp hm
    simpa using this
  · have e : p.getD i 0 = 0 := by simp [Array.getD, hi]
    rw [e]; exact hn
theorem IsP.inj {p : Array Nat} (h : IsP n p) {i j : Nat} (hi : i < n) (hj : j < n) (e : p.getD i 0 = p.getD j 0) : i = j := by
  have hs := h.size
  have nd : p.toList.Nodup := h.perm.nodup_iff.mpr List.nodup_range
  have e1 : p.getD i 0 = p[i]'(by omega) := by simp [Array.getD, hs, hi]
  have e2 : p.getD j 0 = p[j]'(by omega) := by simp [Array.getD, hs, hj]
  rw [e1, e2] at e
  have := (List.getElem_inj (xs := p.toList) (i := i) (j := j) (h₀ := by simpa [hs] using hi) (h₁ := by simpa [hs] using hj) nd).mp (by simpa using e)
  exact this
theorem IsP.of_perm {p q : Array Nat} (h : IsP n p) (e : q.Perm p) : IsP n q := ⟨(Array.perm_iff_toList_perm.mp e).trans h.perm⟩
theorem gA_of {p q : Array Nat} {i j : Nat} (h : p[i]? = q[j]?) : gA f p i = gA f q j := by
  unfold gA
  congr 1
  simp only [Array.getD_eq_getD_getElem?, h]

structure Cmp (n : Nat) (f : Nat → Int) (cmp : Nat → Nat → (Bool → Shared → Prop) → Shared → Prop) (s : Shared) : Prop where
  ask : ∀ i j (C : Bool → Shared → Prop), i < n → j < n → C (decide (f i < f j)) s → cmp i j C s
  inj : ∀ i j, i < n → j < n → f i = f j → i = j

theorem ask_wp {α : Type} {s : Shared} (hc : Cmp n f cmp s) {p : Array Nat} (hp : IsP n p) (hn : 0 < n) {i j : Nat} {k : Bool → KasT α} {Q : α → Shared → Prop} (h : (k (decide (gA f p i < gA f p j))).kasWp cmp Q s) : (KasT.ask (p.getD i 0) (p.getD j 0) k).kasWp cmp Q s :=
  hc.ask _ _ _ (hp.lt hn i) (hp.lt hn j) h

theorem asc_wp {s : Shared} (hc : Cmp n f cmp s) {p : Array Nat} (hp : IsP n p) (hn : 0 < n) {Q : Nat → Shared → Prop} : ∀ (fl k : Nat), 1 ≤ k → k + fl ≤ n → Srt f p k →
    (∀ m, k ≤ m → m ≤ k + fl → Srt f p m → (m < k + fl → gA f p m < gA f p (m - 1)) → Q m s) → (kas_asc p fl k).kasWp cmp Q s
  | 0, k, _, _, hs, h => h k (Nat.le_refl _) (Nat.le_refl _) hs (fun hlt => absurd hlt (by omega))
  | fl + 1, k, h1, hk, hs, h => by
    unfold kas_asc
    refine ask_wp hc hp hn ?_
    by_cases hlt : gA f p k < gA f p (k - 1)
    · rw [decide_eq_true hlt, if_pos rfl]
      exact h k (Nat.le_refl _) (by omega) hs fun _ => hlt
    · rw [decide_eq_false hlt, if_neg (by simp)]
      refine asc_wp hc hp hn fl (k + 1) (by omega) (by omega) ?_ fun m a b c d => h m (by omega) (by omega) c fun q => d (by omega)
      intro i j hij hj
      rcases Nat.lt_or_ge j k with hjk | hjk
      · exact hs i j hij hjk
      · have ej : j = k := by omega
        subst ej
        rcases Nat.lt_or_ge i j with hi | hi
        · have := hs i (j - 1) (by omega) (by omega)
          omega
        · have : i = j := by omega
          subst this; exact Int.le_refl _

theorem desc_wp {s : Shared} (hc : Cmp n f cmp s) {p : Array Nat} (hp : IsP n p) (hn : 0 < n) {Q : Array Nat × Nat × Nat → Shared → Prop} : ∀ (fl k : Nat), 1 ≤ k → k + fl ≤ n → Dsc f p k →
    (∀ m, k ≤ m → m ≤ k + fl → Dsc f p m → Q (p, m, 0) s) → (kas_desc fl p k 0).kasWp cmp Q s
  | 0, k, _, _, hs, h => h k (Nat.le_refl _) (Nat.le_refl _) hs
  | fl + 1, k, h1, hk, hs, h => by
    unfold kas_desc
    refine ask_wp hc hp hn ?_
    by_cases hlt : gA f p k < gA f p (k - 1)
    · rw [decide_eq_true hlt, if_pos rfl, if_neg (by omega)]
      refine desc_wp hc hp hn fl (k + 1) (by omega) (by omega) ?_ fun m a b c => h m (by omega) (by omega) c
      intro i j hij hj
      rcases Nat.lt_or_ge j k with hjk | hjk
      · exact hs i j hij hjk
      · have ej : j = k := by omega
        subst ej
        rcases Nat.lt_or_ge i (j - 1) with hi | hi
        · have := hs i (j - 1) hi (by omega)
          omega
        · have : i = j - 1 := by omega
          subst this; exact hlt
    · rw [decide_eq_false hlt, if_neg (by simp)]
      refine ask_wp hc hp hn ?_
      have hgt : gA f p (k - 1) < gA f p k := by
        rcases Int.lt_or_le (gA f p (k - 1)) (gA f p k) with h' | h'
        · exact h'
        · exfalso
          have he : gA f p k = gA f p (k - 1) := by omega
          have := hp.inj (i := k) (j := k - 1) (by omega) (by omega) (hc.inj _ _ (hp.lt hn k) (hp.lt hn (k - 1)) he)
          omega
      rw [decide_eq_true hgt, if_pos rfl]
      exact h k (Nat.le_refl _) (by omega) hs

theorem rev_isP {p : Array Nat} (hp : IsP n p) (i j : Nat) : IsP n (kas_rev p i j) := hp.of_perm (mirror_perm _ _ _ _)
theorem tail3_wp {s : Shared} (hc : Cmp n f cmp s) {p : Array Nat} (hp : IsP n p) (hn : 0 < n) {Q : Nat × Array Nat → Shared → Prop} {k : Nat} (h1 : 1 ≤ k) (hk : k ≤ n) (hd : Dsc f p k)
    (h : ∀ m p', 1 ≤ m → m ≤ n → IsP n p' → Srt f p' m → Q (m, p') s) : (kas_tail3 k n p).kasWp cmp Q s := by
  unfold kas_tail3
  rw [KasT.kasWp_bind]
  refine asc_wp hc (rev_isP hp 0 k) hn (n - k) k h1 (by omega) ?_ fun m a b c _ => h m _ (by omega) (by omega) (rev_isP hp 0 k) c
  have e : ∀ i, i < k → gA f (kas_rev p 0 k) i = gA f p (k - 1 - i) := fun i hi => by
    refine gA_of ?_
    have := getElem?_mirror_all (xs := p) (i := 0) (j := k) (by rw [hp.size]; exact hk) i
    unfold kas_rev
    rw [this, if_pos ⟨Nat.zero_le _, hi⟩]
    congr 1
    omega
  intro i j hij hj
  rw [e i (by omega), e j hj]
  rcases Nat.lt_or_ge i j with hi | hi
  · have := hd (k - 1 - j) (k - 1 - i) (by omega) (by omega)
    omega
  · have : i = j := by omega
    subst this; exact Int.le_refl _

theorem count_wp {s : Shared} (hc : Cmp n f cmp s) {p : Array Nat} (hp : IsP n p) (hn : 2 ≤ n) {Q : Nat × Array Nat → Shared → Prop}
    (h : ∀ m p', 1 ≤ m → m ≤ n → IsP n p' → Srt f p' m → Q (m, p') s) : (kas_count n p).kasWp cmp Q s := by
  unfold kas_count
  rw [KasT.kasWp_bind]
  refine asc_wp hc hp (by omega) (n - 1) 1 (Nat.le_refl _) (by omega) (fun i j hij hj => ?_) fun m a b c d => ?_
  · have : i = j := by omega
    subst this; exact Int.le_refl _
  · by_cases e : (m == n) = true
    · rw [if_pos e]
      exact h m p a (by omega) hp c
    · rw [if_neg e]
      have hne : m ≠ n := fun q => e (by rw [q]; exact beq_self_eq_true _)
      have hst := d (by omega)
      by_cases h1 : m > 1
      · rw [if_pos h1]
        refine ask_wp hc hp (by omega) ?_
        have hlt : gA f p 0 < gA f p (m - 1) := by
          have h0 := c 0 (m - 1) (Nat.zero_le _) (by omega)
          rcases Int.lt_or_le (gA f p 0) (gA f p (m - 1)) with h' | h'
          · exact h'
          · exfalso
            have he : gA f p 0 = gA f p (m - 1) := by omega
            have := hp.inj (i := 0) (j := m - 1) (by omega) (by omega) (hc.inj _ _ (hp.lt (by omega) 0) (hp.lt (by omega) (m - 1)) he)
            omega
        rw [decide_eq_true hlt, if_pos rfl]
        exact h m p a (by omega) hp c
      · rw [if_neg h1]
        have hm : m = 1 := by omega
        subst hm
        unfold kas_descPart
        rw [KasT.kasWp_bind]
        refine desc_wp hc hp (by omega) (n - (1 + 1)) (1 + 1) (by omega) (by omega) (fun i j hij hj => ?_) fun k a' b' c' => ?_
        · have : i = 0 ∧ j = 1 := by omega
          obtain ⟨rfl, rfl⟩ := this
          exact hst
        · dsimp only
          rw [if_neg (by omega)]
          exact tail3_wp hc hp (by omega) (by omega) (by omega) c' h

theorem place_wp {s : Shared} (hc : Cmp n f cmp s) {p : Array Nat} (hp : IsP n p) (hn : 0 < n) {Q : Nat → Shared → Prop} {k : Nat} (hs : Srt f p k) (hk : k < n) : ∀ (fl l r : Nat), l ≤ r → r ≤ k → r - l ≤ fl →
    (∀ i, i < l → gA f p i ≤ gA f p k) → (∀ i, r ≤ i → i < k → gA f p k < gA f p i) →
    (∀ m, m ≤ k → (∀ i, i < m → gA f p i ≤ gA f p k) → (∀ i, m ≤ i → i < k → gA f p k < gA f p i) → Q m s) → (kas_place p k fl l r).kasWp cmp Q s
  | 0, l, r, hlr, hr, hf, h1, h2, h => h l (by omega) h1 (fun i hi => h2 i (by omega))
  | fl + 1, l, r, hlr, hr, hf, h1, h2, h => by
    unfold kas_place
    by_cases hge : l ≥ r
    · rw [if_pos hge]
      exact h l (by omega) h1 (fun i hi => h2 i (by omega))
    · rw [if_neg hge]
      refine ask_wp hc hp hn ?_
      by_cases hlt : gA f p k < gA f p ((l + r) / 2)
      · rw [decide_eq_true hlt, if_pos rfl]
        refine place_wp hc hp hn hs hk fl l ((l + r) / 2) (by omega) (by omega) (by omega) h1 (fun i hi hik => ?_) h
        have := hs ((l + r) / 2) i hi hik
        omega
      · rw [decide_eq_false hlt, if_neg (by simp)]
        refine place_wp hc hp hn hs hk fl ((l + r) / 2 + 1) r (by omega) hr (by omega) (fun i hi => ?_) h2 h
        have := hs i ((l + r) / 2) (by omega) (by omega)
        omega

theorem bin_wp {s : Shared} (hc : Cmp n f cmp s) (hn : 0 < n) {Q : Array Nat → Shared → Prop} : ∀ (fl k : Nat) {p : Array Nat}, IsP n p → k + fl = n → Srt f p k →
    (∀ p', IsP n p' → Srt f p' n → Q p' s) → (kas_bin fl p k).kasWp cmp Q s
  | 0, k, p, hp, hk, hs, h => h p hp (by rw [← hk]; exact hs)
  | fl + 1, k, p, hp, hk, hs, h => by
    unfold kas_bin
    rw [KasT.kasWp_bind]
    refine place_wp hc hp hn hs (by omega) k 0 k (Nat.zero_le _) (Nat.le_refl _) (by omega) (fun i hi => absurd hi (by omega)) (fun i hi hik => absurd hik (by omega)) fun l hl a b => ?_
    have hp' : IsP n (bubble p k (k - l)) := hp.of_perm (bubble_perm _ _ _)
    have e : ∀ i, gA f (bubble p k (k - l)) i = if i = l then gA f p k else if l < i ∧ i ≤ k then gA f p (i - 1) else gA f p i := fun i => by
      have := getElem?_bubble (xs := p) (src := k) (by rw [hp.size]; omega) (k - l) (by omega) i
      rw [show k - (k - l) = l by omega] at this
      split
      · rename_i h1; rw [if_pos h1] at this; exact gA_of this
      · rename_i h1
        rw [if_neg h1] at this
        split
        · rename_i h2; rw [if_pos h2] at this; exact gA_of this
        · rename_i h2; rw [if_neg h2] at this; exact gA_of this
    refine bin_wp hc hn fl (k + 1) hp' (by omega) (fun i j hij hj => ?_) h
    rw [e i, e j]
    rcases Nat.lt_trichotomy i l with hi | hi | hi
    · rw [if_neg (by omega), if_neg (by omega)]
      rcases Nat.lt_trichotomy j l with hj' | hj' | hj'
      · rw [if_neg (by omega), if_neg (by omega)]; exact hs i j hij (by omega)
      · rw [if_pos hj']; exact a i hi
      · rw [if_neg (by omega), if_pos ⟨hj', by omega⟩]; exact hs i (j - 1) (by omega) (by omega)
    · rw [if_pos hi]
      rcases Nat.lt_trichotomy j l with hj' | hj' | hj'
      · omega
      · rw [if_pos hj']; exact Int.le_refl _
      · rw [if_neg (by omega), if_pos ⟨hj', by omega⟩]
        have := b (j - 1) (by omega) (by omega)
        omega
    · rw [if_neg (by omega), if_pos ⟨hi, by omega⟩, if_neg (by omega), if_pos ⟨by omega, by omega⟩]
      exact hs (i - 1) (j - 1) (by omega) (by omega)

theorem sort_wp {s : Shared} (hc : Cmp n f cmp s) (hn : 2 ≤ n) {Q : Array Nat → Shared → Prop} (h : ∀ p, IsP n p → Srt f p n → Q p s) : (kas_sort n).kasWp cmp Q s := by
  unfold kas_sort
  rw [KasT.kasWp_bind]
  have h0 : IsP n (List.toArray (List.range n)) := ⟨by simp⟩
  refine count_wp hc h0 hn fun m p hm1 hm2 hp hs => ?_
  dsimp only
  by_cases hlt : m < n
  · rw [if_pos hlt]
    have e : max m 1 = m := by omega
    rw [e]
    exact bin_wp hc (by omega) (n - m) m hp (by omega) hs h
  · rw [if_neg hlt]
    have e : m = n := by omega
    subst e
    exact h p hp hs
end

section
variable {prog : Program} {w : World} {A : Around} {E : Value → Shared → Prop} {s : Shared} {h₀ : Heap} {L : Addr} {m : Str → Option Value} {news : List (Addr × Obj)} {vs : List Value}

theorem short_list_sort {a : Addr} {n : Nat} {P : PySem.Fin → Shared → Prop} (F : Fr h₀ L s.heap m) (N : News h₀ L s.heap news) (ho : s.heap.get? a = some (seqObj "list" vs.toArray n)) (haL : a ≠ L) (ha0 : h₀.get? a = none) (hna : ∀ p ∈ news, p.1 ≠ a)
    (h2 : vs.length < 2) (h : ∀ c h', Fr h₀ L h' m → News h₀ L h' ((a, seqObj "list" vs.toArray c) :: news) → P (.done (.ret .none)) { s with heap := h' }) :
    wpAny (model prog w) A (Builtin.«list.sort» ⟨[.ref a], []⟩) P E s := by
  have ha : a < s.heap.objs.size := Heap.lt_size ho
  have s1 := Heap.SameBut.update s.heap a (Obj.mapSeq fun _ => (#[] : Array Value))
  obtain ⟨e1, ho1⟩ : ∃ e1, (s.heap.update a (Obj.mapSeq fun _ => (#[] : Array Value))).get? a = some (seqObj "list" #[] e1) := ⟨_, get?_update_seq ho fun _ => #[]⟩
  have F3 : Fr h₀ L (((s.heap.update a (Obj.mapSeq fun _ => (#[] : Array Value))).push (seqObj "tuple" vs.toArray 0)).push (seqObj "list" #[] 0)) m := ((kas_fr F s1 haL ha0).push _).push _
  have N3 : News h₀ L (((s.heap.update a (Obj.mapSeq fun _ => (#[] : Array Value))).push (seqObj "tuple" vs.toArray 0)).push (seqObj "list" #[] 0)) news :=
    (kas_news N s1 hna).grown fun b x e => Heap.get?_push_of_some _ (Heap.get?_push_of_some _ e)
  have ho3 : (((s.heap.update a (Obj.mapSeq fun _ => (#[] : Array Value))).push (seqObj "tuple" vs.toArray 0)).push (seqObj "list" #[] 0)).get? a = some (seqObj "list" #[] e1) := Heap.get?_push_of_some _ (Heap.get?_push_of_some _ ho1)
  rw [list_sort_plain]
  refine wpAny_bind (listItems_at ho rfl ?_)
  refine wpAny_bind (listUpdate_at ho rfl ?_ (by rw [List.size_toArray, sizeLine_eq]; omega) (Nat.zero_le _))
  refine wpAny_bind (seqEpoch_at ho1 rfl ?_)
  refine wpAny_bind (wpAny_newTuple ?_ (by show vs.length ≤ _; rw [sizeLine_eq]; omega))
  refine wpAny_bind (wpAny_newList ?_ (Nat.zero_le _))
  refine wpAny_holding ?_
  show wpAny (model prog w) A _ P E { s with heap := ((s.heap.update a (Obj.mapSeq fun _ => (#[] : Array Value))).push (seqObj "tuple" vs.toArray 0)).push (seqObj "list" #[] 0) }
  dsimp only
  have hlt : vs.toArray.size < 2 := by rw [List.size_toArray]; exact h2
  rw [if_pos hlt, if_pos hlt]
  refine wpAny_bind (wpAny_pure ?_)
  rw [StateT.run_pure]
  refine wpAny_bind (wpAny_pure ?_)
  dsimp only
  refine wpAny_bind (seqEpoch_at ho3 rfl ?_)
  have hout : (arrOf (SortSt.mk' general' (vs.toArray.zip vs.toArray) #[] 7 none)).map (·.2) = vs.toArray := by
    show (vs.toArray.zip vs.toArray).map (·.2) = vs.toArray
    apply Array.toList_inj.mp
    simp [List.map_snd_zip]
  refine wpAny_bind (listUpdate_at ho3 rfl ?_ (Nat.zero_le _) (by rw [hout, List.size_toArray, sizeLine_eq]; omega))
  rw [hout]
  obtain ⟨c2, hc2⟩ : ∃ c2, ((((s.heap.update a (Obj.mapSeq fun _ => (#[] : Array Value))).push (seqObj "tuple" vs.toArray 0)).push (seqObj "list" #[] 0)).update a (Obj.mapSeq fun _ => vs.toArray)).get? a = some (seqObj "list" vs.toArray c2) := ⟨_, get?_update_seq ho3 fun _ => vs.toArray⟩
  have s2 := Heap.SameBut.update (((s.heap.update a (Obj.mapSeq fun _ => (#[] : Array Value))).push (seqObj "tuple" vs.toArray 0)).push (seqObj "list" #[] 0)) a (Obj.mapSeq fun _ => vs.toArray)
  have fin := h c2 _ (kas_fr F3 s2 haL ha0) (fun p hp => by
    rcases List.mem_cons.mp hp with rfl | hp
    · exact ⟨hc2, haL, ha0⟩
    · exact kas_news N3 s2 hna p hp)
  simp only [bne_self_eq_false, Bool.false_eq_true, if_false]
  exact wpAny_pure fin
end

section
variable {prog : Program} {w : World} {A : Around} {E : Value → Shared → Prop} {s : Shared} {h₀ : Heap} {L : Addr} {m : Str → Option Value} {news : List (Addr × Obj)} {vs : List Value} {α : Type}

/-- items that are tuples with an int ahead, told apart by a number -/
structure TupKey (prog : Program) (w : World) (h₀ : Heap) (L : Addr) (m : Str → Option Value) (news : List (Addr × Obj)) (Rel : Value → α → Prop) (key : α → Int) : Prop where
  tup : ∀ v x, Rel v x → ∃ (a : Addr) (items : List Value) (n : Nat) (c : Int) (t : Tok), v = .ref a ∧ (a, ({ cls := .type "tuple", data := .seq items.toArray n } : Obj)) ∈ news ∧ items[0]? = some (.int c t)
  lt : ∀ (A : Around) (s : Shared) v1 v2 x1 x2 (C : Bool → Shared → Prop), Rel v1 x1 → Rel v2 x2 → News h₀ L s.heap news → C (decide (key x1 < key x2)) s → wpAny (model prog w) A (keyLt' (tuples' true) v1 v2) C (fun _ _ => False) s

theorem tups_of {h : Heap} {Rel : Value → α → Prop} {key : α → Int} (K : TupKey prog w h₀ L m news Rel key) (N : News h₀ L h news) {xs : List α} (hp : Paired Rel vs xs) : ∃ fs : List Value, KatTups h vs fs ∧ fs.length = vs.length ∧ ∀ v ∈ fs, ∃ c t, v = .int c t := by
  induction hp with
  | nil => exact ⟨[], .nil, rfl, fun _ h => nomatch h⟩
  | cons h1 _ ih =>
    obtain ⟨fs, h2, h3, h4⟩ := ih
    obtain ⟨a, items, n, c, t, rfl, hm, h0⟩ := K.tup _ _ h1
    refine ⟨.int c t :: fs, .cons (N _ hm).1 rfl rfl (by simpa using h0) h2, by simp [h3], ?_⟩
    intro v hv
    rcases List.mem_cons.mp hv with rfl | hv
    · exact ⟨c, t, rfl⟩
    · exact h4 v hv

def keyAt (key : α → Int) (xs : List α) (i : Nat) : Int := match xs[i]? with | some x => key x | none => 0

theorem paired_perm {Rel : Value → α → Prop} {xs : List α} (hp : Paired Rel vs xs) {d : α} : ∀ (is : List Nat), (∀ i ∈ is, i < vs.length) → Paired Rel (is.map fun i => vs.getD i Value.none) (is.map fun i => xs.getD i d)
  | [], _ => .nil
  | i :: r, h => by
    have hi := h i (.head _)
    obtain ⟨x, hx, hr⟩ := paired_get hp (List.getElem?_eq_getElem hi)
    refine .cons ?_ (paired_perm hp r fun j hj => h j (.tail _ hj))
    have e1 : vs.getD i Value.none = vs[i] := by simp [List.getD, hi]
    have e2 : xs.getD i d = x := by simp [List.getD, hx]
    show Rel (vs.getD i Value.none) (xs.getD i d)
    rw [e1, e2]; exact hr

theorem map_getD_range {d : α} (xs : List α) : (List.range xs.length).map (fun i => xs.getD i d) = xs := by
  apply List.ext_getElem?
  intro i
  by_cases hi : i < xs.length
  · simp [hi, List.getD]
  · simp [hi]

/-- the core: the sort's questions answered, the outcome told -/
theorem sort_core {Rel : Value → α → Prop} {key : α → Int} {xs : List α} (K : TupKey prog w h₀ L m news Rel key) (N : News h₀ L s.heap news) (hp : Paired Rel vs xs) (hk : xs.Pairwise (fun a b => key a ≠ key b)) (h2 : 2 ≤ vs.length) {R : List Value → Shared → Prop}
    (h : ∀ ys zs, Paired Rel ys zs → zs.Perm xs → zs.Pairwise (fun a b => key a ≤ key b) → ys.length = vs.length → R ys s) :
    wpAny (model prog w) A (keyKind' vs.toArray) (fun κ s' => (kas_sort vs.length).kasWp (kas_ask prog w A κ vs) (fun p s'' => R (p.toList.map fun i => vs.getD i Value.none) s'') s') (fun _ _ => False) s := by
  obtain ⟨fs, ht, hfl, hfi⟩ := tups_of K N hp
  have h0 : 0 < fs.length := by omega
  refine kat_kind ht h0 (T := .type "int") (fun v hv => ?_) (by simp) ?_
  · obtain ⟨c, t, rfl⟩ := hfi v hv
    exact Looks.of_pure rfl
  rw [show ((Value.type "int") != Value.type "tuple") = true by decide]
  have hlen : vs.length = xs.length := hp.length
  obtain ⟨d⟩ : Nonempty α := by
    cases xs with
    | nil => rw [List.length_nil] at hlen; omega
    | cons x _ => exact ⟨x⟩
  have hat : ∀ i, i < vs.length → ∃ (hi : i < xs.length), Rel (vs.getD i Value.none) xs[i] ∧ keyAt key xs i = key xs[i] := fun i hi => by
    have hi' : i < xs.length := by omega
    obtain ⟨x, hx, hr⟩ := paired_get hp (List.getElem?_eq_getElem hi)
    have e1 : vs.getD i Value.none = vs[i] := by simp [List.getD, hi]
    have e2 : xs[i] = x := by
      rw [List.getElem?_eq_getElem hi'] at hx
      exact Option.some.inj hx
    refine ⟨hi', by rw [e1, e2]; exact hr, ?_⟩
    unfold keyAt
    rw [List.getElem?_eq_getElem hi']
  have hc : Cmp vs.length (keyAt key xs) (kas_ask prog w A (tuples' true) vs) s := by
    refine ⟨fun i j C hi hj hC => ?_, fun i j hi hj e => ?_⟩
    · obtain ⟨hi', r1, k1⟩ := hat i hi
      obtain ⟨hj', r2, k2⟩ := hat j hj
      rw [k1, k2] at hC
      exact K.lt A s _ _ _ _ C r1 r2 N hC
    · obtain ⟨hi', r1, k1⟩ := hat i hi
      obtain ⟨hj', r2, k2⟩ := hat j hj
      rw [k1, k2] at e
      rcases Nat.lt_trichotomy i j with h' | h' | h'
      · exact absurd e (List.pairwise_iff_getElem.mp hk i j hi' hj' h')
      · exact h'
      · exact absurd e.symm (List.pairwise_iff_getElem.mp hk j i hj' hi' h')
  refine sort_wp hc h2 fun p hP hS => ?_
  refine h _ (p.toList.map fun i => xs.getD i d) (paired_perm hp _ fun i hi => ?_) ?_ ?_ ?_
  · have := hP.perm.mem_iff.mp hi
    simpa using this
  · have := hP.perm.map (fun i => xs.getD i d)
    rw [hlen, map_getD_range] at this
    exact this
  · rw [List.pairwise_iff_getElem]
    intro i j hi hj hij
    have hz := hP.size
    simp only [List.length_map, Array.length_toList] at hi hj
    have h1 := hS i j (by omega) (by omega)
    simp only [List.getElem_map, Array.getElem_toList]
    have g : ∀ k (hk' : k < p.size), gA (keyAt key xs) p k = key (xs.getD p[k] d) := fun k hk' => by
      unfold gA
      have e : p.getD k 0 = p[k] := by simp [Array.getD, hk']
      have hl := hP.lt (by omega) k
      rw [e] at hl ⊢
      obtain ⟨hi', -, k1⟩ := hat _ hl
      rw [k1]
      congr 1
      simp [List.getD, hi']
    rw [g i (by omega), g j (by omega)] at h1
    exact h1
  · simp [hP.size]
end

section
variable {prog : Program} {w : World} {A : Around} {E : Value → Shared → Prop} {s : Shared} {h₀ : Heap} {L : Addr} {m : Str → Option Value} {news : List (Addr × Obj)} {vs : List Value} {α : Type}

theorem sorted_short {l : Addr} {Q : Value → Shared → Prop} (F : Fr h₀ L s.heap m) (N : News h₀ L s.heap news) (hl : s.heap.IsList l vs.toArray) (h2 : vs.length < 2)
    (h : ∀ D c h', Fr h₀ L h' m → News h₀ L h' ((D, seqObj "list" vs.toArray c) :: news) → (∀ q ∈ news, q.1 < D) → Q (.ref D) { s with heap := h' }) :
    wpAny (model prog w) A (call (.builtin "sorted") [.ref l]) Q E s := by
  refine Calls.call_function_entry kind_sorted plain_sorted entry_sorted (args_sorted1 _) ?_
  unfold Builtin.«sorted»
  refine wpAny_bind (m := checkCount "sorted" 1 1 _) (wpAny_pure ?_)
  refine wpAny_bind (collect_list hl ?_ (by rw [sizeLine_eq]; omega))
  refine wpAny_bind (wpAny_newList ?_ (by rw [sizeLine_eq]; omega))
  have hsz : ((s.heap.push (seqObj "list" #[] 0)).update s.heap.objs.size (Obj.mapSeq (· ++ vs.toArray))).objs.size = s.heap.objs.size + 1 := by
    rw [Heap.size_update, size_push']
  have hoL : (((s.heap.push (seqObj "list" #[] 0)).update s.heap.objs.size (Obj.mapSeq (· ++ vs.toArray))).push (seqObj "list" vs.toArray 0)).get? (s.heap.objs.size + 1) = some (seqObj "list" vs.toArray 0) := by
    rw [← hsz]; exact Heap.get?_push_size _ rfl
  have keep : ∀ b o, s.heap.get? b = some o → (((s.heap.push (seqObj "list" #[] 0)).update s.heap.objs.size (Obj.mapSeq (· ++ vs.toArray))).push (seqObj "list" vs.toArray 0)).get? b = some o := fun b o q => by
    have hlt : b < s.heap.objs.size := Heap.lt_size q
    rw [Heap.get?_push_ne _ _ _ (by rw [hsz]; exact Nat.ne_of_lt (Nat.lt_succ_of_lt hlt)), Heap.get?_update_ne _ _ _ _ (Nat.ne_of_lt hlt), Heap.get?_push_ne _ _ _ (Nat.ne_of_lt hlt)]
    exact q
  have hL : L < s.heap.objs.size := F.ns.lt
  show wpAny _ _ _ _ _ { s with heap := ((s.heap.push (seqObj "list" #[] 0)).update s.heap.objs.size (Obj.mapSeq (· ++ vs.toArray))).push (seqObj "list" vs.toArray 0) }
  rw [hsz]
  refine wpAny_bind (wpAny_holding (wpAny_call_entry slot_list_sort ⟨_, hoL, rfl⟩ entry_list_sort ?body (args_list_sort _)))
  case body =>
    refine short_list_sort (s := { s with heap := ((s.heap.push (seqObj "list" #[] 0)).update s.heap.objs.size (Obj.mapSeq (· ++ vs.toArray))).push (seqObj "list" vs.toArray 0) })
      (F.kept keep) (N.grown keep) hoL (Nat.ne_of_gt (Nat.lt_succ_of_lt hL)) (Heap.get?_none_of_le (Nat.le_trans F.above (Nat.le_succ_of_le (Nat.le_of_lt hL))))
      (fun p hp => Nat.ne_of_lt (Nat.lt_succ_of_lt (Heap.lt_size (N p hp).1))) h2 fun c h' F' N' => ?_
    exact ⟨_, rfl, wpAny_pure ⟨_, rfl, h _ c h' F' N' fun q hq => Nat.lt_succ_of_lt (Heap.lt_size (N q hq).1)⟩⟩

theorem sorted_T {l : Addr} {nn : Nat} {xs : List α} {Rel : Value → α → Prop} {key : α → Int} {Q : Value → Shared → Prop} (F : Fr h₀ L s.heap m) (N : News h₀ L s.heap news) (hl : (l, listOf vs.toArray nn) ∈ news) (K : TupKey prog w h₀ L m news Rel key) (hp : Paired Rel vs xs)
    (hk : xs.Pairwise (fun a b => key a ≠ key b)) (h64 : vs.length < 64)
    (h : ∀ D c h' ys zs, Fr h₀ L h' m → News h₀ L h' ((D, listOf ys.toArray c) :: news) → (∀ q ∈ news, q.1 < D) → Paired Rel ys zs → zs.Perm xs → zs.Pairwise (fun a b => key a ≤ key b) → ys.length = vs.length → Q (.ref D) { s with heap := h' }) :
    wpAny (model prog w) A (call (.builtin "sorted") [.ref l]) Q E s := by
  rcases Nat.lt_or_ge vs.length 2 with h2 | h2
  · refine sorted_short F N (list_led N hl) h2 fun D c h' F' N' hlt => h D c h' vs xs F' N' hlt hp (List.Perm.refl _) ?_ rfl
    have hx : xs.length < 2 := by rw [← hp.length]; exact h2
    match xs, hx with
    | [], _ => exact .nil
    | [x], _ => exact List.pairwise_singleton _ _
  · refine kat_sorted F N (list_led N hl) h2 h64 fun D e1 h' F' N' hlt => ?_
    refine sort_core (s := { s with heap := h' }) (R := fun out s'' => KasFin h₀ L m D e1 out (fun s3 => Q (.ref D) s3) s'') K (fun p hp => N' p (.tail _ hp)) hp hk h2 fun ys zs h1 h3 h4 h5 => ?_
    exact KasFin.intro F' N' (.head fun p hp => Nat.ne_of_lt (hlt p hp)) fun h'' c F'' N'' => h D c h'' ys zs F'' N'' hlt h1 h3 h4 h5

theorem lsort_T {D : Addr} {nn : Nat} {xs : List α} {Rel : Value → α → Prop} {key : α → Int} {Q : Value → Shared → Prop} (F : Fr h₀ L s.heap m) (N : News h₀ L s.heap ((D, listOf vs.toArray nn) :: news)) (hD : ∀ p ∈ news, p.1 ≠ D) (K : TupKey prog w h₀ L m news Rel key) (hp : Paired Rel vs xs)
    (hk : xs.Pairwise (fun a b => key a ≠ key b)) (h64 : vs.length < 64)
    (h : ∀ c h' ys zs, Fr h₀ L h' m → News h₀ L h' ((D, listOf ys.toArray c) :: news) → Paired Rel ys zs → zs.Perm xs → zs.Pairwise (fun a b => key a ≤ key b) → ys.length = vs.length → Q .none { s with heap := h' }) :
    wpAny (model prog w) A (call (.builtin "list.sort") [.ref D]) Q E s := by
  have nz := N _ (.head _)
  have N0 : News h₀ L s.heap news := fun p hp => N p (.tail _ hp)
  rcases Nat.lt_or_ge vs.length 2 with h2 | h2
  · refine wpAny_call_entry slot_list_sort ⟨_, nz.1, rfl⟩ entry_list_sort (short_list_sort (vs := vs) F N0 nz.1 nz.2.1 nz.2.2 hD h2 fun c h' F' N' => ?_) (args_list_sort _)
    have hx : xs.length < 2 := by rw [← hp.length]; exact h2
    refine ⟨_, rfl, h c h' vs xs F' N' hp (List.Perm.refl _) ?_ rfl⟩
    match xs, hx with
    | [], _ => exact .nil
    | [x], _ => exact List.pairwise_singleton _ _
  · refine kat_lsort (vs := vs) F N (.head hD) (by simp) h2 h64 fun e1 h' F' N' => ?_
    refine sort_core (s := { s with heap := h' }) (R := fun out s'' => KasFin h₀ L m D e1 out (fun s3 => Q .none s3) s'') K (fun p hp => N' p (.tail _ hp)) hp hk h2 fun ys zs h1 h3 h4 h5 => ?_
    exact KasFin.intro F' N' (.head hD) fun h'' c F'' N'' => h c h'' ys zs F'' N'' h1 h3 h4 h5
end

/-- a mark: its column, its number, its text -/
abbrev Mark := Int × Int × Str
def MarkIn (led : List (Addr × Obj)) (v : Value) (x : Mark) : Prop :=
  ∃ (a : Addr) (n : Nat) (t1 t2 t3 : Tok), v = .ref a ∧ (a, ({ cls := .type "tuple", data := .seq #[.int x.1 t1, .int x.2.1 t2, .str x.2.2 t3] n } : Obj)) ∈ led
/-- an entry: its number, its text -/
abbrev Entry := Int × Str
def EntryIn (led : List (Addr × Obj)) (v : Value) (x : Entry) : Prop :=
  ∃ (a : Addr) (n : Nat) (t1 t2 : Tok), v = .ref a ∧ (a, ({ cls := .type "tuple", data := .seq #[.int x.1 t1, .str x.2 t2] n } : Obj)) ∈ led
theorem MarkIn.mono {led led' : List (Addr × Obj)} (hs : ∀ p ∈ led, p ∈ led') {v : Value} {c : Mark} (h : MarkIn led v c) : MarkIn led' v c := by
  obtain ⟨a, n, t1, t2, t3, e, hm⟩ := h
  exact ⟨a, n, t1, t2, t3, e, hs _ hm⟩
theorem EntryIn.mono {led led' : List (Addr × Obj)} (hs : ∀ p ∈ led, p ∈ led') {v : Value} {c : Entry} (h : EntryIn led v c) : EntryIn led' v c := by
  obtain ⟨a, n, t1, t2, e, hm⟩ := h
  exact ⟨a, n, t1, t2, e, hs _ hm⟩
theorem markIn_fun {h₀ h : Heap} {L : Addr} {led : List (Addr × Obj)} (N : News h₀ L h led) : ∀ v (x y : Mark), MarkIn led v x → MarkIn led v y → x = y := by
  rintro v ⟨x1, x2, x3⟩ ⟨y1, y2, y3⟩ ⟨a, n, t1, t2, t3, rfl, hm⟩ ⟨b, n', u1, u2, u3, e, hm'⟩
  cases e
  have := news_fun N hm hm'
  simp at this
  obtain ⟨⟨⟨rfl, _⟩, ⟨rfl, _⟩, ⟨rfl, _⟩⟩, _⟩ := this
  rfl
theorem entryIn_fun {h₀ h : Heap} {L : Addr} {led : List (Addr × Obj)} (N : News h₀ L h led) : ∀ v (x y : Entry), EntryIn led v x → EntryIn led v y → x = y := by
  rintro v ⟨x1, x2⟩ ⟨y1, y2⟩ ⟨a, n, t1, t2, rfl, hm⟩ ⟨b, n', u1, u2, e, hm'⟩
  cases e
  have := news_fun N hm hm'
  simp at this
  obtain ⟨⟨⟨rfl, _⟩, ⟨rfl, _⟩⟩, _⟩ := this
  rfl
def markKey (x : Mark) : Int := x.1 * 64 + x.2.1
theorem paired_mem {β α : Type} {Rel : β → α → Prop} {vs : List β} {xs : List α} (h : Paired Rel vs xs) : Paired (fun v x => Rel v x ∧ x ∈ xs) vs xs := by
  induction h with
  | nil => exact .nil
  | cons h1 _ ih => exact .cons ⟨h1, .head _⟩ (paired_mono ih fun v x h => ⟨h.1, .tail _ h.2⟩)
theorem paired_unmem {β α : Type} {Rel : β → α → Prop} {P : α → Prop} {vs : List β} {xs : List α} (h : Paired (fun v x => Rel v x ∧ P x) vs xs) : Paired Rel vs xs := paired_mono h fun _ _ h => h.1

theorem marks_key {prog : Program} {w : World} {h₀ : Heap} {L : Addr} {m : Str → Option Value} {news : List (Addr × Obj)} {xs : List Mark} (hb : ∀ x ∈ xs, 0 ≤ x.2.1 ∧ x.2.1 < 64) (hd : ∀ x ∈ xs, ∀ y ∈ xs, x.2.1 = y.2.1 → x = y) :
    TupKey prog w h₀ L m news (fun v x => MarkIn news v x ∧ x ∈ xs) markKey := by
  refine ⟨?_, ?_⟩
  · rintro v x ⟨⟨a, n, t1, t2, t3, rfl, hm⟩, _⟩
    exact ⟨a, _, n, x.1, t1, rfl, hm, rfl⟩
  · rintro A s v1 v2 ⟨c1, k1, x1⟩ ⟨c2, k2, x2⟩ C ⟨⟨a, n, t1, t2, t3, rfl, hm⟩, hx⟩ ⟨⟨b, n', u1, u2, u3, rfl, hm'⟩, hy⟩ N hC
    have b1 := hb _ hx
    have b2 := hb _ hy
    have h12 := hd _ hx _ hy
    simp only at b1 b2 h12
    have hC2 : ∀ b : Bool, b = decide (c1 * 64 + k1 < c2 * 64 + k2) → C b s := fun b e => by rw [e]; exact hC
    refine kat_lt (N _ hm).1 rfl (N _ hm').1 rfl ?_
    show KatLex prog w A true (decide ((3 : Nat) < 3)) C [(.int c1 t1, .int c2 u1), (.int k1 t2, .int k2 u2), (.str x1 t3, .str x2 u3)] 0 s
    refine kat_cons (wpAny_eqBool_int ?_)
    by_cases hc : c1 = c2
    · rw [show (c1 == c2) = true by simpa using hc]
      refine kat_yes (kat_cons (wpAny_eqBool_int ?_))
      by_cases hk : k1 = k2
      · rw [show (k1 == k2) = true by simpa using hk]
        have e := h12 hk
        simp only [Prod.mk.injEq] at e
        refine kat_yes (kat_cons (wpAny_eqBool_str ?_))
        rw [decide_eq_true e.2.2]
        refine kat_yes (kat_nil ?_)
        exact hC2 _ (by rw [decide_eq_false (by decide), decide_eq_false (by omega)])
      · rw [show (k1 == k2) = false by simpa using hk]
        refine kat_no ?_
        refine kat_one _ _ (PyProof.Rows.lt_int ?_)
        show C (decide (k1 < k2)) s
        exact hC2 _ (decide_eq_decide.mpr (by omega))
    · rw [show (c1 == c2) = false by simpa using hc]
      refine kat_no (oneLt_int ?_)
      exact hC2 _ (decide_eq_decide.mpr (by omega))

theorem entries_key {prog : Program} {w : World} {h₀ : Heap} {L : Addr} {m : Str → Option Value} {news : List (Addr × Obj)} {xs : List Entry} (hd : ∀ x ∈ xs, ∀ y ∈ xs, x.1 = y.1 → x = y) :
    TupKey prog w h₀ L m news (fun v x => EntryIn news v x ∧ x ∈ xs) (fun x => x.1) := by
  refine ⟨?_, ?_⟩
  · rintro v x ⟨⟨a, n, t1, t2, rfl, hm⟩, _⟩
    exact ⟨a, _, n, x.1, t1, rfl, hm, rfl⟩
  · rintro A s v1 v2 ⟨c1, x1⟩ ⟨c2, x2⟩ C ⟨⟨a, n, t1, t2, rfl, hm⟩, hx⟩ ⟨⟨b, n', u1, u2, rfl, hm'⟩, hy⟩ N hC
    have h12 := hd _ hx _ hy
    refine kat_lt (N _ hm).1 rfl (N _ hm').1 rfl ?_
    show KatLex prog w A true (decide ((2 : Nat) < 2)) C [(.int c1 t1, .int c2 u1), (.str x1 t2, .str x2 u2)] 0 s
    refine kat_cons (wpAny_eqBool_int ?_)
    by_cases hc : c1 = c2
    · rw [show (c1 == c2) = true by simpa using hc]
      have e := h12 hc
      simp only [Prod.mk.injEq] at e
      refine kat_yes (kat_cons (wpAny_eqBool_str ?_))
      rw [decide_eq_true e.2]
      refine kat_yes (kat_nil ?_)
      rw [decide_eq_false (by simp only; omega)] at hC
      exact hC
    · rw [show (c1 == c2) = false by simpa using hc]
      exact kat_no (oneLt_int hC)

theorem keys_inj {α β : Type} {g : α → β} {xs : List α} (hk : xs.Pairwise (fun a b => g a ≠ g b)) : ∀ x ∈ xs, ∀ y ∈ xs, g x = g y → x = y := by
  intro x hx y hy e
  obtain ⟨i, hi, rfl⟩ := List.getElem_of_mem hx
  obtain ⟨j, hj, rfl⟩ := List.getElem_of_mem hy
  rcases Nat.lt_trichotomy i j with h | h | h
  · exact absurd e (List.pairwise_iff_getElem.mp hk i j hi hj h)
  · subst h; rfl
  · exact absurd e.symm (List.pairwise_iff_getElem.mp hk j i hj hi h)
theorem tupKey_mono {α : Type} {prog : Program} {w : World} {h₀ : Heap} {L : Addr} {m : Str → Option Value} {news led : List (Addr × Obj)} {Rel : Value → α → Prop} {key : α → Int} (K : TupKey prog w h₀ L m news Rel key) (hs : ∀ p ∈ news, p ∈ led) : TupKey prog w h₀ L m led Rel key := by
  refine ⟨fun v x h => ?_, fun A s v1 v2 x1 x2 C h1 h2 N hC => K.lt A s v1 v2 x1 x2 C h1 h2 (fun p hp => N p (hs p hp)) hC⟩
  obtain ⟨a, items, n, c, t, e, hm, h0⟩ := K.tup v x h
  exact ⟨a, items, n, c, t, e, hs _ hm, h0⟩
def sortM (marks : List Mark) : List Mark := marks.mergeSort (fun a b => decide (markKey a ≤ markKey b))
theorem sorted_eq {α : Type} {key : α → Int} : ∀ {xs ys : List α}, xs.Perm ys → xs.Pairwise (fun a b => key a ≤ key b) → ys.Pairwise (fun a b => key a ≤ key b) → (∀ a ∈ xs, ∀ b ∈ xs, key a = key b → a = b) → xs = ys
  | [], ys, h, _, _, _ => by rw [List.Perm.nil_eq h]
  | x :: xs, [], h, _, _, _ => absurd h.length_eq (by simp)
  | x :: xs, y :: ys, h, hx, hy, hk => by
    have e : x = y := by
      have h1 : x ∈ y :: ys := h.mem_iff.mp (.head _)
      have h2 : y ∈ x :: xs := h.mem_iff.mpr (.head _)
      refine hk x (.head _) y h2 ?_
      have a1 : key x ≤ key y := by
        rcases List.mem_cons.mp h2 with e | e
        · rw [e]; exact Int.le_refl _
        · exact (List.pairwise_cons.mp hx).1 y e
      have a2 : key y ≤ key x := by
        rcases List.mem_cons.mp h1 with e | e
        · rw [e]; exact Int.le_refl _
        · exact (List.pairwise_cons.mp hy).1 x e
      omega
    subst e
    rw [sorted_eq h.cons_inv (List.pairwise_cons.mp hx).2 (List.pairwise_cons.mp hy).2 fun a ha b hb => hk a (.tail _ ha) b (.tail _ hb)]
theorem sortM_sorted (marks : List Mark) : (sortM marks).Pairwise (fun a b => markKey a ≤ markKey b) := by
  have h := List.pairwise_mergeSort (le := fun a b : Mark => decide (markKey a ≤ markKey b)) (by intro a b c h1 h2; simp only [decide_eq_true_eq] at *; omega) (by intro a b; simp only [Bool.or_eq_true, decide_eq_true_eq]; omega) marks
  exact h.imp fun h => by simpa using h
theorem sortM_perm (marks : List Mark) : (sortM marks).Perm marks := List.mergeSort_perm _ _
theorem sortM_eq {marks zs : List Mark} (hb : ∀ x ∈ marks, 0 ≤ x.2.1 ∧ x.2.1 < 64) (hk : marks.Pairwise (fun a b => a.2.1 ≠ b.2.1)) (hp : zs.Perm marks) (hs : zs.Pairwise (fun a b => markKey a ≤ markKey b)) : zs = sortM marks := by
  refine sorted_eq (hp.trans (sortM_perm marks).symm) hs (sortM_sorted marks) fun a ha b hb' e => ?_
  have h1 := hp.mem_iff.mp ha
  have h2 := hp.mem_iff.mp hb'
  have b1 := hb a h1
  have b2 := hb b h2
  unfold markKey at e
  have e2 : a.2.1 = b.2.1 := by omega
  exact keys_inj hk a h1 b h2 e2
theorem marks_apart {marks : List Mark} (hb : ∀ x ∈ marks, 0 ≤ x.2.1 ∧ x.2.1 < 64) (hk : marks.Pairwise (fun a b => a.2.1 ≠ b.2.1)) : marks.Pairwise (fun a b => markKey a ≠ markKey b) := by
  refine List.Pairwise.imp_of_mem (fun {a b} ha hb' h e => h ?_) hk
  have b1 := hb a ha
  have b2 := hb b hb'
  unfold markKey at e
  omega

/-- the state between two turns of a loop with any target -/
def LpT {σ : Type} (Led : σ → List (Addr × Obj)) (ps : σ → List (Str × Value)) (stored : List Str) (m₀ : Str → Option Value) (P : σ → Prop) (m : Str → Option Value) (nx : List (Addr × Obj)) : Prop :=
  ∃ c : σ, nx = Led c ∧ (∀ p ∈ ps c, m p.1 = some p.2) ∧ (∀ z, (∀ p ∈ ps c, z ≠ p.1) → stored.contains z = false → m z = m₀ z) ∧ P c
/-- a turn's end -/
def StepG (h₀ : Heap) (L : Addr) (J : (Str → Option Value) → List (Addr × Obj) → Prop) (own : List (Addr × Obj)) (s₁ : Shared) (f : Flow) (s₂ : Shared) : Prop :=
  match f with
  | .next => InvEndG h₀ L J own s₁ s₂
  | _ => False
theorem canon_fr {h₀ h : Heap} {L : Addr} {ps : List (Str × Value)} {stored : List Str} {m₀ m₁ : Str → Option Value} (h1 : ∀ p ∈ ps, m₁ p.1 = some p.2) (h2 : ∀ z, (∀ p ∈ ps, z ≠ p.1) → stored.contains z = false → m₁ z = m₀ z)
    (F : Fr h₀ L h m₁) : Fr h₀ L h (kstB (fun z => if stored.contains z then m₁ z else m₀ z) ps) := by
  have em : kstB (fun z => if stored.contains z then m₁ z else m₀ z) ps = m₁ := by
    funext z
    refine kstB_eq h1 fun hz => ?_
    show (if stored.contains z = true then m₁ z else m₀ z) = m₁ z
    cases h3 : stored.contains z with
    | true => rfl
    | false => simp only [Bool.false_eq_true, if_false]; exact (h2 z hz h3).symm
  rw [em]; exact F

section
variable {prog : Program} {w : World} {A : Around} {E : Value → Shared → Prop} {s : Shared} {env : Env} {h₀ : Heap} {target : Expr} {body : List Stmt} {Q : Flow → Shared → Prop}

theorem lpT_end {σ : Type} {Led : σ → List (Addr × Obj)} {ps : σ → List (Str × Value)} {stored : List Str} {m₀ : Str → Option Value} {P : σ → Prop} {L : Addr} {m' : Str → Option Value} {own news' : List (Addr × Obj)} {s₁ : Shared} {h' : Heap} {tk : Nat} (c : σ)
    (F : Fr h₀ L h' m') (N : News h₀ L h' news') (hn : ∀ p ∈ Led c, p ∈ news') (ho : ∀ p ∈ own, p ∈ news') (hoff : OwnOff own ((Led c).map (·.1)))
    (hk : ∀ p ∈ ps c, m' p.1 = some p.2) (hr : ∀ z, (∀ p ∈ ps c, z ≠ p.1) → stored.contains z = false → m' z = m₀ z) (hp : P c) :
    StepG h₀ L (LpT Led ps stored m₀ P) own s₁ .next { s₁ with heap := h', toks := tk } :=
  ⟨h', tk, m', news', Led c, rfl, F, N, hn, ho, hoff, c, rfl, hk, hr, hp⟩

theorem lpT_list {σ : Type} {l : Addr} {vs : List Value} {nn : Nat} {m₀ : Str → Option Value} {news : List (Addr × Obj)} (Led : σ → List (Addr × Obj)) (ps : σ → List (Str × Value)) (stored : List Str) (P : Nat → σ → Prop) (c₀ : σ)
    (hh : A.handled = none) (hl : ∀ c, (l, listOf vs.toArray nn) ∈ Led c) (F : Fr h₀ env.locals s.heap m₀) (N : News h₀ env.locals s.heap news) (hn : ∀ p ∈ Led c₀, p ∈ news)
    (hk : ∀ p ∈ ps c₀, m₀ p.1 = some p.2) (hp : P 0 c₀)
    (turn : ∀ (c : σ) (i : Nat) v (u : Str → Option Value) (s₁ : Shared) own, vs[i]? = some v → OwnOff own ((Led c).map (·.1)) → P i c →
      Fr h₀ env.locals s₁.heap (kstB (fun z => if stored.contains z then u z else m₀ z) (ps c)) → News h₀ env.locals s₁.heap (Led c ++ own) →
      wpAny (model prog w) A (assign target env v) (fun _ s₃ => wpAny (model prog w) A (execs body env) (StepG h₀ env.locals (LpT Led ps stored m₀ (P (i + 1))) own s₁) E s₃) E s₁)
    (done : ∀ (c : σ) (u : Str → Option Value) h tk, P vs.length c → Fr h₀ env.locals h (kstB (fun z => if stored.contains z then u z else m₀ z) (ps c)) → News h₀ env.locals h (Led c) → Q .next { s with heap := h, toks := tk })
    (hgo : ∀ i (s' : Shared) (v : Value) (Q' : Unit → Shared → Prop), s'.heap.IsListIter s.heap.objs.size l i → Q' () s' → wpAny (model prog w) A (letOwnedTupleGo target (.ref s.heap.objs.size) v) Q' E s') :
    wpAny (model prog w) A (pyIter (.ref l)) (fun it s₂ => LoopAtT prog w A h₀ env target body Q E it s₂) E s := by
  have hlN := hn _ (hl c₀)
  have hol : s.heap.get? l = some (listOf vs.toArray nn) := (N _ hlN).1
  have hls : s.heap.IsList l vs.toArray := ⟨_, hol, rfl, nn, rfl⟩
  have hne : l ≠ s.heap.objs.size := Nat.ne_of_lt (Heap.lt_size hol)
  refine wpAny_pyIter_list hls ?_
  have W := Walks.list (prog := prog) (w := w) hh s.heap.objs.size l hne vs.toArray
  have hlen : vs.toArray.size = vs.length := by simp
  rw [hlen] at W
  refine ⟨_, _, _, vs.length, _, _, m₀, Led c₀, (fun i m nx => LpT Led ps stored m₀ (P i) m nx), rfl, W, ?_, ?_, ?_, ⟨⟨_, Heap.get?_push_size _ rfl, rfl, rfl⟩, hls.at fun o e => Heap.get?_push_of_some _ e⟩, F.push _, (fun p hp => ⟨Heap.get?_push_of_some _ (N p (hn p hp)).1, (N p (hn p hp)).2⟩), (fun i s' v Q' st hQ' => hgo i s' v Q' st.1 hQ'), ⟨c₀, rfl, hk, fun _ _ _ => rfl, hp⟩, ?_, ?_⟩
  · intro hm
    rcases List.mem_cons.mp hm with e | hm
    · exact absurd F.ns.lt (e ▸ Nat.lt_irrefl _)
    · exact (N _ hlN).2.1 ((List.mem_singleton.mp hm).symm)
  · intro b hb
    rw [List.mem_singleton.mp hb]
    exact next_is_new F
  · intro p hp hI
    exact absurd (Heap.lt_size (N p (hn p hp)).1) ((List.mem_singleton.mp hI) ▸ Nat.lt_irrefl _)
  · rintro i v m₁ news₁ s₁ own hin hP ⟨c, rfl, h1, h2, hp'⟩ hoff hown hget hfp hst F₁ N₁
    have hP' : vs[i]? = some v := by simpa using hP
    have hI0 : h₀.get? s.heap.objs.size = none := next_is_new F
    obtain ⟨⟨oI, hoI, _⟩, _⟩ := id hst
    have hIown : (s.heap.objs.size, oI) ∈ own.filter fun p => decide (p.1 = s.heap.objs.size) := List.mem_filter.mpr ⟨hfp _ (List.mem_cons.mpr (.inl rfl)) hI0 _ hoI, by simp⟩
    have hsep : OwnOff (own.filter fun p => decide (p.1 = s.heap.objs.size)) ((Led c).map (·.1)) := by
      intro p hp b hb e
      obtain ⟨q, hq, rfl⟩ := List.mem_map.mp hb
      have h1 : p.1 = s.heap.objs.size := by simpa using (List.mem_filter.mp hp).2
      exact hoff q hq (List.mem_singleton.mpr (e ▸ h1))
    have N₂ : News h₀ env.locals s₁.heap (Led c ++ own.filter fun p => decide (p.1 = s.heap.objs.size)) := fun p hp => N₁ p ((List.mem_append.mp hp).elim (fun h => List.mem_append.mpr (.inr h)) fun h => List.mem_append.mpr (.inl ((List.mem_filter.mp h).1)))
    have hlo : s₁.heap.get? l = some (listOf vs.toArray nn) := (N₁ _ (List.mem_append.mpr (.inr (hl c)))).1
    refine wpAny_mono (turn c i v m₁ s₁ _ hP' hsep hp' (canon_fr h1 h2 F₁) N₂) (fun _ s₃ p => wpAny_mono p (fun f s₂ p => ?_) fun _ _ e => e) fun _ _ e => e
    cases f with
    | ret v => exact p.elim
    | brk => exact p.elim
    | cont => exact p.elim
    | next =>
      obtain ⟨h', tk, m', news', nx, e, F', N', hn', ho, ha, hm⟩ := p
      refine ⟨rfl, h', tk, m', nx, e, F', fun p hp => ?_, fun p hp hq => ?_, hm⟩
      · rcases List.mem_append.mp hp with h | h
        · by_cases hI : p.1 = s.heap.objs.size
          · exact N' p (ho p (List.mem_filter.mpr ⟨h, by simpa using hI⟩))
          · have h1 : p.1 = l := by
              rcases List.mem_cons.mp (hown p h) with h2 | h2
              · exact absurd h2 hI
              · exact List.mem_singleton.mp h2
            have h2 : s₁.heap.get? p.1 = some p.2 := hget p h
            rw [h1, hlo] at h2
            have h3 : p = (l, listOf vs.toArray nn) := Prod.ext h1 (Option.some.inj h2).symm
            rw [h3]
            obtain ⟨c', rfl, _⟩ := hm
            exact N' _ (hn' _ (hl c'))
        · exact N' p (hn' p h)
      · exact ha _ hIown p.1 (List.mem_map.mpr ⟨p, hp, rfl⟩) (List.mem_singleton.mp hq).symm
  · rintro h' tk m' news' F' N' _ ⟨c, rfl, h1, h2, hp'⟩
    exact done c m' h' tk hp' (canon_fr h1 h2 F') N'

theorem lpT_range {σ : Type} {x : Str} {px : Pos} {r : Addr} {a₀ b₀ : Int} {t₀ u₀ v₀ : Tok} {n : Nat} {m₀ : Str → Option Value} {news : List (Addr × Obj)} (Led : σ → List (Addr × Obj)) (ps : σ → List (Str × Value)) (stored : List Str) (P : Nat → σ → Prop) (c₀ : σ)
    (hh : A.handled = none) (hr : IsRange s.heap r a₀ b₀ 1 t₀ u₀ v₀) (hsmall : Builtin.Range.small a₀ b₀ 1 = true) (hsz : Builtin.Range.rangeSize a₀ b₀ 1 = (n : Int)) (F : Fr h₀ env.locals s.heap m₀) (N : News h₀ env.locals s.heap news) (hn : ∀ p ∈ Led c₀, p ∈ news)
    (hk : ∀ p ∈ ps c₀, m₀ p.1 = some p.2) (hp : P 0 c₀)
    (turn : ∀ (c : σ) (i : Nat) t (u : Str → Option Value) (s₁ : Shared) own, i < n → OwnOff own ((Led c).map (·.1)) → P i c →
      Fr h₀ env.locals s₁.heap (kstB (fun z => if stored.contains z then u z else m₀ z) (ps c)) → News h₀ env.locals s₁.heap (Led c ++ own) →
      wpAny (model prog w) A (assign (.Name x px) env (.int (a₀ + (i : Int)) t)) (fun _ s₃ => wpAny (model prog w) A (execs body env) (StepG h₀ env.locals (LpT Led ps stored m₀ (P (i + 1))) own s₁) E s₃) E s₁)
    (done : ∀ (c : σ) (u : Str → Option Value) h tk, P n c → Fr h₀ env.locals h (kstB (fun z => if stored.contains z then u z else m₀ z) (ps c)) → News h₀ env.locals h (Led c) → Q .next { s with heap := h, toks := tk }) :
    wpAny (model prog w) A (pyIter (.ref r)) (fun it s₂ => LoopAtT prog w A h₀ env (.Name x px) body Q E it s₂) E s := by
  refine wpAny_pyIter_range hr hsmall ?_
  have W : Walks prog w A s.heap.objs.size [s.heap.objs.size] [s.heap.objs.size] n (fun i v => i < n ∧ ∃ t, v = .int (a₀ + i * 1) t)
      (fun i h => IsRangeIter h s.heap.objs.size (a₀ + (i : Nat) * 1) ((n : Int) - (i : Nat)) 1) := (Walks.range hh _ a₀ 1 n).bound
  refine ⟨_, _, _, n, _, _, m₀, Led c₀, (fun i m nx => LpT Led ps stored m₀ (P i) m nx), rfl, W, ?_, ?_, ?_, (by show IsRangeIter _ _ _ _ _; rw [hsz]; simpa using Heap.get?_push_size _ rfl), F.push _, (fun p hp => ⟨Heap.get?_push_of_some _ (N p (hn p hp)).1, (N p (hn p hp)).2⟩), (fun i s' v Q' st hQ' => wpAny_pure hQ'), ⟨c₀, rfl, hk, fun _ _ _ => rfl, hp⟩, ?_, ?_⟩
  · intro hm
    exact absurd F.ns.lt ((List.mem_singleton.mp hm) ▸ Nat.lt_irrefl _)
  · intro b hb
    rw [List.mem_singleton.mp hb]
    exact next_is_new F
  · intro p hp hI
    exact absurd (Heap.lt_size (N p (hn p hp)).1) ((List.mem_singleton.mp hI) ▸ Nat.lt_irrefl _)
  · rintro i v m₁ news₁ s₁ own hin ⟨_, t, rfl⟩ ⟨c, rfl, h1, h2, hp'⟩ hoff hown hget hfp hst F₁ N₁
    have hI0 : h₀.get? s.heap.objs.size = none := next_is_new F
    have hIown : (s.heap.objs.size, _) ∈ own := hfp _ (List.mem_singleton.mpr rfl) hI0 _ hst
    have hsep : OwnOff own ((Led c).map (·.1)) := by
      intro p hp b hb e
      obtain ⟨q, hq, rfl⟩ := List.mem_map.mp hb
      exact hoff q hq (e ▸ hown p hp)
    have N₂ : News h₀ env.locals s₁.heap (Led c ++ own) := fun p hp => N₁ p ((List.mem_append.mp hp).elim (fun h => List.mem_append.mpr (.inr h)) fun h => List.mem_append.mpr (.inl h))
    have e1 : a₀ + (i : Int) * 1 = a₀ + (i : Int) := by omega
    rw [e1]
    refine wpAny_mono (turn c i t m₁ s₁ own hin hsep hp' (canon_fr h1 h2 F₁) N₂) (fun _ s₃ p => wpAny_mono p (fun f s₂ p => ?_) fun _ _ e => e) fun _ _ e => e
    cases f with
    | ret v => exact p.elim
    | brk => exact p.elim
    | cont => exact p.elim
    | next =>
      obtain ⟨h', tk, m', news', nx, e, F', N', hn', ho, ha, hm⟩ := p
      refine ⟨rfl, h', tk, m', nx, e, F', fun p hp => ?_, fun p hp hq => ?_, hm⟩
      · exact N' p ((List.mem_append.mp hp).elim (ho p) (hn' p))
      · exact ha _ hIown p.1 (List.mem_map.mpr ⟨p, hp, rfl⟩) (List.mem_singleton.mp hq).symm
  · rintro h' tk m' news' F' N' _ ⟨c, rfl, h1, h2, hp'⟩
    exact done c m' h' tk hp' (canon_fr h1 h2 F') N'
end

def colMarks (sm : List Mark) (c : Int) : List Str := (sm.filter (fun x => x.1 == c)).map (fun x => x.2.2)
def colCell (cells : List Cell) (first stop last : Int) (fill : Str) (c : Int) : List Str :=
  if c < stop then
    match cells.filter (fun x => x.1 == c) with
    | x :: _ => [x.2.1]
    | [] => if first ≤ c ∧ c ≤ last ∧ isWithin cells c = false then [fill] else []
  else []

/-- what the law is handed -/
structure WArgs (cells : List Cell) (marks : List Mark) : Prop where
  clen : cells.length ≤ 8
  mlen : marks.length ≤ 6
  ccol : ∀ c ∈ cells, 0 ≤ c.1 ∧ c.1 < 64 ∧ c.2.1.length ≤ 32
  mcol : ∀ x ∈ marks, 0 ≤ x.1 ∧ x.1 < 100 ∧ 0 ≤ x.2.1 ∧ x.2.1 < 64 ∧ x.2.2.length ≤ 32
  mkey : marks.Pairwise (fun a b => a.2.1 ≠ b.2.1)

def StrV (v : Value) (x : Str) : Prop := ∃ t, v = Value.str x t
def colOut (cells : List Cell) (sm : List Mark) (first stop last : Int) (fill : Str) (c : Int) : List Str := colMarks sm c ++ colCell cells first stop last fill c
def outTo (f : Nat → List Str) (n : Nat) : List Str := (List.range n).flatMap f
theorem outTo_succ (f : Nat → List Str) (n : Nat) : outTo f (n + 1) = outTo f n ++ f n := by
  unfold outTo
  rw [List.range_succ, List.flatMap_append]
  simp

def writtenText (cells : List Cell) (marks : List Mark) (first stop : Int) (fill : Str) : List Str :=
  outTo (fun j => colOut cells (sortM marks) first stop (maxD (-1) (cells.map (fun c => c.1))) fill (j : Int)) ((if stop < maxD (maxD (-1) (cells.map (fun c => c.1))) (marks.map (fun x => x.1)) then stop else maxD (maxD (-1) (cells.map (fun c => c.1))) (marks.map (fun x => x.1))) + 1).toNat ++
  outTo (fun j => colMarks (sortM marks) ((if stop < maxD (maxD (-1) (cells.map (fun c => c.1))) (marks.map (fun x => x.1)) then stop else maxD (maxD (-1) (cells.map (fun c => c.1))) (marks.map (fun x => x.1))) + 1 + (j : Int))) (maxD (maxD (-1) (cells.map (fun c => c.1))) (marks.map (fun x => x.1)) - (if stop < maxD (maxD (-1) (cells.map (fun c => c.1))) (marks.map (fun x => x.1)) then stop else maxD (maxD (-1) (cells.map (fun c => c.1))) (marks.map (fun x => x.1)))).toNat

structure WSt where
  pa : Addr
  pv : List Value
  pn : Nat
  txt : List Str
  oc : Obj
  cv : Option Value
structure WInv (pre : List Str) (k : Nat) (f : Nat → List Str) (news : List (Addr × Obj)) (cc : Addr) (i : Nat) (c : WSt) : Prop where
  htxt : c.txt = pre ++ outTo f i
  hstrs : Paired StrV c.pv c.txt
  hcell : c.oc.data = .cell c.cv
  off : ∀ p ∈ news, p.1 ≠ c.pa
  offc : @Ne Nat cc c.pa
  len : c.txt.length ≤ 8 * (k + i)
  short : ∀ x ∈ c.txt, x.length ≤ 32

theorem strV_of {α : Type} {g : α → Str} {xs : List α} {ys : List Value} (h : Paired (fun x y => ∃ t, y = Value.str (g x) t) xs ys) : Paired StrV ys (xs.map g) := by
  induction h with
  | nil => exact .nil
  | cons h1 _ ih => exact .cons h1 ih
theorem wstep {pre : List Str} {k : Nat} {f : Nat → List Str} {news : List (Addr × Obj)} {cc Dp : Addr} {i n' : Nat} {c : WSt} {ys ev : List Value} {ms ex : List Str} {oc' : Obj} {cv' : Option Value} (hI : WInv pre k f news cc i c) (hf : f i = ms ++ ex) (hys : Paired StrV ys ms) (hex : Paired StrV ev ex) (hl1 : ms.length ≤ 6) (hl2 : ex.length ≤ 1)
    (hs1 : ∀ x ∈ ms, x.length ≤ 32) (hs2 : ∀ x ∈ ex, x.length ≤ 32) (hoff : ∀ p ∈ news, p.1 ≠ Dp) (hoffc : @Ne Nat cc Dp) (hcell : oc'.data = .cell cv') :
    WInv pre k f news cc (i + 1) ⟨Dp, c.pv ++ ys ++ ev, n', c.txt ++ (ms ++ ex), oc', cv'⟩ := by
  obtain ⟨itxt, istr, icell, ioff, ioffc, ilen, ishort⟩ := hI
  refine ⟨?_, ?_, hcell, hoff, hoffc, ?_, ?_⟩
  · show c.txt ++ (ms ++ ex) = pre ++ outTo f (i + 1)
    rw [outTo_succ, itxt, hf, List.append_assoc]
  · show Paired StrV (c.pv ++ ys ++ ev) (c.txt ++ (ms ++ ex))
    rw [List.append_assoc]
    exact paired_append istr (paired_append hys hex)
  · show (c.txt ++ (ms ++ ex)).length ≤ 8 * (k + (i + 1))
    simp only [List.length_append]; omega
  · intro x hx
    rcases List.mem_append.mp hx with hx | hx
    · exact ishort x hx
    · exact (List.mem_append.mp hx).elim (hs1 x) (hs2 x)
theorem wstep0 {pre : List Str} {k : Nat} {f : Nat → List Str} {news : List (Addr × Obj)} {cc Dp : Addr} {i n' : Nat} {c : WSt} {ys : List Value} {ms : List Str} {oc' : Obj} {cv' : Option Value} (hI : WInv pre k f news cc i c) (hf : f i = ms) (hys : Paired StrV ys ms) (hl1 : ms.length ≤ 6)
    (hs1 : ∀ x ∈ ms, x.length ≤ 32) (hoff : ∀ p ∈ news, p.1 ≠ Dp) (hoffc : @Ne Nat cc Dp) (hcell : oc'.data = .cell cv') :
    WInv pre k f news cc (i + 1) ⟨Dp, c.pv ++ ys, n', c.txt ++ ms, oc', cv'⟩ := by
  have h := wstep (n' := n') (ev := []) (ex := []) hI (by rw [hf, List.append_nil]) hys .nil hl1 (Nat.zero_le _) hs1 (fun _ h => nomatch h) hoff hoffc hcell
  rw [List.append_nil, List.append_nil] at h
  exact h
theorem colOut_none {cells : List Cell} {sm : List Mark} {first stop last : Int} {fill : Str} {c : Int} (h : ¬ c < stop ∨ (cells.filter (fun x => x.1 == c) = [] ∧ (¬ first ≤ c ∨ ¬ c ≤ last ∨ isWithin cells c = true))) : colOut cells sm first stop last fill c = colMarks sm c := by
  unfold colOut colCell
  by_cases h1 : c < stop
  · rw [if_pos h1]
    rcases h with h | ⟨h2, h3⟩
    · exact absurd h1 h
    · rw [h2]
      dsimp only
      rw [if_neg (by rintro ⟨a, b, d⟩; rcases h3 with h3 | h3 | h3; exact h3 a; exact h3 b; rw [d] at h3; cases h3), List.append_nil]
  · rw [if_neg h1, List.append_nil]
theorem colOut_fill {cells : List Cell} {sm : List Mark} {first stop last : Int} {fill : Str} {c : Int} (h1 : c < stop) (h2 : cells.filter (fun x => x.1 == c) = []) (h3 : first ≤ c) (h4 : c ≤ last) (h5 : isWithin cells c = false) : colOut cells sm first stop last fill c = colMarks sm c ++ [fill] := by
  unfold colOut colCell
  rw [if_pos h1, h2]
  dsimp only
  rw [if_pos ⟨h3, h4, h5⟩]
theorem colOut_cell {cells : List Cell} {sm : List Mark} {first stop last : Int} {fill : Str} {c : Int} {x : Cell} {r : List Cell} (h1 : c < stop) (h2 : cells.filter (fun x => x.1 == c) = x :: r) : colOut cells sm first stop last fill c = colMarks sm c ++ [x.2.1] := by
  unfold colOut colCell
  rw [if_pos h1, h2]
theorem w_in {e1 e2 e3 : Addr × Obj} {news own rest' : List (Addr × Obj)} (h : news ++ own = rest') : ∀ p ∈ e1 :: e2 :: news, p ∈ e3 :: e1 :: e2 :: rest' := by
  subst h; intro p hp; simp only [List.mem_cons, List.mem_append] at hp ⊢; grind
theorem w_own {e1 e2 e3 : Addr × Obj} {news own rest' : List (Addr × Obj)} (h : news ++ own = rest') : ∀ p ∈ own, p ∈ e3 :: e1 :: e2 :: rest' := by
  subst h; intro p hp; simp only [List.mem_cons, List.mem_append]; grind
theorem w_in2 {e1 e2 : Addr × Obj} {news own rest' : List (Addr × Obj)} (h : news ++ own = rest') : ∀ p ∈ e1 :: e2 :: news, p ∈ e1 :: e2 :: rest' := by
  subst h; intro p hp; simp only [List.mem_cons, List.mem_append] at hp ⊢; grind
theorem w_own2 {e1 e2 : Addr × Obj} {news own rest' : List (Addr × Obj)} (h : news ++ own = rest') : ∀ p ∈ own, p ∈ e1 :: e2 :: rest' := by
  subst h; intro p hp; simp only [List.mem_cons, List.mem_append]; grind
theorem colMarks_ok {cells : List Cell} {marks : List Mark} (hA : WArgs cells marks) (c : Int) : (colMarks (sortM marks) c).length ≤ 6 ∧ ∀ x ∈ colMarks (sortM marks) c, x.length ≤ 32 := by
  refine ⟨?_, fun x hx => ?_⟩
  · unfold colMarks
    rw [List.length_map]
    refine Nat.le_trans (List.length_filter_le _ _) ?_
    rw [(sortM_perm marks).length_eq]; exact hA.mlen
  · unfold colMarks at hx
    obtain ⟨y, hy, rfl⟩ := List.mem_map.mp hx
    have h1 := (sortM_perm marks).mem_iff.mp (List.mem_filter.mp hy).1
    exact (hA.mcol y h1).2.2.2.2

theorem strsAre_of {vs : List Value} {ys : List Str} (h : Paired StrV vs ys) : StrsAre vs ys := by
  induction h with
  | nil => constructor
  | cons h1 _ ih => obtain ⟨t, rfl⟩ := h1; constructor; exact ih
section
variable {prog : Program} {w : World} {A : Around} {E : Value → Shared → Prop} {s : Shared} {h₀ : Heap} {L : Addr} {news : List (Addr × Obj)}
theorem join_L {D : Addr} {vs : List Value} {n : Nat} {ys : List Str} {t : Tok} {Q : Value → Shared → Prop} (N : News h₀ L s.heap news) (hm : (D, listOf vs.toArray n) ∈ news) (hp : Paired StrV vs ys) (hn : ys.length ≤ 4000) (hs : ∀ y ∈ ys, y.length ≤ 32)
    (h : ∀ t' k, Q (.str (Txt.join (Str.ofString "") ys) t') { s with toks := k }) : wpAny (model prog w) A (call (.builtin "str.join") [.str (Str.ofString "") t, .ref D]) Q E s := by
  have h1 := StrLaws.sumLen_le ys hs
  refine join_listW (list_led N hm) (by simpa using strsAre_of hp) (by decide) ?_ h
  omega
end

set_option maxRecDepth 100000 in
set_option maxHeartbeats 8000000 in
theorem written_ok (w : World) (loose : List Str) (mean : ExcName → Option Value) (mg mb : Str → Option Value)
   (R M : Addr) (rv mv : List Value) (nr nm : Nat) (cells : List Cell) (marks : List Mark) (first stop : Int) (fill : Str) (t1 t2 t3 : Tok) (news : List (Addr × Obj))
   (hR : (R, listOf rv.toArray nr) ∈ news) (hP : Paired (CellIn news) rv cells) (hM : (M, listOf mv.toArray nm) ∈ news) (hMP : Paired (MarkIn news) mv marks) (hA : WArgs cells marks) (hf0 : 0 ≤ first) (hf1 : first < 100) (hs0 : 0 ≤ stop) (hs1 : stop < 200) (hfl : fill.length ≤ 32) :
   CallOK w loose mean mg mb 45 2 [.ref R, .ref M, .int first t1, .int stop t2, .str fill t3] news (fun v news' => (∃ t, v = Value.str (Txt.join (Str.ofString "") (writtenText cells marks first stop fill)) t) ∧ news' = news) := by
  w_top off
  unfold CallOK
  k_fill
  intro dp un gd cn cs a ccd cl outer A₀ base h₀ L m s Q E B F X N T hk hd hu hret
  refine wpAny_call ?_
  k_dflt k_enter
  k_steps
  rename_i g' L' _ _ FG' B' X' T' l1 oc dc P0 _ lP h0 F0 N0
  unfold Hold
  have hcl : rv.length = cells.length := hP.length
  have hml : mv.length = marks.length := hMP.length
  have hc8 := hA.clen
  have hm6 := hA.mlen
  k_dflt (refine comp_eval F0 (CellIn news) (fun _ => true) (fun c y => ∃ t, y = Value.int c.1 t) (cellIn_fun N) (by with_unfolding_all rfl) (by decide) (by rfl) (by decide) (by rfl) ?_)
  k_steps
  refine ⟨R, rv, cells, _, rfl, rfl, by assumption, by assumption, list_led (by assumption) (.tail _ (.tail _ hR)), by omega, hP, ⟨?_, ?_⟩, ?_⟩
  · intro C oC v d s₃ m₃ E' hv F3 N3 hns hm3
    exact wpAny_tests_nil ⟨rfl, _, _, rfl, fun _ _ e => e⟩
  · intro C oC v d s₃ m₃ E' hv hpc F3 N3 hns hm3
    obtain ⟨a, n, u1, u2, u3, rfl, hm⟩ := hv
    k_steps
    all_goals first | exact ⟨_, rfl⟩ | exact ⟨_, _, rfl, fun _ _ e => e⟩
  intro ys hys D1 h1 tk1 n1 F1 N1 hD1
  rw [filter_true] at hys
  have hy1 := ints_of_paired hys
  have hyl := hy1.length
  rw [List.length_map] at hyl
  k_steps
  rename_i lm _ _ _ l2 Ds _ F2 N2 lDs
  unfold Hold
  refine kso_max F2 N2 (list_led N2 (.head _)) (hy1.append (.cons (-1) _ .nil)) (by simp) rfl fun h3 last tl tk3 F3 N3 hin hge => ?_
  have hlast : last = maxD (-1) (cells.map (fun c => c.1)) := eq_maxD hin hge
  clear N2 F2 hin hge
  k_steps
  rename_i h4 F4 N4'
  have N4 : News g' L' h4 ((P0, listOf #[] 0) :: (L' + 1, oc) :: news) := cb_drop N4' fun p hp => .tail _ (.tail _ (.tail _ hp))
  clear N4'
  unfold Hold
  k_dflt (refine comp_eval F4 (MarkIn news) (fun _ => true) (fun x y => ∃ t, y = Value.int x.1 t) (markIn_fun N) (by with_unfolding_all rfl) (by decide) (by rfl) (by decide) (by rfl) ?_)
  k_steps
  refine ⟨M, mv, marks, _, rfl, rfl, by assumption, N4, list_led N4 (.tail _ (.tail _ hM)), by omega, hMP, ⟨?_, ?_⟩, ?_⟩
  · intro C oC v d s₃ m₃ E' hv F3 N3 hns hm3
    exact wpAny_tests_nil ⟨rfl, _, _, rfl, fun _ _ e => e⟩
  · intro C oC v d s₃ m₃ E' hv hpc F3 N3 hns hm3
    obtain ⟨a, n, u1, u2, u3, rfl, hm⟩ := hv
    k_steps
    all_goals first | exact ⟨_, rfl⟩ | exact ⟨_, _, rfl, fun _ _ e => e⟩
  intro ys2 hys2 D2 h5 tk5 n5 F5 N5 hD2
  rw [filter_true] at hys2
  have hy2 := ints_of_paired hys2
  have hyl2 := hy2.length
  rw [List.length_map] at hyl2
  k_steps
  rename_i lm2 _ _ _ l22 Ds2 _ F6 N6 lDs2
  unfold Hold
  refine kso_max F6 N6 (list_led N6 (.head _)) (hy2.append (.cons last _ .nil)) (by simp) rfl fun h7 top tl7 tk7 F7 N7' hin hge => ?_
  have htop : top = maxD last (marks.map (fun x => x.1)) := eq_maxD hin hge
  have N7 : News g' L' h7 ((P0, listOf #[] 0) :: (L' + 1, oc) :: news) := cb_drop N7' fun p hp => .tail _ (.tail _ (.tail _ hp))
  clear F6 N6 N7' hin hge
  k_steps
  rename_i h8 F8 N8
  k_dflt (refine For_invTF F8 ?_ (by intro _; rfl))
  k_steps
  rename_i hRg F9 N9
  unfold Hold
  generalize hlim : (if stop < top then stop else top) = lim at hRg
  have hlast0 : -1 ≤ last := by rw [hlast]; exact maxD_ge
  have hlast1 : last ≤ 100 := by
    rw [hlast]
    refine maxD_le (by decide) fun x hx => ?_
    obtain ⟨y, hy, rfl⟩ := List.mem_map.mp hx
    have := (hA.ccol y hy).2.1
    omega
  have htop0 : -1 ≤ top := by rw [htop]; exact Int.le_trans hlast0 maxD_ge
  have htop1 : top ≤ 100 := by
    rw [htop]
    refine maxD_le hlast1 fun x hx => ?_
    obtain ⟨y, hy, rfl⟩ := List.mem_map.mp hx
    have := (hA.mcol y hy).2.1
    omega
  have hlim0 : -1 ≤ lim ∧ lim ≤ 200 := by rw [← hlim]; split <;> omega
  have lP1 := lP.1
  have lPn := allLt_ne lP.2
  have hcc : ∀ p ∈ news, p.1 ≠ L' + 1 := fun p hp e => absurd (l1 p hp) (by rw [e]; exact Nat.not_lt.mpr (Nat.le_succ _))
  obtain ⟨cv0, hcv0⟩ : ∃ v, oc.data = .cell v := ⟨_, dc⟩
  refine lpT_range (σ := WSt) (n := (lim + 1).toNat) (fun c => (c.pa, listOf c.pv.toArray c.pn) :: (L' + 1, c.oc) :: news) (fun c => [(Str.ofString "parts", .ref c.pa)]) [Str.ofString "found"] (WInv [] 0 (fun j => colOut cells (sortM marks) first stop last fill (j : Int)) news (L' + 1))
    ⟨P0, [], 0, [], oc, cv0⟩ rfl hRg ?_ ?_ F9 N9 ?_ ?_ ?_ ?_ ?_
  · exact small_one (by decide) (by decide) (by omega) (by omega)
  · rw [rangeSize_nat, Int.sub_zero]
  · intro p hp; exact hp
  · intro p hp; rw [List.mem_singleton.mp hp]; rfl
  · exact ⟨rfl, .nil, hcv0, lPn, Nat.ne_of_lt lP1, Nat.le_refl _, (fun _ h => nomatch h)⟩
  · intro c i tC u s1 own hin hoff hI F10 N10
    have hI0 := hI
    obtain ⟨itxt, istr, icell, ioff, ioffc, ilen, ishort⟩ := hI0
    have hpl : c.pv.length = c.txt.length := istr.length
    have N11 : News g' L' s1.heap ((c.pa, listOf c.pv.toArray c.pn) :: (L' + 1, c.oc) :: (news ++ own)) := N10
    generalize hrest : news ++ own = rest' at N11
    have q1 : ∀ p ∈ rest', p.1 ≠ c.pa := by
      intro p hp
      rw [← hrest] at hp
      exact (List.mem_append.mp hp).elim (ioff p) fun hp => hoff p hp _ (.head _)
    have q2 : ∀ p ∈ rest', p.1 ≠ L' + 1 := by
      intro p hp
      rw [← hrest] at hp
      exact (List.mem_append.mp hp).elim (hcc p) fun hp => hoff p hp _ (.tail _ (.head _))
    clear N10
    generalize hcol : (0 : Int) + (i : Int) = col
    k_steps
    rename_i h11 oc' F11 N12 hoc'
    unfold Hold
    have sub : ∀ p ∈ news, p ∈ (c.pa, listOf c.pv.toArray c.pn) :: (L' + 1, oc') :: rest' := fun p hp => .tail _ (.tail _ (by rw [← hrest]; exact List.mem_append_left _ hp))
    k_dflt (refine comp_eval F11 (MarkIn news) (fun x => x.1 == col) (fun x y => ∃ t, y = Value.str x.2.2 t) (markIn_fun N) (by with_unfolding_all rfl) (by decide) (by rfl) (by decide) (by rfl) ?_)
    k_steps
    unfold Hold
    have hmb : ∀ x ∈ marks, 0 ≤ x.2.1 ∧ x.2.1 < 64 := fun x hx => ⟨(hA.mcol x hx).2.2.1, (hA.mcol x hx).2.2.2.1⟩
    refine sorted_T F11 N12 (sub _ hM) (tupKey_mono (marks_key hmb (keys_inj hA.mkey)) sub) (paired_mem hMP) (marks_apart hmb hA.mkey) (by omega) fun DS cS hS vS zs FS NS lS pS permS srtS lenS => ?_
    obtain rfl := sortM_eq hmb hA.mkey permS srtS
    have subS : ∀ p ∈ news, p ∈ (DS, listOf vS.toArray cS) :: (c.pa, listOf c.pv.toArray c.pn) :: (L' + 1, oc') :: rest' := fun p hp => .tail _ (sub p hp)
    refine ⟨DS, vS, sortM marks, _, rfl, rfl, FS, NS, list_led NS (.head _), by omega, paired_unmem pS, ⟨?_, ?_⟩, ?_⟩
    · intro C oC v d s₃ m₃ E' hv F3 N3 hns hm3
      obtain ⟨a, n, u1, u2, u3, rfl, hm⟩ := hv
      have hm4 := subS _ hm
      clear hm
      refine wpAny_tests_one ?_
      k_steps
      all_goals first | exact ⟨_, _, rfl, fun _ _ e => e⟩ | (simp_all; done)
    · intro C oC v d s₃ m₃ E' hv hpc F3 N3 hns hm3
      obtain ⟨a, n, u1, u2, u3, rfl, hm⟩ := hv
      have hm4 := subS _ hm
      clear hm
      k_steps
      all_goals first | exact ⟨_, rfl⟩ | exact ⟨_, _, rfl, fun _ _ e => e⟩
    intro ys3 hys3 D3 h13 tk13 n13 F13 N13 hD3
    have hy3 : ys3.length ≤ 6 := by
      rw [← hys3.length]
      refine Nat.le_trans (List.length_filter_le _ _) ?_
      rw [(sortM_perm marks).length_eq]; exact hm6
    have hpv : c.pv.length ≤ 8 * i := by omega
    k_steps
    rename_i Dp _ lDp h14 F14 N14'
    have N14 : News g' L' h14 ((Dp, listOf (c.pv ++ ys3).toArray 0) :: (L' + 1, oc') :: rest') := cb_drop N14' fun p hp => by
      rcases List.mem_cons.mp hp with rfl | hp
      · exact .head _
      · exact .tail _ (.tail _ (.tail _ (.tail _ hp)))
    clear N14'
    have sub2 : ∀ p ∈ news, p ∈ (Dp, listOf (c.pv ++ ys3).toArray 0) :: (L' + 1, oc') :: rest' := fun p hp => .tail _ (.tail _ (by rw [← hrest]; exact List.mem_append_left _ hp))
    unfold Hold
    k_dflt (refine comp_assign F14 (CellIn news) (fun x => x.1 == col) (fun x y => CellIn news y x) (cellIn_fun N) (by rfl) (by with_unfolding_all rfl) (by decide) (by rfl) (by decide) (by rfl) (by rfl) (by rfl) (by rfl) ?_)
    k_steps
    refine ⟨R, rv, cells, _, rfl, rfl, F14, N14, list_led N14 (sub2 _ hR), by omega, hP, ⟨?_, ?_⟩, ?_⟩
    · intro C oC v d s₃ m₃ E' hv F3 N3 hns hm3
      obtain ⟨a, n, u1, u2, u3, rfl, hm⟩ := hv
      have hm4 := sub2 _ hm
      clear hm
      refine wpAny_tests_one ?_
      k_steps
      all_goals first | exact ⟨_, _, rfl, fun _ _ e => e⟩ | (simp_all; done)
    · intro C oC v d s₃ m₃ E' hv hpc F3 N3 hns hm3
      k_steps
      · exact hv
      · exact ⟨_, _, rfl, fun _ _ e => e⟩
    intro ys4 hys4 D4 h15 tk15 n15 F15 N15 hD4
    have hy4 : ys4.length ≤ 8 := by
      rw [← hys4.length]
      exact Nat.le_trans (List.length_filter_le _ _) hc8
    have hms := colMarks_ok hA col
    have hst3 : Paired StrV ys3 (colMarks (sortM marks) col) := strV_of hys3
    have lD2 := allLt_ne lDp.2.2.2.2
    have dne := Nat.ne_of_lt lDp.2.2.2.1
    have subD : ∀ p ∈ rest', p.1 ≠ D4 := fun p hp => hD4 p (.tail _ (.tail _ hp))
    have dpd : @Ne Nat Dp D4 := hD4 _ (.head _)
    generalize hfc : cells.filter (fun x => x.1 == col) = fc at hys4
    have offDp : ∀ p ∈ news, p.1 ≠ Dp := fun p hp => lD2 p (by rw [← hrest]; exact List.mem_append_left _ hp)
    have hoff1 : ∀ {o1 o2 : Obj}, OwnOff own (((Dp, o1) :: (L' + 1, o2) :: news).map (·.1)) := fun {o1 o2} => own_more (a := Dp) hoff (by intro b hb; simp at hb ⊢; grind) (fun p hp => lD2 p (by rw [← hrest]; exact List.mem_append_right _ hp))
    have hoffD := hoff1 (o1 := listOf (c.pv ++ ys3).toArray 0) (o2 := oc')
    cases hys4 with
    | nil =>
      k_steps
      · rename_i hst hfi hla
        unfold Hold
        have sub3 : ∀ p ∈ news, p ∈ (D4, listOf #[] n15) :: (Dp, listOf (c.pv ++ ys3).toArray 0) :: (L' + 1, oc') :: rest' := fun p hp => .tail _ (sub2 p hp)
        k_dflt (refine' CallOK.use (within_ok w _ _ _ _ R rv nr cells col _ _ (sub3 _ hR) (paired_mono hP fun _ _ h => h.mono sub3) (by omega)) ?k1 ?k2 ?k3 N15 (fun _ h => h) ?k5 ?k6 ?k8 ?k9 ?_)
        (case k1 => k_asm)
        (case k2 => k_asm)
        (case k3 => k_asm)
        (case k5 => k_asm)
        (case k6 => first | exact rfl | assumption)
        (case k8 => ktr_room)
        (case k9 => units_room)
        rintro v news' h16 tk16 F16 N16 ⟨rfl, rfl⟩
        cases hwi : isWithin cells col with
        | true =>
          k_steps
          refine lpT_end (P := WInv [] 0 (fun j => colOut cells (sortM marks) first stop last fill (j : Int)) news (L' + 1) (i + 1)) (c := ⟨Dp, c.pv ++ ys3, 0, c.txt ++ colMarks (sortM marks) col, oc', some (.int col tC)⟩) (by assumption) (by assumption) (w_in hrest) (w_own hrest) hoffD ?_ ?_ ?_
          · intro p hp; rw [List.mem_singleton.mp hp]; rfl
          · intro z h1 h2
            have n1 : z ≠ Str.ofString "parts" := h1 _ (List.mem_singleton.mpr rfl)
            have n2 : z ≠ Str.ofString "found" := fun e => absurd h2 (by rw [e]; decide)
            simp only [if_neg n1, if_neg n2, kstB, h2, Bool.false_eq_true, if_false]
          · refine wstep0 hI ?_ hst3 hms.1 hms.2 offDp dne hoc'
            show colOut cells (sortM marks) first stop last fill (i : Int) = _
            rw [show (i : Int) = col by omega]
            exact colOut_none (.inr ⟨hfc, .inr (.inr hwi)⟩)
        | false =>
          have hoffD' := hoff1 (o1 := listOf (c.pv ++ ys3 ++ [Value.str fill t3]).toArray 1) (o2 := oc')
          k_steps
          refine lpT_end (P := WInv [] 0 (fun j => colOut cells (sortM marks) first stop last fill (j : Int)) news (L' + 1) (i + 1)) (c := ⟨Dp, c.pv ++ ys3 ++ [Value.str fill t3], 1, c.txt ++ (colMarks (sortM marks) col ++ [fill]), oc', some (.int col tC)⟩) (by assumption) (by assumption) (w_in hrest) (w_own hrest) hoffD' ?_ ?_ ?_
          · intro p hp; rw [List.mem_singleton.mp hp]; rfl
          · intro z h1 h2
            have n1 : z ≠ Str.ofString "parts" := h1 _ (List.mem_singleton.mpr rfl)
            have n2 : z ≠ Str.ofString "found" := fun e => absurd h2 (by rw [e]; decide)
            simp only [if_neg n1, if_neg n2, kstB, h2, Bool.false_eq_true, if_false]
          · refine wstep hI ?_ hst3 (.cons ⟨_, rfl⟩ .nil) hms.1 (Nat.le_refl _) hms.2 (fun x hx => by rw [List.mem_singleton.mp hx]; exact hfl) offDp dne hoc'
            show colOut cells (sortM marks) first stop last fill (i : Int) = _
            rw [show (i : Int) = col by omega]
            exact colOut_fill hst hfc hfi hla hwi
      · rename_i hst hfi hla
        refine lpT_end (P := WInv [] 0 (fun j => colOut cells (sortM marks) first stop last fill (j : Int)) news (L' + 1) (i + 1)) (c := ⟨Dp, c.pv ++ ys3, 0, c.txt ++ colMarks (sortM marks) col, oc', some (.int col tC)⟩) (by assumption) (by assumption) (w_in hrest) (w_own hrest) hoffD ?_ ?_ ?_
        · intro p hp; rw [List.mem_singleton.mp hp]; rfl
        · intro z h1 h2
          have n1 : z ≠ Str.ofString "parts" := h1 _ (List.mem_singleton.mpr rfl)
          have n2 : z ≠ Str.ofString "found" := fun e => absurd h2 (by rw [e]; decide)
          simp only [if_neg n1, if_neg n2, kstB, h2, Bool.false_eq_true, if_false]
        · refine wstep0 hI ?_ hst3 hms.1 hms.2 offDp dne hoc'
          show colOut cells (sortM marks) first stop last fill (i : Int) = _
          rw [show (i : Int) = col by omega]
          exact colOut_none (.inr ⟨hfc, .inr (.inl (by omega))⟩)
      · rename_i hst hfi
        refine lpT_end (P := WInv [] 0 (fun j => colOut cells (sortM marks) first stop last fill (j : Int)) news (L' + 1) (i + 1)) (c := ⟨Dp, c.pv ++ ys3, 0, c.txt ++ colMarks (sortM marks) col, oc', some (.int col tC)⟩) (by assumption) (by assumption) (w_in hrest) (w_own hrest) hoffD ?_ ?_ ?_
        · intro p hp; rw [List.mem_singleton.mp hp]; rfl
        · intro z h1 h2
          have n1 : z ≠ Str.ofString "parts" := h1 _ (List.mem_singleton.mpr rfl)
          have n2 : z ≠ Str.ofString "found" := fun e => absurd h2 (by rw [e]; decide)
          simp only [if_neg n1, if_neg n2, kstB, h2, Bool.false_eq_true, if_false]
        · refine wstep0 hI ?_ hst3 hms.1 hms.2 offDp dne hoc'
          show colOut cells (sortM marks) first stop last fill (i : Int) = _
          rw [show (i : Int) = col by omega]
          exact colOut_none (.inr ⟨hfc, .inl (by omega)⟩)
      · rename_i hst
        refine lpT_end (P := WInv [] 0 (fun j => colOut cells (sortM marks) first stop last fill (j : Int)) news (L' + 1) (i + 1)) (c := ⟨Dp, c.pv ++ ys3, 0, c.txt ++ colMarks (sortM marks) col, oc', some (.int col tC)⟩) (by assumption) (by assumption) (w_in hrest) (w_own hrest) hoffD ?_ ?_ ?_
        · intro p hp; rw [List.mem_singleton.mp hp]; rfl
        · intro z h1 h2
          have n1 : z ≠ Str.ofString "parts" := h1 _ (List.mem_singleton.mpr rfl)
          have n2 : z ≠ Str.ofString "found" := fun e => absurd h2 (by rw [e]; decide)
          simp only [if_neg n1, if_neg n2, kstB, h2, Bool.false_eq_true, if_false]
        · refine wstep0 hI ?_ hst3 hms.1 hms.2 offDp dne hoc'
          show colOut cells (sortM marks) first stop last fill (i : Int) = _
          rw [show (i : Int) = col by omega]
          exact colOut_none (.inl (by omega))
    | cons h4 t4 =>
      rename_i x4 y4 r4 yr4
      obtain ⟨a4, n4, u1, u2, u3, rfl, hm4⟩ := h4
      have hm4' := sub2 _ hm4
      clear hm4
      have hx4 : x4.2.1.length ≤ 32 := (hA.ccol x4 (List.mem_filter.mp (by rw [hfc]; exact .head _)).1).2.2
      have hoffD' := hoff1 (o1 := listOf (c.pv ++ ys3 ++ [Value.str x4.2.1 u2]).toArray 1) (o2 := oc')
      k_steps
      · refine lpT_end (P := WInv [] 0 (fun j => colOut cells (sortM marks) first stop last fill (j : Int)) news (L' + 1) (i + 1)) (c := ⟨Dp, c.pv ++ ys3 ++ [Value.str x4.2.1 u2], 1, c.txt ++ (colMarks (sortM marks) col ++ [x4.2.1]), oc', some (.int col tC)⟩) (by assumption) (by assumption) (w_in hrest) (w_own hrest) hoffD' ?_ ?_ ?_
        · intro p hp; rw [List.mem_singleton.mp hp]; rfl
        · intro z h1 h2
          have n1 : z ≠ Str.ofString "parts" := h1 _ (List.mem_singleton.mpr rfl)
          have n2 : z ≠ Str.ofString "found" := fun e => absurd h2 (by rw [e]; decide)
          simp only [if_neg n1, if_neg n2, kstB, h2, Bool.false_eq_true, if_false]
        · refine wstep hI ?_ hst3 (.cons ⟨_, rfl⟩ .nil) hms.1 (Nat.le_refl _) hms.2 (fun x hx => by rw [List.mem_singleton.mp hx]; exact hx4) offDp dne hoc'
          show colOut cells (sortM marks) first stop last fill (i : Int) = _
          rw [show (i : Int) = col by omega]
          exact colOut_cell (by assumption) hfc
      · rename_i hst
        refine lpT_end (P := WInv [] 0 (fun j => colOut cells (sortM marks) first stop last fill (j : Int)) news (L' + 1) (i + 1)) (c := ⟨Dp, c.pv ++ ys3, 0, c.txt ++ colMarks (sortM marks) col, oc', some (.int col tC)⟩) (by assumption) (by assumption) (w_in hrest) (w_own hrest) hoffD ?_ ?_ ?_
        · intro p hp; rw [List.mem_singleton.mp hp]; rfl
        · intro z h1 h2
          have n1 : z ≠ Str.ofString "parts" := h1 _ (List.mem_singleton.mpr rfl)
          have n2 : z ≠ Str.ofString "found" := fun e => absurd h2 (by rw [e]; decide)
          simp only [if_neg n1, if_neg n2, kstB, h2, Bool.false_eq_true, if_false]
        · refine wstep0 hI ?_ hst3 hms.1 hms.2 offDp dne hoc'
          show colOut cells (sortM marks) first stop last fill (i : Int) = _
          rw [show (i : Int) = col by omega]
          exact colOut_none (.inl (by omega))
  · intro c u h9 tk9 hI F10 N10'
    have N10 : News g' L' h9 ((c.pa, listOf c.pv.toArray c.pn) :: (L' + 1, c.oc) :: news) := N10'
    clear N10'
    obtain ⟨itxt, istr, icell, ioff, ioffc, ilen, ishort⟩ := hI
    have hI1 : WInv c.txt (lim + 1).toNat (fun j => colMarks (sortM marks) (lim + 1 + (j : Int))) news (L' + 1) 0 c := ⟨by simp [outTo], istr, icell, ioff, ioffc, by omega, ishort⟩
    k_steps
    k_dflt (refine For_invTF (by assumption) ?_ (by intro _; rfl))
    k_steps
    rename_i hRg2 F11 N11
    rw [hlim] at hRg2
    unfold Hold
    have hlt : lim ≤ top := by rw [← hlim]; split <;> omega
    have hctl : c.txt.length ≤ 8 * (lim + 1).toNat := by omega
    generalize hcpre : c.txt = cpre at hI1 hctl itxt
    clear hRg F9 N9
    refine lpT_range (σ := WSt) (n := (top - lim).toNat) (fun c => (c.pa, listOf c.pv.toArray c.pn) :: (L' + 1, c.oc) :: news) (fun c => [(Str.ofString "parts", .ref c.pa)]) [] (WInv cpre (lim + 1).toNat (fun j => colMarks (sortM marks) (lim + 1 + (j : Int))) news (L' + 1))
      c rfl hRg2 ?_ ?_ F11 N11 ?_ ?_ ?_ ?_ ?_
    · exact small_one (by omega) (by omega) (by omega) (by omega)
    · rw [rangeSize_nat]; omega
    · intro p hp; exact hp
    · intro p hp; rw [List.mem_singleton.mp hp]; rfl
    · exact hI1
    · intro c i tC u s1 own hin hoff hI F10 N10
      have hI0 := hI
      obtain ⟨itxt, istr, icell, ioff, ioffc, ilen, ishort⟩ := hI0
      have hpl : c.pv.length = c.txt.length := istr.length
      have N11 : News g' L' s1.heap ((c.pa, listOf c.pv.toArray c.pn) :: (L' + 1, c.oc) :: (news ++ own)) := N10
      generalize hrest : news ++ own = rest' at N11
      have q1 : ∀ p ∈ rest', p.1 ≠ c.pa := by
        intro p hp
        rw [← hrest] at hp
        exact (List.mem_append.mp hp).elim (ioff p) fun hp => hoff p hp _ (.head _)
      have q2 : ∀ p ∈ rest', p.1 ≠ L' + 1 := by
        intro p hp
        rw [← hrest] at hp
        exact (List.mem_append.mp hp).elim (hcc p) fun hp => hoff p hp _ (.tail _ (.head _))
      clear N10
      generalize hcol : lim + 1 + (i : Int) = col
      k_steps
      rename_i h11 oc' F11 N12 hoc'
      unfold Hold
      have sub : ∀ p ∈ news, p ∈ (c.pa, listOf c.pv.toArray c.pn) :: (L' + 1, oc') :: rest' := fun p hp => .tail _ (.tail _ (by rw [← hrest]; exact List.mem_append_left _ hp))
      k_dflt (refine comp_eval F11 (MarkIn news) (fun x => x.1 == col) (fun x y => ∃ t, y = Value.str x.2.2 t) (markIn_fun N) (by with_unfolding_all rfl) (by decide) (by rfl) (by decide) (by rfl) ?_)
      k_steps
      unfold Hold
      have hmb : ∀ x ∈ marks, 0 ≤ x.2.1 ∧ x.2.1 < 64 := fun x hx => ⟨(hA.mcol x hx).2.2.1, (hA.mcol x hx).2.2.2.1⟩
      refine sorted_T F11 N12 (sub _ hM) (tupKey_mono (marks_key hmb (keys_inj hA.mkey)) sub) (paired_mem hMP) (marks_apart hmb hA.mkey) (by omega) fun DS cS hS vS zs FS NS lS pS permS srtS lenS => ?_
      obtain rfl := sortM_eq hmb hA.mkey permS srtS
      have subS : ∀ p ∈ news, p ∈ (DS, listOf vS.toArray cS) :: (c.pa, listOf c.pv.toArray c.pn) :: (L' + 1, oc') :: rest' := fun p hp => .tail _ (sub p hp)
      refine ⟨DS, vS, sortM marks, _, rfl, rfl, FS, NS, list_led NS (.head _), by omega, paired_unmem pS, ⟨?_, ?_⟩, ?_⟩
      · intro C oC v d s₃ m₃ E' hv F3 N3 hns hm3
        obtain ⟨a, n, u1, u2, u3, rfl, hm⟩ := hv
        have hm4 := subS _ hm
        clear hm
        refine wpAny_tests_one ?_
        k_steps
        all_goals first | exact ⟨_, _, rfl, fun _ _ e => e⟩ | (simp_all; done)
      · intro C oC v d s₃ m₃ E' hv hpc F3 N3 hns hm3
        obtain ⟨a, n, u1, u2, u3, rfl, hm⟩ := hv
        have hm4 := subS _ hm
        clear hm
        k_steps
        all_goals first | exact ⟨_, rfl⟩ | exact ⟨_, _, rfl, fun _ _ e => e⟩
      intro ys3 hys3 D3 h13 tk13 n13 F13 N13 hD3
      have hy3 : ys3.length ≤ 6 := by
        rw [← hys3.length]
        refine Nat.le_trans (List.length_filter_le _ _) ?_
        rw [(sortM_perm marks).length_eq]; exact hm6
      have hpv : c.pv.length ≤ 8 * ((lim + 1).toNat + i) := by omega
      k_steps
      rename_i Dp _ lDp h14 F14 N14'
      have N14 : News g' L' h14 ((Dp, listOf (c.pv ++ ys3).toArray 0) :: (L' + 1, oc') :: rest') := cb_drop N14' fun p hp => by
        rcases List.mem_cons.mp hp with rfl | hp
        · exact .head _
        · exact .tail _ (.tail _ (.tail _ (.tail _ hp)))
      clear N14'
      have hms := colMarks_ok hA col
      have hst3 : Paired StrV ys3 (colMarks (sortM marks) col) := strV_of hys3
      have lD2 := allLt_ne lDp.2.2.2.2
      have dne := Nat.ne_of_lt lDp.2.2.2.1
      have offDp : ∀ p ∈ news, p.1 ≠ Dp := fun p hp => lD2 p (by rw [← hrest]; exact List.mem_append_left _ hp)
      have hoff1 : ∀ {o1 o2 : Obj}, OwnOff own (((Dp, o1) :: (L' + 1, o2) :: news).map (·.1)) := fun {o1 o2} => own_more (a := Dp) hoff (by intro b hb; simp at hb ⊢; grind) (fun p hp => lD2 p (by rw [← hrest]; exact List.mem_append_right _ hp))
      have hoffD := hoff1 (o1 := listOf (c.pv ++ ys3).toArray 0) (o2 := oc')
      refine lpT_end (P := WInv cpre (lim + 1).toNat (fun j => colMarks (sortM marks) (lim + 1 + (j : Int))) news (L' + 1) (i + 1)) (c := ⟨Dp, c.pv ++ ys3, 0, c.txt ++ colMarks (sortM marks) col, oc', some (.int col tC)⟩) (by assumption) (by assumption) (w_in2 hrest) (w_own2 hrest) hoffD ?_ ?_ ?_
      · intro p hp; rw [List.mem_singleton.mp hp]; rfl
      · intro z h1 h2
        have n1 : z ≠ Str.ofString "parts" := h1 _ (List.mem_singleton.mpr rfl)
        simp only [if_neg n1, kstB, h2, Bool.false_eq_true, if_false]
      · refine wstep0 hI ?_ hst3 hms.1 hms.2 offDp dne hoc'
        show colMarks (sortM marks) (lim + 1 + (i : Int)) = _
        rw [hcol]
    · intro c u h9 tk9 hI F10 N10'
      have N10 : News g' L' h9 ((c.pa, listOf c.pv.toArray c.pn) :: (L' + 1, c.oc) :: news) := N10'
      clear N10'
      obtain ⟨itxt2, istr2, icell2, ioff2, ioffc2, ilen2, ishort2⟩ := hI
      k_steps
      unfold Hold
      refine join_L N10 (.head _) istr2 (by omega) ishort2 fun tj kj => ?_
      k_steps
      rename_i kF kN Tc' kX
      refine hret _ _ _ _ (by assumption) (cb_drop kN fun p hp => .tail _ (.tail _ hp)) ⟨⟨tj, ?_⟩, rfl⟩
      rw [itxt2, itxt, List.nil_append]
      unfold writtenText
      rw [← hlast, ← htop, hlim]

section
variable {prog : Program} {w : World} {A : Around} {E : Value → Shared → Prop} {s : Shared} {env : Env} {h₀ : Heap} {target : Expr} {body : List Stmt} {Q : Flow → Shared → Prop}
theorem lpT_listB {σ : Type} {l : Addr} {vs : List Value} {m₀ : Str → Option Value} {news : List (Addr × Obj)} (Led : σ → List (Addr × Obj)) (ps : σ → List (Str × Value)) (stored : List Str) (P : Nat → σ → Prop) (c₀ : σ)
    (hh : A.handled = none) (hl : h₀.IsList l vs.toArray) (F : Fr h₀ env.locals s.heap m₀) (N : News h₀ env.locals s.heap news) (hn : ∀ p ∈ Led c₀, p ∈ news)
    (hk : ∀ p ∈ ps c₀, m₀ p.1 = some p.2) (hp : P 0 c₀)
    (turn : ∀ (c : σ) (i : Nat) v (u : Str → Option Value) (s₁ : Shared) own, vs[i]? = some v → OwnOff own ((Led c).map (·.1)) → P i c →
      Fr h₀ env.locals s₁.heap (kstB (fun z => if stored.contains z then u z else m₀ z) (ps c)) → News h₀ env.locals s₁.heap (Led c ++ own) →
      wpAny (model prog w) A (assign target env v) (fun _ s₃ => wpAny (model prog w) A (execs body env) (StepG h₀ env.locals (LpT Led ps stored m₀ (P (i + 1))) own s₁) E s₃) E s₁)
    (done : ∀ (c : σ) (u : Str → Option Value) h tk, P vs.length c → Fr h₀ env.locals h (kstB (fun z => if stored.contains z then u z else m₀ z) (ps c)) → News h₀ env.locals h (Led c) → Q .next { s with heap := h, toks := tk })
    (hgo : ∀ i (s' : Shared) (v : Value) (Q' : Unit → Shared → Prop), s'.heap.IsListIter s.heap.objs.size l i → Q' () s' → wpAny (model prog w) A (letOwnedTupleGo target (.ref s.heap.objs.size) v) Q' E s') :
    wpAny (model prog w) A (pyIter (.ref l)) (fun it s₂ => LoopAtT prog w A h₀ env target body Q E it s₂) E s := by
  have hls : s.heap.IsList l vs.toArray := F.lst hl
  obtain ⟨ol, hol0, -⟩ := id hl
  have hol : s.heap.get? l = some ol := F.keep _ _ hol0
  have hne : l ≠ s.heap.objs.size := Nat.ne_of_lt (Heap.lt_size hol)
  refine wpAny_pyIter_list hls ?_
  have W := Walks.list (prog := prog) (w := w) hh s.heap.objs.size l hne vs.toArray
  have hlen : vs.toArray.size = vs.length := by simp
  rw [hlen] at W
  refine ⟨_, _, _, vs.length, _, _, m₀, Led c₀, (fun i m nx => LpT Led ps stored m₀ (P i) m nx), rfl, W, ?_, ?_, ?_, ⟨⟨_, Heap.get?_push_size _ rfl, rfl, rfl⟩, hls.at fun o e => Heap.get?_push_of_some _ e⟩, F.push _, (fun p hp => ⟨Heap.get?_push_of_some _ (N p (hn p hp)).1, (N p (hn p hp)).2⟩), (fun i s' v Q' st hQ' => hgo i s' v Q' st.1 hQ'), ⟨c₀, rfl, hk, fun _ _ _ => rfl, hp⟩, ?_, ?_⟩
  · intro hm
    rcases List.mem_cons.mp hm with e | hm
    · exact absurd F.ns.lt (e ▸ Nat.lt_irrefl _)
    · have h1 := Heap.lt_size hol0
      have h2 := F.above
      rw [← List.mem_singleton.mp hm] at h1
      exact absurd h1 (Nat.not_lt.mpr h2)
  · intro b hb
    rw [List.mem_singleton.mp hb]
    exact next_is_new F
  · intro p hp hI
    exact absurd (Heap.lt_size (N p (hn p hp)).1) ((List.mem_singleton.mp hI) ▸ Nat.lt_irrefl _)
  · rintro i v m₁ news₁ s₁ own hin hP ⟨c, rfl, h1, h2, hp'⟩ hoff hown hget hfp hst F₁ N₁
    have hP' : vs[i]? = some v := by simpa using hP
    have hI0 : h₀.get? s.heap.objs.size = none := next_is_new F
    obtain ⟨⟨oI, hoI, _⟩, _⟩ := id hst
    have hIown : (s.heap.objs.size, oI) ∈ own.filter fun p => decide (p.1 = s.heap.objs.size) := List.mem_filter.mpr ⟨hfp _ (List.mem_cons.mpr (.inl rfl)) hI0 _ hoI, by simp⟩
    have hsep : OwnOff (own.filter fun p => decide (p.1 = s.heap.objs.size)) ((Led c).map (·.1)) := by
      intro p hp b hb e
      obtain ⟨q, hq, rfl⟩ := List.mem_map.mp hb
      have h1 : p.1 = s.heap.objs.size := by simpa using (List.mem_filter.mp hp).2
      exact hoff q hq (List.mem_singleton.mpr (e ▸ h1))
    have N₂ : News h₀ env.locals s₁.heap (Led c ++ own.filter fun p => decide (p.1 = s.heap.objs.size)) := fun p hp => N₁ p ((List.mem_append.mp hp).elim (fun h => List.mem_append.mpr (.inr h)) fun h => List.mem_append.mpr (.inl ((List.mem_filter.mp h).1)))
    refine wpAny_mono (turn c i v m₁ s₁ _ hP' hsep hp' (canon_fr h1 h2 F₁) N₂) (fun _ s₃ p => wpAny_mono p (fun f s₂ p => ?_) fun _ _ e => e) fun _ _ e => e
    cases f with
    | ret v => exact p.elim
    | brk => exact p.elim
    | cont => exact p.elim
    | next =>
      obtain ⟨h', tk, m', news', nx, e, F', N', hn', ho, ha, hm⟩ := p
      refine ⟨rfl, h', tk, m', nx, e, F', fun p hp => ?_, fun p hp hq => ?_, hm⟩
      · rcases List.mem_append.mp hp with h | h
        · by_cases hI : p.1 = s.heap.objs.size
          · exact N' p (ho p (List.mem_filter.mpr ⟨h, by simpa using hI⟩))
          · have h1 : p.1 = l := by
              rcases List.mem_cons.mp (hown p h) with h2 | h2
              · exact absurd h2 hI
              · exact List.mem_singleton.mp h2
            have h2 := (N₁ p (List.mem_append.mpr (.inl h))).2.2
            rw [h1, hol0] at h2
            cases h2
        · exact N' p (hn' p h)
      · exact ha _ hIown p.1 (List.mem_map.mpr ⟨p, hp, rfl⟩) (List.mem_singleton.mp hq).symm
  · rintro h' tk m' news' F' N' _ ⟨c, rfl, h1, h2, hp'⟩
    exact done c m' h' tk hp' (canon_fr h1 h2 F') N'

end

/-- the contract of a def that reads a list which stood there before -/
def CallOn (w : World) (loose : List Str) (mean : ExcName → Option Value) (mg mb : Str → Option Value) (f : Addr) (dn : Nat) (pre : Heap → Prop) (args : List Value) (news : List (Addr × Obj)) (Ret : Value → List (Addr × Obj) → Prop) : Prop :=
  ∀ (dp un : Nat) (gd : Option (List Code)) (cn : Str) (cs : Scope) (a : Addr) (ccd : Value) (cl : List (Str × Addr)) (outer : List Env) (A₀ : Around) (base h₀ : Heap) (L : Addr) (m : Str → Option Value) (s : Shared) (Q E : Value → Shared → Prop),
    Below A₀ base outer h₀ → Fr h₀ L s.heap m → (hd.heap_39 w.params).In h₀ → News h₀ L s.heap news → Top hd.view_39 loose mean mg mb h₀ → cs.kind = .function → pre h₀ →
    dp + dn < recursionLimit → un + (100 * dn + 100) < cLine →
    (∀ v news' h' tk', Fr h₀ L h' m → News h₀ L h' news' → Ret v news' → Q v { s with heap := h', toks := tk' }) →
    wpAny (model PySem.Challenge.rw_ax6028_01.row.prog w) (ktrTop dp un gd cn cs L a ccd cl outer) (call (.ref f) args) Q E s

theorem paired_of_ints {vs : List Value} {ns : List Int} (h : IntsAre vs ns) : Paired (fun v x => ∃ t, v = Value.int x t) vs ns := by
  induction h with
  | nil => exact .nil
  | cons _ _ _ ih => exact .cons ⟨_, rfl⟩ ih

section
local macro_rules | `(tactic| walk_at "execs nil") => `(tactic| (k_here; refine wpAny_execs_nil ?_))
local macro_rules | `(tactic| walk_at "exec For Name Name") => `(tactic| (k_here; refine Hold.out ?_))
set_option maxRecDepth 100000 in
set_option maxHeartbeats 8000000 in
theorem draw_ok (w : World) (mean : ExcName → Option Value) (mg mb : Str → Option Value) (S : Addr) (vs : List Value) (ns : List Int) (hI : IntsAre vs ns) (hlen : ns.length < 64) :
   CallOn w [] mean mg mb 26 1 (fun h₀ => h₀.IsList S vs.toArray) [.ref S] [] (fun v news' => ∃ D L0 d1 d2, v = Value.ref D ∧ news' = [d1, d2] ∧ DrawAt D L0 d1 d2 ∧ @Ne Nat D L0) := by
  w_top off
  unfold CallOn
  k_fill
  intro dp un gd cn cs a ccd cl outer A₀ base h₀ L m s Q E B F X N T hk hpre hd hu hret
  refine wpAny_call ?_
  k_dflt ktr_enter
  have hcl : vs.length = ns.length := hI.length
  have hL := Fr.lst (by assumption) hpre
  rename_i g' L' h0 FG' F1 N1 B' X' T'
  clear FG'
  k_steps
  rename_i h2 F2 N2
  unfold Hold
  k_dflt (refine For_invTF F2 ?_ (by intro _; rfl))
  k_steps
  unfold Hold
  refine lpT_listB (σ := Int × Tok) (fun c => []) (fun c => [(Str.ofString "seed", .int c.1 c.2)]) [Str.ofString "cell"] (fun i c => 0 ≤ c.1 ∧ c.1 < 2147483647)
    ⟨31, ?tok⟩ rfl hL F2 N2 ?_ ?hk ?_ ?_ ?_ ?_
  case hk => intro p hp; rw [List.mem_singleton.mp hp]; rfl
  · intro p hp; exact hp
  · exact ⟨Int.zero_le_ofNat 31, show (31 : Int) < 2147483647 by decide⟩
  · intro c i v u s1 own hin hoff hI1 F10 N10
    obtain ⟨hs0, hs1⟩ := hI1
    have N11 : News g' L' s1.heap own := N10
    clear N10
    obtain ⟨n, t, rfl, -⟩ := hI.at i v hin
    k_steps
    refine lpT_end (σ := Int × Tok) (P := fun c => 0 ≤ c.1 ∧ c.1 < 2147483647) (c := ⟨?va, ?vb⟩) (by assumption) (by assumption) (fun _ h => absurd h List.not_mem_nil) (fun p hp => hp) ?_ ?hk ?_ ?_
    case hk => intro p hp; rw [List.mem_singleton.mp hp]; rfl
    · intro p hp b hb; cases hb
    · intro z h1 h2
      have n1 : z ≠ Str.ofString "seed" := h1 _ (List.mem_singleton.mpr rfl)
      have n2 : z ≠ Str.ofString "cell" := fun e => absurd h2 (by rw [e]; decide)
      simp only [if_neg n1, if_neg n2, kstB, h2, Bool.false_eq_true, if_false]
    · exact ⟨Int.fmod_nonneg_of_pos _ (by decide), Int.fmod_lt_of_pos _ (by decide)⟩
  · intro c u h9 tk9 hI F10 N10'
    obtain ⟨hs0, hs1⟩ := hI
    have N10 : News g' L' h9 [] := N10'
    clear N10'
    k_steps
    unfold Hold
    k_dflt (refine comp_eval F10 (fun v x => ∃ t, v = Value.int x t) (fun _ => true) (fun n y => ∃ t, y = Value.int (if n < 0 then -n else n) t) (fun _ _ _ h k => by obtain ⟨_, rfl⟩ := h; obtain ⟨_, k⟩ := k; cases k; rfl) (by with_unfolding_all rfl) (by decide) (by rfl) (by decide) (by rfl) ?_)
    k_steps
    refine ⟨S, vs, ns, _, rfl, rfl, by assumption, by assumption, ?_, by omega, ?_, ⟨?_, ?_⟩, ?_⟩
    · exact Fr.lst (by assumption) hL
    · exact paired_of_ints hI
    · intro C oC v d s₃ m₃ E' hv F3 N3 hns hm3
      exact wpAny_tests_nil ⟨rfl, _, _, rfl, fun _ _ e => e⟩
    · intro C oC v d s₃ m₃ E' hv hpc F3 N3 hns hm3
      obtain ⟨t, rfl⟩ := hv
      k_steps
      all_goals first | exact ⟨_, rfl⟩ | exact ⟨_, _, rfl, fun _ _ e => e⟩
    intro ys hys D1 h1 tk1 n1 F1 N1 hD1
    rw [filter_true] at hys
    have hy1 : IntsAre ys (ns.map fun n => if n < 0 then -n else n) := ints_of_paired hys
    k_steps
    rename_i D2 ws2 _ hI2 hC2 hL2 l1 l' _ _ _ l2 kF kN Tc' kX
    rw [List.length_map] at hL2
    refine hret _ [(l', listOf #[Value.ref D2, Value.int c.1 c.2] 0), (D2, listOf ws2.toArray 0)] _ _ (by assumption) (cb_drop kN ?_) ⟨l', D2, _, _, rfl, rfl, ⟨ws2, _, 0, 0, c.1, c.2, rfl, rfl, hI2, by omega, hs0, hs1⟩, Nat.ne_of_gt (l2.1)⟩
    intro p hp
    simp only [List.mem_cons, List.not_mem_nil, or_false] at hp ⊢
    exact hp.elim .inl fun h => .inr (.inl h)
  · intro i s' v Q' st hQ'
    exact wpAny_pure hQ'
end

section
variable {prog : Program} {w : World} {A : Around} {E : Value → Shared → Prop} {s : Shared} {env : Env} {h₀ : Heap} {target : Expr} {body : List Stmt} {Q : Flow → Shared → Prop}
theorem lpT_walk {σ : Type} {r l : Addr} {ol oI : Obj} {n : Nat} {PV : Nat → Value → Prop} {St : Nat → Heap → Prop} {m₀ : Str → Option Value} {news : List (Addr × Obj)} (Led : σ → List (Addr × Obj)) (ps : σ → List (Str × Value)) (stored : List Str) (P : Nat → σ → Prop) (c₀ : σ)
    (W : Walks prog w A s.heap.objs.size [s.heap.objs.size, l] [s.heap.objs.size] n PV St) (st0 : St 0 (s.heap.push oI)) (hSt : ∀ i h, St i h → ∃ o, h.get? s.heap.objs.size = some o)
    (hit : ∀ (E : Value → Shared → Prop) (Q : Value → Shared → Prop), Q (.ref s.heap.objs.size) { s with heap := s.heap.push oI } → wpAny (model prog w) A (pyIter (.ref r)) Q E s) (hl : ∀ c, (l, ol) ∈ Led c) (F : Fr h₀ env.locals s.heap m₀) (N : News h₀ env.locals s.heap news) (hn : ∀ p ∈ Led c₀, p ∈ news)
    (hk : ∀ p ∈ ps c₀, m₀ p.1 = some p.2) (hp : P 0 c₀)
    (turn : ∀ (c : σ) (i : Nat) v (u : Str → Option Value) (s₁ : Shared) own, i < n → PV i v → OwnOff own ((Led c).map (·.1)) → P i c →
      Fr h₀ env.locals s₁.heap (kstB (fun z => if stored.contains z then u z else m₀ z) (ps c)) → News h₀ env.locals s₁.heap (Led c ++ own) →
      wpAny (model prog w) A (assign target env v) (fun _ s₃ => wpAny (model prog w) A (execs body env) (StepG h₀ env.locals (LpT Led ps stored m₀ (P (i + 1))) own s₁) E s₃) E s₁)
    (done : ∀ (c : σ) (u : Str → Option Value) h tk, P n c → Fr h₀ env.locals h (kstB (fun z => if stored.contains z then u z else m₀ z) (ps c)) → News h₀ env.locals h (Led c) → Q .next { s with heap := h, toks := tk })
    (hgo : ∀ i (s' : Shared) (v : Value) (Q' : Unit → Shared → Prop), St i s'.heap → Q' () s' → wpAny (model prog w) A (letOwnedTupleGo target (.ref s.heap.objs.size) v) Q' E s') :
    wpAny (model prog w) A (pyIter (.ref r)) (fun it s₂ => LoopAtT prog w A h₀ env target body Q E it s₂) E s := by
  have hlN := hn _ (hl c₀)
  have hol : s.heap.get? l = some ol := (N _ hlN).1
  refine hit _ _ ?_
  refine ⟨_, _, _, n, _, _, m₀, Led c₀, (fun i m nx => LpT Led ps stored m₀ (P i) m nx), rfl, W, ?_, ?_, ?_, st0, F.push _, (fun p hp => ⟨Heap.get?_push_of_some _ (N p (hn p hp)).1, (N p (hn p hp)).2⟩), (fun i s' v Q' st hQ' => hgo i s' v Q' st hQ'), ⟨c₀, rfl, hk, fun _ _ _ => rfl, hp⟩, ?_, ?_⟩
  · intro hm
    rcases List.mem_cons.mp hm with e | hm
    · exact absurd F.ns.lt (e ▸ Nat.lt_irrefl _)
    · exact (N _ hlN).2.1 ((List.mem_singleton.mp hm).symm)
  · intro b hb
    rw [List.mem_singleton.mp hb]
    exact next_is_new F
  · intro p hp hI
    exact absurd (Heap.lt_size (N p (hn p hp)).1) ((List.mem_singleton.mp hI) ▸ Nat.lt_irrefl _)
  · rintro i v m₁ news₁ s₁ own hin hP ⟨c, rfl, h1, h2, hp'⟩ hoff hown hget hfp hst F₁ N₁
    have hI0 : h₀.get? s.heap.objs.size = none := next_is_new F
    obtain ⟨oI', hoI⟩ := hSt _ _ hst
    have hIown : (s.heap.objs.size, oI') ∈ own.filter fun p => decide (p.1 = s.heap.objs.size) := List.mem_filter.mpr ⟨hfp _ (List.mem_cons.mpr (.inl rfl)) hI0 _ hoI, by simp⟩
    have hsep : OwnOff (own.filter fun p => decide (p.1 = s.heap.objs.size)) ((Led c).map (·.1)) := by
      intro p hp b hb e
      obtain ⟨q, hq, rfl⟩ := List.mem_map.mp hb
      have h1 : p.1 = s.heap.objs.size := by simpa using (List.mem_filter.mp hp).2
      exact hoff q hq (List.mem_singleton.mpr (e ▸ h1))
    have N₂ : News h₀ env.locals s₁.heap (Led c ++ own.filter fun p => decide (p.1 = s.heap.objs.size)) := fun p hp => N₁ p ((List.mem_append.mp hp).elim (fun h => List.mem_append.mpr (.inr h)) fun h => List.mem_append.mpr (.inl ((List.mem_filter.mp h).1)))
    have hlo : s₁.heap.get? l = some (ol) := (N₁ _ (List.mem_append.mpr (.inr (hl c)))).1
    refine wpAny_mono (turn c i v m₁ s₁ _ hin hP hsep hp' (canon_fr h1 h2 F₁) N₂) (fun _ s₃ p => wpAny_mono p (fun f s₂ p => ?_) fun _ _ e => e) fun _ _ e => e
    cases f with
    | ret v => exact p.elim
    | brk => exact p.elim
    | cont => exact p.elim
    | next =>
      obtain ⟨h', tk, m', news', nx, e, F', N', hn', ho, ha, hm⟩ := p
      refine ⟨rfl, h', tk, m', nx, e, F', fun p hp => ?_, fun p hp hq => ?_, hm⟩
      · rcases List.mem_append.mp hp with h | h
        · by_cases hI : p.1 = s.heap.objs.size
          · exact N' p (ho p (List.mem_filter.mpr ⟨h, by simpa using hI⟩))
          · have h1 : p.1 = l := by
              rcases List.mem_cons.mp (hown p h) with h2 | h2
              · exact absurd h2 hI
              · exact List.mem_singleton.mp h2
            have h2 : s₁.heap.get? p.1 = some p.2 := hget p h
            rw [h1, hlo] at h2
            have h3 : p = (l, ol) := Prod.ext h1 (Option.some.inj h2).symm
            rw [h3]
            obtain ⟨c', rfl, _⟩ := hm
            exact N' _ (hn' _ (hl c'))
        · exact N' p (hn' p h)
      · exact ha _ hIown p.1 (List.mem_map.mpr ⟨p, hp, rfl⟩) (List.mem_singleton.mp hq).symm
  · rintro h' tk m' news' F' N' _ ⟨c, rfl, h1, h2, hp'⟩
    exact done c m' h' tk hp' (canon_fr h1 h2 F') N'

end

section
variable {prog : Program} {w : World} {A : Around} {E : Value → Shared → Prop} {s : Shared} {h₀ : Heap} {L d : Addr} {m : Str → Option Value} {news : List (Addr × Obj)} {o : Obj} {kvs : List (Int × Value)} {Q : Value → Shared → Prop}

theorem setdef_any {k : Int} {t : Tok} {dflt : Value} (F : Fr h₀ L s.heap m) (N : News h₀ L s.heap ((d, o) :: news)) (hne : ∀ p ∈ news, p.1 ≠ d) (hd : o.IsDictOf (PySem.intKind prog w) kvs) (lo : (d == sysModules) = false) (hsz : kvs.length ≤ 4000)
    (h1 : ∀ v tk, valueAt kvs k = some v → Q v { s with toks := tk })
    (h2 : ∀ h' o' tk, valueAt kvs k = none → Fr h₀ L h' m → News h₀ L h' ((d, o') :: news) → o'.IsDictOf (PySem.intKind prog w) (stored kvs k dflt) → Q dflt { s with heap := h', toks := tk }) :
    wpAny (model prog w) A (call (.builtin "dict.setdefault") [.ref d, .int k t, dflt]) Q E s := by
  have hm := N (d, o) (.head _)
  have hD : s.heap.DictOf (PySem.intKind prog w) d kvs := Heap.dictOf_iff.mpr ⟨o, hm.1, hd⟩
  refine call_meetsIn PySem.F.slot_dict_setdefault hD.typeIs PySem.F.entry_dict_setdefault (PySem.F.args_dict_setdefault_3 _ _ _) (kt_meets_setdefault _ d (intKind_is _ _ k t) lo dflt)
    ⟨kvs, hD, (by rw [sizeLine_eq]; omega), (fun v hv => h1 v _ hv), fun hn h' hmm hs => ?_⟩
  obtain ⟨o', ho', hd'⟩ := Heap.dictOf_iff.mp hmm
  exact h2 h' o' _ hn (F.change hs hm.2.1 hm.2.2) (News.setIn (own := []) N (fun _ h => nomatch h) hne hs ho') hd'

theorem max_keys {v : Addr} (hh : A.handled = none) (F : Fr h₀ L s.heap m) (N : News h₀ L s.heap news) (hv : (v, ({ cls := .type "dict_keys", data := .fields #[.ref d] } : Obj)) ∈ news) (hp : (d, o) ∈ news) (hd : o.IsDictOf (PySem.intKind prog w) kvs) (hne : 0 < kvs.length)
    (h : ∀ h' M t tk, Fr h₀ L h' m → News h₀ L h' news → M ∈ kvs.map (·.1) → (∀ a ∈ kvs.map (·.1), a ≤ M) → Q (.int M t) { s with heap := h', toks := tk }) :
    wpAny (model prog w) A (call (.builtin "max") [.ref v]) Q E s := by
  obtain ⟨ep, hat⟩ := (kda_dict N hp hd).dictAt
  have hok : KdlKeysView s.heap v d ∧ s.heap.DictAt (PySem.intKind prog w) d kvs ep := ⟨⟨_, (N _ hv).1, rfl, rfl⟩, hat⟩
  have K := kdl_keys (prog := prog) (w := w) (knd := PySem.intKind prog w) (d := d) (r := v) (kvs := kvs) (ep := ep)
  obtain ⟨oI, St, hit, W, st⟩ := K.iter A.in1 s hh hok
  refine call_max_walk (hit _ _ ?_)
  have hval : ∀ (i : Nat) (u : Value), (∃ k x, kvs[i]? = some (k, x) ∧ (PySem.intKind prog w).is k u = true) → ∃ t, u = .int ((kvs.map (·.1)).getD i 0) t := by
    rintro i u ⟨k, x, hx, hk⟩
    obtain ⟨t, rfl⟩ := Value.isInt_shape hk
    refine ⟨t, ?_⟩
    rw [List.getD_eq_getElem?_getD, List.getElem?_map, hx]; rfl
  refine ⟨_, _, _, _, _, _, _, rfl, W, st, fun b hb => ?_, hne, CmpOf.ints_gt (fun i => (kvs.map (·.1)).getD i 0) hval, fun u h' tk hP hk => ?_⟩
  · show b < (s.heap.push oI).objs.size
    rw [size_push']
    rcases List.mem_cons.mp hb with e | hb
    · rw [e]; exact Nat.lt_succ_self _
    · rw [List.mem_singleton.mp hb]; exact Nat.lt_succ_of_lt (K.there _ hok).2
  · have hk2 : ∀ b o, s.heap.get? b = some o → h'.get? b = some o := fun b o e =>
      hk b o (fun hI => absurd (Heap.lt_size e) (by rw [List.mem_singleton.mp hI]; exact Nat.lt_irrefl _)) (Heap.get?_push_of_some _ e)
    obtain ⟨t, rfl⟩ := hval _ _ hP
    obtain ⟨g1, g2⟩ := argBest_gt (fun i => (kvs.map (·.1)).getD i 0) (kvs.length - 1)
    refine h h' _ t tk (F.keeps hk2) (fun p hp => ⟨hk2 _ _ (N p hp).1, (N p hp).2⟩) ?_ ?_
    · have hb : argBest (fun i j => decide ((kvs.map (·.1)).getD i 0 > (kvs.map (·.1)).getD j 0)) (kvs.length - 1) < (kvs.map (·.1)).length := by rw [List.length_map]; omega
      rw [List.getD_eq_getElem?_getD, List.getElem?_eq_getElem hb]
      exact List.getElem_mem hb
    · intro a ha
      obtain ⟨j, hj, rfl⟩ := List.getElem_of_mem ha
      have h3 := g2 j (by rw [List.length_map] at hj; omega)
      refine Int.le_trans (Int.le_of_eq ?_) h3
      show _ = (kvs.map (·.1)).getD j 0
      rw [List.getD_eq_getElem?_getD, List.getElem?_eq_getElem hj]; rfl

theorem lsort_ints {D : Addr} {vs : List Value} {ns : List Int} {n : Nat} (F : Fr h₀ L s.heap m) (N : News h₀ L s.heap ((D, listOf vs.toArray n) :: news)) (hD : ∀ p ∈ news, p.1 ≠ D) (hI : IntsAre vs ns) (h64 : vs.length < 64)
    (h : ∀ c h' ys ns', Fr h₀ L h' m → News h₀ L h' ((D, listOf ys.toArray c) :: news) → IntsAre ys ns' → ns'.Perm ns → ns'.Pairwise (· ≤ ·) → Q .none { s with heap := h' }) :
    wpAny (model prog w) A (call (.builtin "list.sort") [.ref D]) Q E s := by
  have z := N (D, listOf vs.toArray n) (.head _)
  have ho : s.heap.get? D = some (seqObj "list" vs.toArray n) := z.1
  refine wpAny_call_entry PyProof.Rows.slot_list_sort ⟨_, z.1, rfl⟩ PyProof.Rows.entry_list_sort (list_sort_tree (n := n) (vs := vs) ho hI h64 fun out ns' hI' hp hP => ⟨.none, rfl, ?_⟩) (PyProof.Rows.args_list_sort _)
  have F1 : Fr h₀ L (s.heap.update D (Obj.mapSeq fun _ => (#[] : Array Value))) m := F.change (Heap.SameBut.update ..) z.2.1 z.2.2
  have N1 := ki_turn (pre := []) (post := news) (fun _ => (#[] : Array Value)) (its' := #[]) N (fun _ h => nomatch h) hD rfl rfl
  have N2 := News.grown N1 fun _ _ e => Heap.get?_push_of_some (seqObj "tuple" vs.toArray 0) e
  have N3 := News.grown N2 fun _ _ e => Heap.get?_push_of_some (seqObj "list" #[] 0) e
  have N4 := ki_turn (pre := []) (post := news) (fun _ => out) (its' := out) N3 (fun _ h => nomatch h) hD rfl rfl
  have F4 : Fr h₀ L ((((s.heap.update D (Obj.mapSeq fun _ => (#[] : Array Value))).push (seqObj "tuple" vs.toArray 0)).push (seqObj "list" #[] 0)).update D (Obj.mapSeq fun _ => out)) m :=
    ((F1.push (seqObj "tuple" vs.toArray 0)).push (seqObj "list" #[] 0)).change (Heap.SameBut.update ..) z.2.1 z.2.2
  have e : out.toList.toArray = out := Array.toArray_toList
  refine h ?c _ out.toList ns' F4 ?_ hI' hp hP
  rotate_left
  · rw [e]; exact N4

theorem intsAre_of {vs : List Value} {ns : List Int} (hl : vs.length = ns.length) (h : ∀ (j : Nat) v, vs[j]? = some v → ∃ k t, ns[j]? = some k ∧ v = Value.int k t) : IntsAre vs ns := by
  induction vs generalizing ns with
  | nil => cases ns with
    | nil => exact .nil
    | cons _ _ => simp at hl
  | cons v r ih => cases ns with
    | nil => simp at hl
    | cons a q =>
      obtain ⟨k, t, e, rfl⟩ := h 0 v rfl
      simp only [List.getElem?_cons_zero, Option.some.injEq] at e
      subst e
      exact .cons _ _ (ih (by simpa using hl) fun j v hj => by simpa using h (j + 1) v (by simpa using hj))

theorem sorted_keys {v : Addr} (hh : A.handled = none) (F : Fr h₀ L s.heap m) (N : News h₀ L s.heap news) (hv : (v, ({ cls := .type "dict_keys", data := .fields #[.ref d] } : Obj)) ∈ news) (hp : (d, o) ∈ news) (hd : o.IsDictOf (PySem.intKind prog w) kvs) (h64 : kvs.length < 64)
    (h : ∀ D c h' tk ys ns', Fr h₀ L h' m → News h₀ L h' ((D, listOf ys.toArray c) :: news) → (∀ p ∈ news, p.1 ≠ D) → IntsAre ys ns' → ns'.Perm (kvs.map (·.1)) → ns'.Pairwise (· ≤ ·) → Q (.ref D) { s with heap := h', toks := tk }) :
    wpAny (model prog w) A (call (.builtin "sorted") [.ref v]) Q E s := by
  obtain ⟨ep, hat⟩ := (kda_dict N hp hd).dictAt
  refine kdu_sorted (kdl_keys (knd := PySem.intKind prog w) (kvs := kvs) (ep := ep)) hh F N ⟨⟨_, (N _ hv).1, rfl, rfl⟩, hat⟩ (by rw [sizeLine_eq]; omega) fun B h' tk vs F' N' l1 hl hv => ?_
  have hI : IntsAre vs (kvs.map (·.1)) := intsAre_of (by rw [hl, List.length_map]) fun j u hu => by
    obtain ⟨k, x, hx, hk⟩ := hv j u hu
    obtain ⟨t, rfl⟩ := Value.isInt_shape hk
    exact ⟨k, t, by rw [List.getElem?_map, hx]; rfl, rfl⟩
  have hB : ∀ p ∈ news, p.1 ≠ B := fun p hp => Nat.ne_of_lt (l1 p hp)
  exact lsort_ints (s := { s with heap := h', toks := tk }) F' N' hB hI (by omega) fun c h'' ys ns' F'' N'' a1 a2 a3 => h B c h'' tk ys ns' F'' N'' hB a1 a2 a3

theorem truthy_D {Q : Bool → Shared → Prop} (N : News h₀ L s.heap news) (hp : (d, o) ∈ news) (hd : o.IsDictOf (PySem.intKind prog w) kvs) (lo : (d == sysModules) = false) (hsz : kvs.length ≤ 4000) (h : Q (!kvs.isEmpty) { s with toks := s.toks + 1 + 1 }) :
    wpAny (model prog w) A (truthy (.ref d)) Q E s := wpAny_truthy_dict lo (kda_dict N hp hd) (by omega) h
end

structure Grp where
  col : Int
  addr : Addr
  vals : List Value
  cnt : Nat
  es : List Entry
def Grp.kv (g : Grp) : Int × Value := (g.col, .ref g.addr)
def Grp.cell (g : Grp) : Addr × Obj := (g.addr, listOf g.vals.toArray g.cnt)
def ents (xs : List Mark) (c : Int) : List Entry := (xs.filter (fun x => x.1 == c)).map (fun x => (x.2.1, x.2.2))
structure PSt where
  gs : List Grp
  tup : List (Addr × Obj)
  oS : Obj
def PSt.led (S : Addr) (news : List (Addr × Obj)) (c : PSt) : List (Addr × Obj) := (S, c.oS) :: (c.gs.map Grp.cell ++ (c.tup ++ news))
structure PInv (w : World) (S : Addr) (news : List (Addr × Obj)) (seqs : List Mark) (i : Nat) (c : PSt) : Prop where
  hd : c.oS.IsDictOf (PySem.intKind PySem.Challenge.rw_ax6028_01.row.prog w) (c.gs.map Grp.kv)
  nodup : (c.gs.map Grp.addr).Nodup
  offS : ∀ g ∈ c.gs, @Ne Nat g.addr S
  offN : ∀ g ∈ c.gs, ∀ p ∈ c.tup ++ news, p.1 ≠ g.addr
  offT : ∀ p ∈ c.tup ++ news, p.1 ≠ S
  vals : ∀ g ∈ c.gs, Paired (EntryIn c.tup) g.vals g.es
  cols : ∀ g ∈ c.gs, g.es = ents (seqs.take i) g.col
  some' : ∀ g ∈ c.gs, ∃ x ∈ seqs.take i, x.1 = g.col
  all : ∀ x ∈ seqs.take i, ∃ g ∈ c.gs, g.col = x.1
  len : c.gs.length ≤ i

/-- what the painter is handed -/
structure PArgs (cells : List Cell) (seqs : List Mark) : Prop where
  clen : cells.length ≤ 8
  mlen : seqs.length ≤ 6
  ccol : ∀ c ∈ cells, 0 ≤ c.1 ∧ c.1 < 64 ∧ c.2.1.length ≤ 32 ∧ 0 ≤ c.2.2 ∧ c.2.2 ≤ 2
  mcol : ∀ x ∈ seqs, 0 ≤ x.1 ∧ x.1 < 100 ∧ 0 ≤ x.2.1 ∧ x.2.1 < 64 ∧ x.2.2.length ≤ 32
  mkey : seqs.Pairwise (fun a b => a.2.1 ≠ b.2.1)

structure PMid (w : World) (S : Addr) (news : List (Addr × Obj)) (seqs : List Mark) (i : Nat) (x : Mark) (tup : List (Addr × Obj)) (pre : List Grp) (g : Grp) (post : List Grp) (oS : Obj) : Prop where
  hd : oS.IsDictOf (PySem.intKind PySem.Challenge.rw_ax6028_01.row.prog w) ((pre ++ g :: post).map Grp.kv)
  nodup : ((pre ++ g :: post).map Grp.addr).Nodup
  offS : ∀ g' ∈ pre ++ g :: post, @Ne Nat g'.addr S
  offN : ∀ g' ∈ pre ++ g :: post, ∀ p ∈ tup ++ news, p.1 ≠ g'.addr
  offT : ∀ p ∈ tup ++ news, p.1 ≠ S
  vals : ∀ g' ∈ pre ++ g :: post, Paired (EntryIn tup) g'.vals g'.es
  colg : g.col = x.1
  ges : g.es = ents (seqs.take i) x.1
  cols : ∀ g' ∈ pre ++ post, g'.es = ents (seqs.take i) g'.col
  some' : ∀ g' ∈ pre ++ post, ∃ x ∈ seqs.take i, x.1 = g'.col
  all : ∀ y ∈ seqs.take i, ∃ g' ∈ pre ++ g :: post, g'.col = y.1
  len : (pre ++ g :: post).length ≤ i + 1

theorem kv_col (gs : List Grp) : (gs.map Grp.kv).map (·.1) = gs.map Grp.col := by
  rw [List.map_map]; rfl
theorem ents_snoc (xs : List Mark) (x : Mark) (c : Int) : ents (xs ++ [x]) c = ents xs c ++ (if x.1 = c then [(x.2.1, x.2.2)] else []) := by
  unfold ents
  rw [List.filter_append, List.map_append]
  congr 1
  by_cases h : x.1 = c
  · simp [h]
  · simp [h]
theorem take_snoc {α : Type} {xs : List α} {i : Nat} {x : α} (h : xs[i]? = some x) : xs.take (i + 1) = xs.take i ++ [x] := by
  rw [List.take_add_one, h]; rfl
theorem mem_mid {α : Type} {pre post : List α} {g a : α} : a ∈ pre ++ g :: post ↔ a = g ∨ a ∈ pre ++ post := by
  simp only [List.mem_append, List.mem_cons]; grind

theorem PMid.next {w : World} {S : Addr} {news : List (Addr × Obj)} {seqs : List Mark} {i : Nat} {x : Mark} {tup : List (Addr × Obj)} {pre : List Grp} {g : Grp} {post : List Grp} {oS : Obj} {T0 : Addr} {u2 u3 : Tok} {n0 : Nat} (h : PMid w S news seqs i x tup pre g post oS) (hx : seqs[i]? = some x)
    (hS : @Ne Nat T0 S) (hG : ∀ g' ∈ pre ++ g :: post, @Ne Nat T0 g'.addr) :
    PInv w S news seqs (i + 1) ⟨pre ++ ⟨g.col, g.addr, g.vals ++ [.ref T0], g.cnt + 1, g.es ++ [(x.2.1, x.2.2)]⟩ :: post, (T0, { cls := .type "tuple", data := .seq #[.int x.2.1 u2, .str x.2.2 u3] n0 }) :: tup, oS⟩ := by
  have hcn : ((pre ++ g :: post).map Grp.col).Nodup := by
    obtain ⟨es, ep, _, _, _, _, hn⟩ := h.hd
    rw [kv_col] at hn; exact hn
  have hne : ∀ g' ∈ pre ++ post, g'.col ≠ x.1 := by
    intro g' hg' e
    rw [← h.colg] at e
    simp only [List.map_append, List.map_cons, List.nodup_append, List.nodup_cons] at hcn
    rcases List.mem_append.mp hg' with hg' | hg'
    · exact hcn.2.2 _ (List.mem_map.mpr ⟨g', hg', rfl⟩) _ (.head _) e
    · exact hcn.2.1.1 (List.mem_map.mpr ⟨g', hg', e⟩)
  have hmem : ∀ g' ∈ pre ++ post, g' ∈ pre ++ g :: post := fun g' hg => mem_mid.mpr (.inr hg)
  have hmg : g ∈ pre ++ g :: post := mem_mid.mpr (.inl rfl)
  have hadd : ∀ p ∈ tup, p ∈ (T0, ({ cls := .type "tuple", data := .seq #[.int x.2.1 u2, .str x.2.2 u3] n0 } : Obj)) :: tup := fun p hp => .tail _ hp
  constructor
  · have e : (pre ++ ⟨g.col, g.addr, g.vals ++ [.ref T0], g.cnt + 1, g.es ++ [(x.2.1, x.2.2)]⟩ :: post).map Grp.kv = (pre ++ g :: post).map Grp.kv := by simp [Grp.kv]
    show oS.IsDictOf _ _
    rw [e]; exact h.hd
  · have e : (pre ++ ⟨g.col, g.addr, g.vals ++ [.ref T0], g.cnt + 1, g.es ++ [(x.2.1, x.2.2)]⟩ :: post).map Grp.addr = (pre ++ g :: post).map Grp.addr := by simp
    show List.Nodup _
    rw [e]; exact h.nodup
  · intro g' hg'
    rcases mem_mid.mp hg' with rfl | hg'
    · exact h.offS g hmg
    · exact h.offS _ (hmem _ hg')
  · intro g' hg' p hp
    have h1 : ∀ g'' ∈ pre ++ g :: post, g''.addr = g'.addr → p.1 ≠ g'.addr := by
      intro g'' h2 e
      rcases List.mem_cons.mp hp with rfl | hp
      · rw [← e]; exact hG _ h2
      · rw [← e]; exact h.offN _ h2 p hp
    rcases mem_mid.mp hg' with rfl | hg''
    · exact h1 g hmg rfl
    · exact h1 g' (hmem _ hg'') rfl
  · intro p hp
    rcases List.mem_cons.mp hp with rfl | hp
    · exact hS
    · exact h.offT p hp
  · intro g' hg'
    rcases mem_mid.mp hg' with rfl | hg'
    · exact paired_append (paired_mono (h.vals g hmg) fun _ _ e => e.mono hadd) (.cons ⟨T0, n0, u2, u3, rfl, .head _⟩ .nil)
    · exact paired_mono (h.vals g' (hmem _ hg')) fun _ _ e => e.mono hadd
  · intro g' hg'
    rw [take_snoc hx, ents_snoc]
    rcases mem_mid.mp hg' with rfl | hg'
    · show g.es ++ _ = ents _ g.col ++ _
      rw [h.ges, ← h.colg, if_pos rfl]
    · rw [if_neg (fun e => hne _ hg' e.symm), List.append_nil]
      exact h.cols _ hg'
  · intro g' hg'
    rw [take_snoc hx]
    rcases mem_mid.mp hg' with rfl | hg'
    · exact ⟨x, List.mem_append_right _ (.head _), h.colg.symm⟩
    · obtain ⟨y, hy, e⟩ := h.some' _ hg'
      exact ⟨y, List.mem_append_left _ hy, e⟩
  · intro y hy
    rw [take_snoc hx] at hy
    rcases List.mem_append.mp hy with hy | hy
    · obtain ⟨g', hg', e⟩ := h.all y hy
      rcases mem_mid.mp hg' with rfl | hg'
      · exact ⟨_, mem_mid.mpr (.inl rfl), e⟩
      · exact ⟨g', mem_mid.mpr (.inr hg'), e⟩
    · rw [List.mem_singleton.mp hy]
      exact ⟨_, mem_mid.mpr (.inl rfl), h.colg⟩
  · have := h.len
    simp only [List.length_append, List.length_cons] at this ⊢
    omega

theorem valueAt_grp {gs : List Grp} {k : Int} {v : Value} (h : valueAt (gs.map Grp.kv) k = some v) : ∃ pre g post, gs = pre ++ g :: post ∧ g.col = k ∧ v = .ref g.addr := by
  unfold valueAt at h
  rw [List.find?_map] at h
  simp only [Option.map_map, Option.map_eq_some_iff] at h
  obtain ⟨g, hg, rfl⟩ := h
  have h1 := List.find?_some hg
  have h2 := List.mem_of_find?_eq_some hg
  obtain ⟨pre, post, e⟩ := List.append_of_mem h2
  refine ⟨pre, g, post, e, ?_, rfl⟩
  exact of_decide_eq_true h1
theorem valueAt_nogrp {gs : List Grp} {k : Int} (h : valueAt (gs.map Grp.kv) k = none) : ∀ g ∈ gs, g.col ≠ k := by
  intro g hg e
  have h1 := valueAt_isSome_eq_any (gs.map Grp.kv) k
  rw [h] at h1
  have h2 : ((gs.map Grp.kv).any fun kv => decide (kv.1 = k)) = true := List.any_eq_true.mpr ⟨g.kv, List.mem_map.mpr ⟨g, hg, rfl⟩, decide_eq_true e⟩
  rw [← h1] at h2
  cases h2
theorem nodup_ne {pre post : List Grp} {g : Grp} (h : ((pre ++ g :: post).map Grp.addr).Nodup) : ∀ g' ∈ pre ++ post, @Ne Nat g'.addr g.addr := by
  intro g' hg' e
  simp only [List.map_append, List.map_cons, List.nodup_append, List.nodup_cons] at h
  rcases List.mem_append.mp hg' with hg' | hg'
  · exact h.2.2 _ (List.mem_map.mpr ⟨g', hg', rfl⟩) _ (.head _) e
  · exact h.2.1.1 (List.mem_map.mpr ⟨g', hg', e⟩)

section
variable {prog : Program} {w : World} {A : Around} {E : Value → Shared → Prop} {s : Shared} {h₀ : Heap} {L S l' : Addr} {m : Str → Option Value} {news own : List (Addr × Obj)} {seqs : List Mark} {i : Nat} {c : PSt} {x : Mark} {u : Tok} {Q : Value → Shared → Prop}

theorem setdef_grp (F : Fr h₀ L s.heap m) (N : News h₀ L s.heap ((l', listOf #[] 0) :: (S, c.oS) :: (c.gs.map Grp.cell ++ (c.tup ++ news) ++ own))) (hI : PInv w S news seqs i c) (hoff : OwnOff own ((PSt.led S news c).map (·.1)))
    (fresh : ∀ p ∈ (S, c.oS) :: (c.gs.map Grp.cell ++ (c.tup ++ news) ++ own), p.1 ≠ l') (lo : (S == sysModules) = false) (hi : i ≤ 100)
    (h : ∀ pre g post oS' h' tk, PMid w S news seqs i x c.tup pre g post oS' → Fr h₀ L h' m → News h₀ L h' ((g.addr, listOf g.vals.toArray g.cnt) :: (S, oS') :: (pre.map Grp.cell ++ post.map Grp.cell ++ (c.tup ++ news) ++ own)) →
      (∀ p ∈ pre.map Grp.cell ++ post.map Grp.cell ++ (c.tup ++ news) ++ own, p.1 ≠ g.addr) → @Ne Nat S g.addr → g.vals.length ≤ i → (∀ g' ∈ pre ++ post, g' ∈ c.gs) → Q (.ref g.addr) { s with heap := h', toks := tk }) :
    wpAny (model PySem.Challenge.rw_ax6028_01.row.prog w) A (call (.builtin "dict.setdefault") [.ref S, .int x.1 u, .ref l']) Q E s := by
  have hcl := hI.len
  have fr : ∀ p ∈ c.gs.map Grp.cell ++ (c.tup ++ news) ++ own, p.1 ≠ l' := fun p hp => fresh p (.tail _ hp)
  have frS : @Ne Nat S l' := fresh _ (.head _)
  have frG : ∀ g ∈ c.gs, @Ne Nat g.addr l' := fun g hg => fr _ (List.mem_append_left _ (List.mem_append_left _ (List.mem_map.mpr ⟨g, hg, rfl⟩)))
  have frN : ∀ p ∈ c.tup ++ news, p.1 ≠ l' := fun p hp => fr _ (List.mem_append_left _ (List.mem_append_right _ hp))
  have hSr : ∀ p ∈ c.gs.map Grp.cell ++ (c.tup ++ news) ++ own, p.1 ≠ S := by
    intro p hp
    rcases List.mem_append.mp hp with hp | hp
    · rcases List.mem_append.mp hp with hp | hp
      · obtain ⟨g, hg, rfl⟩ := List.mem_map.mp hp
        exact hI.offS g hg
      · exact hI.offT p hp
    · exact hoff p hp _ (.head _)
  have ownG : ∀ g ∈ c.gs, ∀ p ∈ own, p.1 ≠ g.addr := fun g hg p hp => hoff p hp _ (List.mem_map.mpr ⟨g.cell, .tail _ (List.mem_append_left _ (List.mem_map.mpr ⟨g, hg, rfl⟩)), rfl⟩)
  have vlen : ∀ g ∈ c.gs, g.vals.length ≤ i := by
    intro g hg
    rw [(hI.vals g hg).length, hI.cols g hg]
    unfold ents
    rw [List.length_map]
    exact Nat.le_trans (List.length_filter_le _ _) (by rw [List.length_take]; omega)
  refine setdef_any F (news := (l', listOf #[] 0) :: (c.gs.map Grp.cell ++ (c.tup ++ news) ++ own)) (cb_drop N ?_) ?_ hI.hd lo (by rw [List.length_map]; omega) ?_ ?_
  · intro p hp
    simp only [List.mem_cons] at hp ⊢
    grind
  · intro p hp
    rcases List.mem_cons.mp hp with rfl | hp
    · exact fun e => frS e.symm
    · exact hSr p hp
  · intro v tk hv
    obtain ⟨pre, g, post, e, hc, rfl⟩ := valueAt_grp hv
    have hg : g ∈ c.gs := by rw [e]; exact mem_mid.mpr (.inl rfl)
    have nd := hI.nodup
    rw [e] at nd
    refine h pre g post c.oS s.heap tk ⟨?_, ?_, ?_, ?_, hI.offT, ?_, hc, ?_, ?_, ?_, ?_, ?_⟩ F (cb_drop N ?_) ?_ (fun e' => hI.offS g hg e'.symm) (vlen g hg) (fun g' hg' => by rw [e]; exact mem_mid.mpr (.inr hg'))
    · rw [← e]; exact hI.hd
    · exact nd
    · rw [← e]; exact hI.offS
    · rw [← e]; exact hI.offN
    · rw [← e]; exact hI.vals
    · rw [← hc]; exact hI.cols g hg
    · intro g' hg'; exact hI.cols g' (by rw [e]; exact mem_mid.mpr (.inr hg'))
    · intro g' hg'; exact hI.some' g' (by rw [e]; exact mem_mid.mpr (.inr hg'))
    · rw [← e]; exact hI.all
    · rw [← e]; omega
    · intro p hp
      rw [e]
      simp only [List.map_append, List.map_cons, List.mem_cons, List.mem_append, Grp.cell] at hp ⊢
      grind
    · intro p hp
      rcases List.mem_append.mp hp with hp | hp
      · rcases List.mem_append.mp hp with hp | hp
        · rw [← List.map_append] at hp
          obtain ⟨g', hg', rfl⟩ := List.mem_map.mp hp
          exact nodup_ne nd g' hg'
        · exact hI.offN g hg p hp
      · exact ownG g hg p hp
  · intro h' o' tk hv F' N' hd'
    have hno := valueAt_nogrp hv
    have hst : stored (c.gs.map Grp.kv) x.1 (.ref l') = (c.gs ++ [(⟨x.1, l', [], 0, []⟩ : Grp)]).map Grp.kv := by
      unfold stored
      rw [if_neg (by rw [List.any_eq_true]; rintro ⟨kv, hkv, e⟩; obtain ⟨g, hg, rfl⟩ := List.mem_map.mp hkv; exact hno g hg (of_decide_eq_true e))]
      simp [Grp.kv]
    rw [hst] at hd'
    have hz : ents (seqs.take i) x.1 = [] := by
      unfold ents
      rw [List.map_eq_nil_iff, List.filter_eq_nil_iff]
      intro y hy e
      obtain ⟨g, hg, eg⟩ := hI.all y hy
      exact hno g hg (by rw [eg]; simpa using e)
    refine h c.gs ⟨x.1, l', [], 0, []⟩ [] o' h' tk ⟨hd', ?_, ?_, ?_, hI.offT, ?_, rfl, hz.symm, ?_, ?_, ?_, ?_⟩ F' (cb_drop N' ?_) ?_ frS (Nat.zero_le _) (fun g' hg' => by rwa [List.append_nil] at hg')
    · rw [List.map_append, List.nodup_append]
      refine ⟨hI.nodup, by simp, ?_⟩
      intro a ha b hb
      obtain ⟨g, hg, rfl⟩ := List.mem_map.mp ha
      simp only [List.map_cons, List.map_nil, List.mem_singleton] at hb
      subst hb
      exact frG g hg
    · intro g' hg'
      rcases List.mem_append.mp hg' with hg' | hg'
      · exact hI.offS g' hg'
      · rw [List.mem_singleton.mp hg']; exact fun e => frS e.symm
    · intro g' hg' p hp
      rcases List.mem_append.mp hg' with hg' | hg'
      · exact hI.offN g' hg' p hp
      · rw [List.mem_singleton.mp hg']; exact frN p hp
    · intro g' hg'
      rcases List.mem_append.mp hg' with hg' | hg'
      · exact hI.vals g' hg'
      · rw [List.mem_singleton.mp hg']; exact .nil
    · rw [List.append_nil]; exact hI.cols
    · rw [List.append_nil]; exact hI.some'
    · intro y hy
      obtain ⟨g, hg, e⟩ := hI.all y hy
      exact ⟨g, List.mem_append_left _ hg, e⟩
    · simp only [List.length_append, List.length_cons, List.length_nil]; omega
    · intro p hp
      simp only [List.map_nil, List.append_nil, List.mem_cons] at hp ⊢
      rcases hp with rfl | rfl | hp
      · exact .inr (.inl rfl)
      · exact .inl rfl
      · exact .inr (.inr hp)
    · intro p hp
      simp only [List.map_nil, List.append_nil] at hp
      exact fr p hp
end

structure SInv (c : PSt) (i : Nat) (gs : List Grp) : Prop where
  kv : gs.map Grp.kv = c.gs.map Grp.kv
  vals : ∀ g ∈ gs, Paired (EntryIn c.tup) g.vals g.es
  perm : ∀ (j : Nat) g g', c.gs[j]? = some g → gs[j]? = some g' → g'.es.Perm g.es
  sort : ∀ (j : Nat) g', j < i → gs[j]? = some g' → g'.es.Pairwise (fun a b => a.1 ≤ b.1)

theorem ents_keys {seqs : List Mark} (hk : seqs.Pairwise (fun a b => a.2.1 ≠ b.2.1)) (c : Int) : (ents seqs c).Pairwise (fun a b => a.1 ≠ b.1) := by
  unfold ents
  rw [List.pairwise_map]
  exact hk.filter _
theorem es_texts {seqs : List Mark} (hk : seqs.Pairwise (fun a b => a.2.1 ≠ b.2.1)) {es : List Entry} {c : Int} (hp : es.Perm (ents seqs c)) (hs : es.Pairwise (fun a b => a.1 ≤ b.1)) : es.map (·.2) = colMarks (sortM seqs) c := by
  have h1 : (ents (sortM seqs) c).Perm (ents seqs c) := ((sortM_perm seqs).filter _).map _
  have h2 : (ents (sortM seqs) c).Pairwise (fun a b => a.1 ≤ b.1) := by
    unfold ents
    rw [List.pairwise_map]
    refine List.Pairwise.imp_of_mem (fun {a b} ha hb h => ?_) ((sortM_sorted seqs).filter _)
    have e1 := (List.mem_filter.mp ha).2
    have e2 := (List.mem_filter.mp hb).2
    simp only [beq_iff_eq] at e1 e2
    unfold markKey at h
    show a.2.1 ≤ b.2.1
    omega
  have e : es = ents (sortM seqs) c := sorted_eq (key := fun x : Entry => x.1) (hp.trans h1.symm) hs h2 (fun a ha b hb e => keys_inj (ents_keys hk c) a (hp.mem_iff.mp ha) b (hp.mem_iff.mp hb) e)
  rw [e]
  unfold ents colMarks
  rw [List.map_map]; rfl

theorem mem_kv {gs hs : List Grp} (e : gs.map Grp.kv = hs.map Grp.kv) {g : Grp} (hg : g ∈ gs) : ∃ h ∈ hs, h.col = g.col ∧ h.addr = g.addr := by
  have h1 : g.kv ∈ hs.map Grp.kv := by rw [← e]; exact List.mem_map.mpr ⟨g, hg, rfl⟩
  obtain ⟨h, hh, e2⟩ := List.mem_map.mp h1
  unfold Grp.kv at e2
  simp only [Prod.mk.injEq, Value.ref.injEq] at e2
  exact ⟨h, hh, e2.1, e2.2⟩
theorem addr_kv {gs hs : List Grp} (e : gs.map Grp.kv = hs.map Grp.kv) : gs.map Grp.addr = hs.map Grp.addr := by
  induction gs generalizing hs with
  | nil => cases hs with
    | nil => rfl
    | cons _ _ => simp at e
  | cons g r ih => cases hs with
    | nil => simp at e
    | cons h q =>
      simp only [List.map_cons, List.cons.injEq] at e ⊢
      refine ⟨?_, ih e.2⟩
      have := e.1
      unfold Grp.kv at this
      simp only [Prod.mk.injEq, Value.ref.injEq] at this
      exact this.2
theorem split_at {α : Type} {xs : List α} {i : Nat} {x : α} (h : xs[i]? = some x) : ∃ pre post, xs = pre ++ x :: post ∧ pre.length = i := by
  obtain ⟨hi, rfl⟩ := List.getElem?_eq_some_iff.mp h
  refine ⟨xs.take i, xs.drop (i + 1), ?_, by rw [List.length_take]; omega⟩
  rw [← List.drop_eq_getElem_cons hi, List.take_append_drop]
theorem kv_at {c : PSt} {i : Nat} {gs : List Grp} (h : SInv c i gs) {k : Int} {v : Value} (hv : (c.gs.map Grp.kv)[i]? = some (k, v)) : ∃ pre g post g0, gs = pre ++ g :: post ∧ pre.length = i ∧ g.col = k ∧ v = .ref g.addr ∧ c.gs[i]? = some g0 := by
  have h0 := hv
  rw [← h.kv, List.getElem?_map] at hv
  obtain ⟨g, hg, e⟩ := Option.map_eq_some_iff.mp hv
  obtain ⟨pre, post, e1, e2⟩ := split_at hg
  rw [List.getElem?_map] at h0
  obtain ⟨g0, hg0, _⟩ := Option.map_eq_some_iff.mp h0
  unfold Grp.kv at e
  simp only [Prod.mk.injEq] at e
  exact ⟨pre, g, post, g0, e1, e2, e.1, e.2.symm, hg0⟩
theorem SInv.next {c : PSt} {i : Nat} {pre post : List Grp} {g : Grp} {ys : List Value} {zs : List Entry} {cnt : Nat} (h : SInv c i (pre ++ g :: post)) (hl : pre.length = i) (hp : Paired (EntryIn c.tup) ys zs) (hperm : zs.Perm g.es) (hs : zs.Pairwise (fun a b => a.1 ≤ b.1)) :
    SInv c (i + 1) (pre ++ ⟨g.col, g.addr, ys, cnt, zs⟩ :: post) := by
  have hat : ∀ (j : Nat) g', (pre ++ (⟨g.col, g.addr, ys, cnt, zs⟩ : Grp) :: post)[j]? = some g' → (j = i ∧ g' = ⟨g.col, g.addr, ys, cnt, zs⟩) ∨ (j ≠ i ∧ (pre ++ g :: post)[j]? = some g') := by
    intro j g' hj
    rcases Nat.lt_trichotomy j i with h1 | h1 | h1
    · refine .inr ⟨by omega, ?_⟩
      rw [List.getElem?_append_left (by omega)] at hj ⊢
      exact hj
    · refine .inl ⟨h1, ?_⟩
      rw [List.getElem?_append_right (by omega), show j - pre.length = 0 by omega] at hj
      simpa using hj.symm
    · refine .inr ⟨by omega, ?_⟩
      rw [List.getElem?_append_right (by omega), show j - pre.length = (j - pre.length - 1) + 1 by omega, List.getElem?_cons_succ] at hj ⊢
      exact hj
  have hgi : (pre ++ g :: post)[i]? = some g := by rw [List.getElem?_append_right (by omega), show i - pre.length = 0 by omega]; rfl
  refine ⟨?_, ?_, ?_, ?_⟩
  · rw [← h.kv]; simp [Grp.kv]
  · intro g' hg'
    rcases mem_mid.mp hg' with rfl | hg'
    · exact hp
    · exact h.vals g' (mem_mid.mpr (.inr hg'))
  · intro j g0 g' h1 h2
    rcases hat j g' h2 with ⟨rfl, rfl⟩ | ⟨h3, h4⟩
    · exact hperm.trans (h.perm j g0 g h1 hgi)
    · exact h.perm j g0 g' h1 h4
  · intro j g' h1 h2
    rcases hat j g' h2 with ⟨rfl, rfl⟩ | ⟨h3, h4⟩
    · exact hs
    · exact h.sort j g' (by omega) h4

/-- what stands when both loops are done: a dict whose values list each column's texts -/
structure GDone (w : World) (S : Addr) (seqs : List Mark) (oS : Obj) (kvs : List (Int × Value)) (led : List (Addr × Obj)) : Prop where
  hd : oS.IsDictOf (PySem.intKind PySem.Challenge.rw_ax6028_01.row.prog w) kvs
  len : kvs.length ≤ 6
  look : ∀ k v, valueAt kvs k = some v → ∃ a vals cnt es, v = Value.ref a ∧ (a, listOf vals.toArray cnt) ∈ led ∧ Paired (EntryIn led) vals es ∧ es.map (·.2) = colMarks (sortM seqs) k ∧ es.length ≤ 6 ∧ ∀ e ∈ es, e.2.length ≤ 32
  miss : ∀ k, valueAt kvs k = none → colMarks (sortM seqs) k = []
  keys : ∀ k, k ∈ kvs.map (·.1) ↔ ∃ x ∈ seqs, x.1 = k

theorem GDone.mono {w : World} {S : Addr} {seqs : List Mark} {oS : Obj} {kvs : List (Int × Value)} {led led' : List (Addr × Obj)} (h : GDone w S seqs oS kvs led) (hs : ∀ p ∈ led, p ∈ led') : GDone w S seqs oS kvs led' := by
  refine ⟨h.hd, h.len, fun k v hv => ?_, h.miss, h.keys⟩
  obtain ⟨a, vals, cnt, es, e1, e2, e3, e4⟩ := h.look k v hv
  exact ⟨a, vals, cnt, es, e1, hs _ e2, paired_mono e3 fun _ _ e => e.mono hs, e4⟩
theorem valueAt_isSome_iff {kvs : List (Int × Value)} {k : Int} : (valueAt kvs k).isSome = true ↔ k ∈ kvs.map (·.1) := by
  rw [valueAt_isSome_eq_any, List.any_eq_true, List.mem_map]
  constructor
  · rintro ⟨kv, h1, h2⟩; exact ⟨kv, h1, of_decide_eq_true h2⟩
  · rintro ⟨kv, h1, h2⟩; exact ⟨kv, h1, decide_eq_true h2⟩
theorem gdone_of {w : World} {S : Addr} {news : List (Addr × Obj)} {cells : List Cell} {seqs : List Mark} (hA : PArgs cells seqs) {c : PSt} {gs : List Grp} (hI : PInv w S news seqs seqs.length c) (hS : SInv c c.gs.length gs) :
    GDone w S seqs c.oS (gs.map Grp.kv) (gs.map Grp.cell ++ (c.tup ++ news)) := by
  have hIl := hI.len
  have hml := hA.mlen
  have hgl : gs.length = c.gs.length := by have := congrArg List.length hS.kv; simpa using this
  refine ⟨by rw [hS.kv]; exact hI.hd, by rw [List.length_map]; omega, ?_, ?_, ?_⟩
  · intro k v hv
    obtain ⟨pre, g, post, e, rfl, rfl⟩ := valueAt_grp hv
    have hg : g ∈ gs := by rw [e]; exact mem_mid.mpr (.inl rfl)
    obtain ⟨j, hj, rfl⟩ := List.getElem_of_mem hg
    obtain ⟨g0, hg0⟩ : ∃ g0, c.gs[j]? = some g0 := ⟨c.gs[j]'(by omega), List.getElem?_eq_getElem _⟩
    have hgj : gs[j]? = some gs[j] := List.getElem?_eq_getElem hj
    have hcol : g0.col = gs[j].col := by
      have h1 := congrArg (fun l => l[j]?) hS.kv
      simp only [List.getElem?_map, hgj, hg0, Option.map_some, Option.some.injEq, Grp.kv, Prod.mk.injEq] at h1
      exact h1.1.symm
    have hpm := hS.perm j g0 _ hg0 hgj
    rw [hI.cols g0 (List.mem_of_getElem? hg0), List.take_length, hcol] at hpm
    refine ⟨_, gs[j].vals, gs[j].cnt, gs[j].es, rfl, List.mem_append_left _ (List.mem_map.mpr ⟨gs[j], hg, rfl⟩), paired_mono (hS.vals _ hg) fun _ _ e => e.mono fun p hp => List.mem_append_right _ (List.mem_append_left _ hp),
      es_texts hA.mkey hpm (hS.sort j _ (by omega) hgj), ?_, ?_⟩
    · rw [hpm.length_eq]
      unfold ents
      rw [List.length_map]
      exact Nat.le_trans (List.length_filter_le _ _) hml
    · intro e' he'
      have h1 := hpm.mem_iff.mp he'
      unfold ents at h1
      obtain ⟨x, hx, rfl⟩ := List.mem_map.mp h1
      exact (hA.mcol x (List.mem_filter.mp hx).1).2.2.2.2
  · intro k hk
    have hno := valueAt_nogrp hk
    unfold colMarks
    rw [List.map_eq_nil_iff, List.filter_eq_nil_iff]
    intro x hx e
    have hx2 := (sortM_perm seqs).mem_iff.mp hx
    obtain ⟨g, hg, eg⟩ := hI.all x (by rw [List.take_length]; exact hx2)
    obtain ⟨g', hg', e1, _⟩ := mem_kv hS.kv.symm hg
    exact hno g' hg' (by rw [e1, eg]; simpa using e)
  · intro k
    rw [kv_col]
    constructor
    · intro hk
      obtain ⟨g, hg, rfl⟩ := List.mem_map.mp hk
      obtain ⟨g0, hg0, e1, _⟩ := mem_kv hS.kv hg
      obtain ⟨x, hx, e⟩ := hI.some' g0 hg0
      rw [List.take_length] at hx
      exact ⟨x, hx, by rw [e, e1]⟩
    · rintro ⟨x, hx, rfl⟩
      obtain ⟨g, hg, eg⟩ := hI.all x (by rw [List.take_length]; exact hx)
      obtain ⟨g', hg', e1, _⟩ := mem_kv hS.kv.symm hg
      exact List.mem_map.mpr ⟨g', hg', by rw [e1, eg]⟩

structure CellsAt (w : World) (C : Addr) (oC : Obj) (ckv : List (Int × Value)) (cells : List Cell) (led : List (Addr × Obj)) : Prop where
  hm : (C, oC) ∈ led
  hd : oC.IsDictOf (PySem.intKind PySem.Challenge.rw_ax6028_01.row.prog w) ckv
  lo : (C == sysModules) = false
  len : ckv.length ≤ 8
  look : ∀ k v, valueAt ckv k = some v → ∃ c r, cells.filter (fun x => x.1 == k) = c :: r ∧ ∃ a n t1 t2, v = Value.ref a ∧ (a, ({ cls := .type "tuple", data := .seq #[.str c.2.1 t1, .int c.2.2 t2] n } : Obj)) ∈ led
  miss : ∀ k, valueAt ckv k = none → cells.filter (fun x => x.1 == k) = []
  keys : ∀ k, k ∈ ckv.map (·.1) ↔ ∃ c ∈ cells, c.1 = k
theorem CellsAt.mono {w : World} {C : Addr} {oC : Obj} {ckv : List (Int × Value)} {cells : List Cell} {led led' : List (Addr × Obj)} (h : CellsAt w C oC ckv cells led) (hs : ∀ p ∈ led, p ∈ led') : CellsAt w C oC ckv cells led' := by
  refine ⟨hs _ h.hm, h.hd, h.lo, h.len, fun k v hv => ?_, h.miss, h.keys⟩
  obtain ⟨c, r, e, a, n, t1, t2, e2, hm⟩ := h.look k v hv
  exact ⟨c, r, e, a, n, t1, t2, e2, hs _ hm⟩
theorem cut_eval {M : Model} {A : Around} {E : Value → Shared → Prop} {s : Shared} {tree : Sem Value} {Q : Value → Shared → Prop} {h₀ : Heap} {L : Addr} {m : Str → Option Value} {news : List (Addr × Obj)} (_F : Fr h₀ L s.heap m) (V : Tok → Value)
    (h1 : ∀ Q : Value → Shared → Prop, (∀ t h' tk, Fr h₀ L h' m → News h₀ L h' news → Q (V t) { s with heap := h', toks := tk }) → wpAny M A tree Q E s)
    (h2 : ∀ t h' tk, Fr h₀ L h' m → News h₀ L h' news → Q (V t) { s with heap := h', toks := tk }) : wpAny M A tree Q E s := h1 Q h2
theorem maxD_keys {ks : List Int} {M : Int} {α : Type} {f : α → Int} {xs : List α} (hk : ∀ k, k ∈ ks ↔ ∃ x ∈ xs, f x = k) (h0 : ∀ x ∈ xs, 0 ≤ f x) (hM : M ∈ ks) (hge : ∀ a ∈ ks, a ≤ M) : M = maxD (-1) (xs.map f) := by
  obtain ⟨x, hx, rfl⟩ := (hk M).mp hM
  refine eq_maxD (List.mem_append_left _ (List.mem_map.mpr ⟨x, hx, rfl⟩)) ?_
  intro a ha
  rcases List.mem_append.mp ha with ha | ha
  · obtain ⟨y, hy, rfl⟩ := List.mem_map.mp ha
    exact hge _ ((hk _).mpr ⟨y, hy, rfl⟩)
  · rw [List.mem_singleton.mp ha]
    have := h0 x hx
    omega
theorem maxD_nokeys {ks : List Int} {α : Type} {f : α → Int} {xs : List α} (hk : ∀ k, k ∈ ks ↔ ∃ x ∈ xs, f x = k) (h : ks = []) : maxD (-1) (xs.map f) = -1 := by
  cases xs with
  | nil => rfl
  | cons x r =>
    have := (hk (f x)).mpr ⟨x, .head _, rfl⟩
    rw [h] at this
    cases this

/-- a turn's end of a while loop -/
def StepW {σ : Type} (h₀ : Heap) (L : Addr) (s : Shared) (Led : σ → List (Addr × Obj)) (ps : σ → List (Str × Value)) (stored : List Str) (m₀ : Str → Option Value) (P : σ → Prop) (meas : σ → Nat) (c : σ) (f : Flow) (s₃ : Shared) : Prop :=
  match f with
  | .next | .cont => ∃ h' tk m' c', s₃ = { s with heap := h', toks := tk } ∧ Fr h₀ L h' m' ∧ News h₀ L h' (Led c') ∧ (∀ p ∈ ps c', m' p.1 = some p.2) ∧ (∀ z, (∀ p ∈ ps c', z ≠ p.1) → stored.contains z = false → m' z = m₀ z) ∧ meas c' < meas c ∧ P c'
  | _ => False
section
variable {prog : Program} {w : World} {A : Around} {E : Value → Shared → Prop} {s : Shared} {env : Env} {h₀ : Heap} {L : Addr} {Q : Flow → Shared → Prop}
theorem lpT_while {σ : Type} {test : Expr} {body : List Stmt} {pos : Pos} {m₀ : Str → Option Value} {news : List (Addr × Obj)} (Led : σ → List (Addr × Obj)) (ps : σ → List (Str × Value)) (stored : List Str) (P : σ → Prop) (meas : σ → Nat) (c₀ : σ)
    (F : Fr h₀ L s.heap m₀) (N : News h₀ L s.heap news) (hn : ∀ p ∈ Led c₀, p ∈ news) (hk : ∀ p ∈ ps c₀, m₀ p.1 = some p.2) (hp : P c₀)
    (turn : ∀ (c : σ) (u : Str → Option Value) h tk, P c → Fr h₀ L h (kstB (fun z => if stored.contains z then u z else m₀ z) (ps c)) → News h₀ L h (Led c) →
      wpAny (model prog w) A (isTrue test env (eval test env)) (fun b s₂ =>
        if b = true then wpAny (model prog w) A (execs body env) (StepW h₀ L s Led ps stored m₀ P meas c) E s₂ else Q .next s₂) E { s with heap := h, toks := tk })
    (hE : PassesOwn (model prog w) A env E) :
    wpAny (model prog w) A (exec (.While test body [] pos) env) Q E s := by
  refine While_inv2 (fun n m nx => ∃ c : σ, nx = Led c ∧ meas c = n ∧ (∀ p ∈ ps c, m p.1 = some p.2) ∧ (∀ z, (∀ p ∈ ps c, z ≠ p.1) → stored.contains z = false → m z = m₀ z) ∧ P c) F (cb_drop N hn) ⟨c₀, rfl, rfl, hk, fun _ _ _ => rfl, hp⟩ ?_ hE
  rintro n m₁ nx h tk F₁ N₁ ⟨c, rfl, rfl, h1, h2, hP⟩
  refine wpAny_mono (turn c m₁ h tk hP (canon_fr h1 h2 F₁) N₁) (fun b s₂ hb => ?_) fun _ _ e => e
  cases b with
  | false => exact hb
  | true =>
    simp only [if_true] at hb ⊢
    refine wpAny_mono hb (fun f s₃ h3 => ?_) fun _ _ e => e
    cases f with
    | next =>
      obtain ⟨h', tk', m', c', rfl, F', N', a1, a2, a3, a4⟩ := h3
      exact ⟨h', tk', m', _, meas c', rfl, F', N', a3, c', rfl, rfl, a1, a2, a4⟩
    | cont =>
      obtain ⟨h', tk', m', c', rfl, F', N', a1, a2, a3, a4⟩ := h3
      exact ⟨h', tk', m', _, meas c', rfl, F', N', a3, c', rfl, rfl, a1, a2, a4⟩
    | brk => exact h3.elim
    | ret v => exact h3.elim
theorem lpW_next {σ : Type} {Led : σ → List (Addr × Obj)} {ps : σ → List (Str × Value)} {stored : List Str} {m₀ : Str → Option Value} {P : σ → Prop} {meas : σ → Nat} {c : σ} {m' : Str → Option Value} {news' : List (Addr × Obj)} {h' : Heap} {tk : Nat} (c' : σ)
    (F : Fr h₀ L h' m') (N : News h₀ L h' news') (hn : ∀ p ∈ Led c', p ∈ news') (hk : ∀ p ∈ ps c', m' p.1 = some p.2) (hr : ∀ z, (∀ p ∈ ps c', z ≠ p.1) → stored.contains z = false → m' z = m₀ z) (hm : meas c' < meas c) (hp : P c') :
    StepW h₀ L s Led ps stored m₀ P meas c .next { s with heap := h', toks := tk } := ⟨h', tk, m', c', rfl, F, cb_drop N hn, hk, hr, hm, hp⟩
theorem lpW_cont {σ : Type} {Led : σ → List (Addr × Obj)} {ps : σ → List (Str × Value)} {stored : List Str} {m₀ : Str → Option Value} {P : σ → Prop} {meas : σ → Nat} {c : σ} {m' : Str → Option Value} {news' : List (Addr × Obj)} {h' : Heap} {tk : Nat} (c' : σ)
    (F : Fr h₀ L h' m') (N : News h₀ L h' news') (hn : ∀ p ∈ Led c', p ∈ news') (hk : ∀ p ∈ ps c', m' p.1 = some p.2) (hr : ∀ z, (∀ p ∈ ps c', z ≠ p.1) → stored.contains z = false → m' z = m₀ z) (hm : meas c' < meas c) (hp : P c') :
    StepW h₀ L s Led ps stored m₀ P meas c .cont { s with heap := h', toks := tk } := ⟨h', tk, m', c', rfl, F, cb_drop N hn, hk, hr, hm, hp⟩
theorem cut_for {tree : Sem Flow} {m : Str → Option Value} (stored : List Str) (Led : List Value → Nat → List (Addr × Obj)) (R : List Value → Prop) {M : Model} (_F : Fr h₀ L s.heap m)
    (h1 : ∀ Q : Flow → Shared → Prop, (∀ pv pn (u : Str → Option Value) h' tk, Fr h₀ L h' (kstB (fun z => if stored.contains z then u z else m z) []) → News h₀ L h' (Led pv pn) → R pv → Q .next { s with heap := h', toks := tk }) → wpAny M A tree Q E s)
    (h2 : ∀ pv pn (u : Str → Option Value) h' tk, Fr h₀ L h' (kstB (fun z => if stored.contains z then u z else m z) []) → News h₀ L h' (Led pv pn) → R pv → Q .next { s with heap := h', toks := tk }) : wpAny M A tree Q E s := h1 Q h2
end

def pCell (cells : List Cell) (first stop last : Int) (fill : Str) (c : Int) : List Str :=
  if c < stop then
    match cells.filter (fun x => x.1 == c) with
    | x :: _ => [x.2.1]
    | [] => if first ≤ c ∧ c ≤ last then [fill] else []
  else []
def pNext (cells : List Cell) (stop : Int) (c : Int) : Int :=
  if c < stop then
    match cells.filter (fun x => x.1 == c) with
    | x :: _ => c + (if x.2.2 = 0 then 1 else x.2.2)
    | [] => c + 1
  else c + 1
noncomputable def paintFuel (emit : Int → List Str) (next : Int → Int) (lim : Int) : Nat → Int → List Str
  | 0, _ => []
  | n + 1, c => if c ≤ lim ∧ c < next c then emit c ++ paintFuel emit next lim n (next c) else []
noncomputable def paintLoop (emit : Int → List Str) (next : Int → Int) (lim c : Int) : List Str := paintFuel emit next lim (lim + 1 - c).toNat c
theorem paint_fuel {emit : Int → List Str} {next : Int → Int} {lim : Int} : ∀ (n m : Nat) (c : Int), (lim + 1 - c).toNat ≤ n → (lim + 1 - c).toNat ≤ m → paintFuel emit next lim n c = paintFuel emit next lim m c
  | 0, 0, _, _, _ => rfl
  | 0, m + 1, c, h1, _ => by
    show [] = if c ≤ lim ∧ c < next c then _ else _
    rw [if_neg (by omega)]
  | n + 1, 0, c, _, h2 => by
    show (if c ≤ lim ∧ c < next c then _ else _) = []
    rw [if_neg (by omega)]
  | n + 1, m + 1, c, h1, h2 => by
    show (if c ≤ lim ∧ c < next c then _ else _) = if c ≤ lim ∧ c < next c then _ else _
    by_cases h : c ≤ lim ∧ c < next c
    · rw [if_pos h, if_pos h, paint_fuel n m (next c) (by omega) (by omega)]
    · rw [if_neg h, if_neg h]
theorem paintLoop_go {emit : Int → List Str} {next : Int → Int} {lim c : Int} (h : c ≤ lim) (h2 : c < next c) : paintLoop emit next lim c = emit c ++ paintLoop emit next lim (next c) := by
  unfold paintLoop
  rw [paint_fuel _ ((lim + 1 - next c).toNat + 1 + (lim + 1 - c).toNat) c (Nat.le_refl _) (by omega), show (lim + 1 - next c).toNat + 1 + (lim + 1 - c).toNat = ((lim + 1 - next c).toNat + (lim + 1 - c).toNat) + 1 by omega]
  show (if c ≤ lim ∧ c < next c then _ else _) = _
  rw [if_pos ⟨h, h2⟩, paint_fuel _ (lim + 1 - next c).toNat (next c) (by omega) (Nat.le_refl _)]
theorem paintLoop_end {emit : Int → List Str} {next : Int → Int} {lim c : Int} (h : ¬ c ≤ lim) : paintLoop emit next lim c = [] := by
  unfold paintLoop
  rw [show (lim + 1 - c).toNat = 0 by omega]
  rfl
structure WS where
  pv : List Value
  pn : Nat
  txt : List Str
  col : Int
  tc : Tok
structure WSInv (emit : Int → List Str) (next : Int → Int) (lim : Int) (c : WS) : Prop where
  strs' : Paired StrV c.pv c.txt
  col0 : 0 ≤ c.col
  col1 : c.col ≤ 300
  text : c.txt ++ paintLoop emit next lim c.col = paintLoop emit next lim 0
  short : ∀ x ∈ c.txt, x.length ≤ 32
  len : c.txt.length ≤ 8 * c.col.toNat

theorem PArgs.toW {cells : List Cell} {seqs : List Mark} (h : PArgs cells seqs) : WArgs cells seqs := ⟨h.clen, h.mlen, fun c hc => ⟨(h.ccol c hc).1, (h.ccol c hc).2.1, (h.ccol c hc).2.2.1⟩, h.mcol, h.mkey⟩
theorem colMarks_short {cells : List Cell} {marks : List Mark} (hA : WArgs cells marks) (c : Int) : (colMarks (sortM marks) c).length ≤ 6 ∧ ∀ x ∈ colMarks (sortM marks) c, x.length ≤ 32 := colMarks_ok hA c
theorem contains_sub {z : Str} (h : ([Str.ofString "_", Str.ofString "seq_text", Str.ofString "cell_text", Str.ofString "cell_w"] : List Str).contains z = false) : ([Str.ofString "_", Str.ofString "seq_text"] : List Str).contains z = false := by
  simp only [List.contains_cons, List.contains_nil, Bool.or_eq_false_iff, Bool.or_false] at h ⊢
  exact ⟨h.1, h.2.1⟩
theorem wsinv_step {mk pc : Int → List Str} {next : Int → Int} {lim : Int} {c : WS} {pv : List Value} {ex : List Str} {pn : Nat} {nx : Int} {tc : Tok} (h : WSInv (fun c => mk c ++ pc c) next lim c) (hle : c.col ≤ lim) (hlim : lim ≤ 200) (hn1 : c.col < next c.col) (hn2 : next c.col ≤ c.col + 2)
    (hm : (mk c.col).length ≤ 6 ∧ ∀ x ∈ mk c.col, x.length ≤ 32) (hex : mk c.col ++ pc c.col = mk c.col ++ ex) (hpv : Paired StrV pv (c.txt ++ (mk c.col ++ ex))) (hl : ex.length ≤ 1) (hs : ∀ x ∈ ex, x.length ≤ 32) (hnx : next c.col = nx) :
    WSInv (fun c => mk c ++ pc c) next lim ⟨pv, pn, c.txt ++ (mk c.col ++ ex), nx, tc⟩ := by
  subst hnx
  have c0 := h.col0
  refine ⟨hpv, by show 0 ≤ next c.col; omega, by show next c.col ≤ 300; omega, ?_, ?_, ?_⟩
  · show (c.txt ++ (mk c.col ++ ex)) ++ paintLoop _ next lim (next c.col) = _
    rw [← h.text, paintLoop_go hle hn1, hex, List.append_assoc]
  · intro x hx
    rcases List.mem_append.mp hx with hx | hx
    · exact h.short x hx
    · exact (List.mem_append.mp hx).elim (hm.2 x) (hs x)
  · show (c.txt ++ (mk c.col ++ ex)).length ≤ 8 * (next c.col).toNat
    have := h.len
    have := hm.1
    simp only [List.length_append]
    omega

def pTop (cells : List Cell) (seqs : List Mark) : Int := if maxD (-1) (seqs.map (fun c => c.1)) > maxD (-1) (cells.map (fun c => c.1)) then maxD (-1) (seqs.map (fun c => c.1)) else maxD (-1) (cells.map (fun c => c.1))
def pLim (cells : List Cell) (seqs : List Mark) (stop : Int) : Int := if stop < pTop cells seqs then stop else pTop cells seqs
def farText (seqs : List Mark) (lim : Int) (ks : List Int) : List Str := (ks.filter (fun k => decide (lim < k))).flatMap (colMarks (sortM seqs))
noncomputable def paintText (cells : List Cell) (seqs : List Mark) (first stop : Int) (fill : Str) (ks : List Int) : List Str :=
  paintLoop (fun c => colMarks (sortM seqs) c ++ pCell cells first stop (maxD (-1) (cells.map (fun c => c.1))) fill c) (pNext cells stop) (pLim cells seqs stop) 0 ++ farText seqs (pLim cells seqs stop) ks
def PRet (cells : List Cell) (seqs : List Mark) (first stop : Int) (fill : Str) (v : Value) : Prop :=
  ∃ ks t, v = Value.str (Txt.join (Str.ofString "") (paintText cells seqs first stop fill ks)) t ∧ ks.Pairwise (· < ·) ∧ ∀ k, k ∈ ks ↔ ∃ x ∈ seqs, x.1 = k
structure FInv (seqs : List Mark) (lim : Int) (T0 : List Str) (ks : List Int) (i : Nat) (st : List Value × Nat × List Str) : Prop where
  strs' : Paired StrV st.1 st.2.2
  text : st.2.2 = T0 ++ farText seqs lim (ks.take i)
  short : ∀ x ∈ st.2.2, x.length ≤ 32
  len : st.2.2.length ≤ 2500 + 8 * i
theorem farText_snoc (seqs : List Mark) (lim : Int) (ks : List Int) (k : Int) : farText seqs lim (ks ++ [k]) = farText seqs lim ks ++ (if lim < k then colMarks (sortM seqs) k else []) := by
  unfold farText
  rw [List.filter_append, List.flatMap_append]
  congr 1
  by_cases h : lim < k
  · simp [h]
  · simp [h]
theorem strict_of {ks qs : List Int} (h1 : ks.Pairwise (· ≤ ·)) (h2 : ks.Perm qs) (h3 : qs.Nodup) : ks.Pairwise (· < ·) := by
  have h4 : ks.Nodup := h2.nodup_iff.mpr h3
  exact (h1.and h4).imp fun h => by omega

section
local macro_rules | `(tactic| walk_at "exec For Name Call") => `(tactic| (k_here; refine Hold.out ?_))
local macro_rules | `(tactic| walk_at "eval IfExp") => `(tactic| (k_here; refine Hold.out ?_))
local macro_rules | `(tactic| walk_at "exec While") => `(tactic| (k_here; refine Hold.out ?_))
local macro_rules | `(tactic| walk_at "exec While Compare") => `(tactic| (k_here; refine Hold.out ?_))
local macro_rules | `(tactic| walk_at "compareOp In int ref") => `(tactic| (k_here; refine Hold.out ?_))
local macro_rules | `(tactic| walk_at "exec For Name Name") => `(tactic| (k_here; refine Hold.out ?_))
local macro_rules | `(tactic| walk_at "call builtin:dict.setdefault") => `(tactic| (k_here; refine Hold.out ?_))
local macro_rules | `(tactic| walk_at "call builtin:dict.values") => `(tactic| (k_here; refine Hold.out ?_))
local macro_rules | `(tactic| walk_at "call builtin:dict.keys") => `(tactic| (k_here; refine Hold.out ?_))
local macro_rules | `(tactic| walk_at "call builtin:dict.get") => `(tactic| (k_here; refine Hold.out ?_))
local macro_rules | `(tactic| walk_at "call builtin:list.sort") => `(tactic| (k_here; refine Hold.out ?_))
set_option maxRecDepth 100000 in
set_option maxHeartbeats 8000000 in
theorem painter_ok (w : World) (mean : ExcName → Option Value) (mg mb : Str → Option Value) (C M : Addr) (oC : Obj) (ckv : List (Int × Value)) (sv : List Value) (nM : Nat) (cells : List Cell) (seqs : List Mark) (first stop : Int) (fill : Str) (t1 t2 t3 : Tok) (news : List (Addr × Obj))
  (hCA : CellsAt w C oC ckv cells news) (hM : (M, listOf sv.toArray nM) ∈ news) (hMP : Paired (MarkIn news) sv seqs) (hA : PArgs cells seqs) (hf0 : 0 ≤ first) (hf1 : first < 100) (hs0 : 0 ≤ stop) (hs1 : stop < 200) (hfl : fill.length ≤ 32) :
   CallOn w [] mean mg mb 21 1 (fun _ => True) [.ref C, .ref M, .int first t1, .int stop t2, .str fill t3] news (fun v news' => PRet cells seqs first stop fill v ∧ news' = news) := by
  w_top off
  unfold CallOn
  k_fill
  intro dp un gd cn cs a ccd cl outer A₀ base h₀ L m s Q E B F X N T hk hpre hd hu hret
  refine wpAny_call ?_
  k_dflt ktr_enter
  k_steps
  rename_i g' L' h1 FG' B' X' T' S h2 oS l1 lo hs fs hi fi h3 F1 N1
  clear hs fs fi
  k_dflt (refine For_invTF F1 ?_ (by intro _; rfl))
  k_steps
  unfold Hold
  have hml : sv.length = seqs.length := hMP.length
  have hm6 := hA.mlen
  refine lpT_list (σ := PSt) (PSt.led S news) (fun _ => []) [Str.ofString "col_pos", Str.ofString "order", Str.ofString "seq_text"] (PInv w S news seqs)
    ⟨[], [], oS⟩ rfl ?_ F1 N1 ?_ ?_ ?_ ?_ ?_ ?_ (l := M) (vs := sv) (nn := nM)
  · intro c; exact .tail _ (List.mem_append_right _ (List.mem_append_right _ hM))
  · intro p hp; exact hp
  · intro p hp; cases hp
  · exact ⟨hi, .nil, (fun _ h => nomatch h), (fun _ h => nomatch h), (fun p hp e => absurd (l1 p hp) (by rw [e]; exact Nat.lt_irrefl _)), (fun _ h => nomatch h), (fun _ h => nomatch h), (fun _ h => nomatch h), (fun _ h => nomatch h), Nat.le_refl _⟩
  · intro c i v u s1 own hin hoff hI F10 N10
    obtain ⟨x, hxi, a1, n1, u1, u2, u3, rfl, hm⟩ := paired_get hMP hin
    have N11 : News g' L' s1.heap ((S, c.oS) :: (c.gs.map Grp.cell ++ (c.tup ++ news) ++ own)) := N10
    generalize hrest : c.gs.map Grp.cell ++ (c.tup ++ news) ++ own = rest' at N11
    clear N10
    have hm4 : (a1, ({ cls := .type "tuple", data := .seq #[.int x.1 u1, .int x.2.1 u2, .str x.2.2 u3] n1 } : Obj)) ∈ (S, c.oS) :: rest' := .tail _ (by rw [← hrest]; exact List.mem_append_left _ (List.mem_append_right _ (List.mem_append_right _ hm)))
    have q1 : ∀ p ∈ rest', p.1 ≠ S := by
      intro p hp
      rw [← hrest] at hp
      rcases List.mem_append.mp hp with hp | hp
      · rcases List.mem_append.mp hp with hp | hp
        · obtain ⟨g, hg, rfl⟩ := List.mem_map.mp hp
          exact hI.offS g hg
        · exact hI.offT p hp
      · exact hoff p hp _ (.head _)
    clear hm
    have hcd := hI.hd
    have hi6 : i < 7 := by have := (List.getElem?_eq_some_iff.mp hin).1; omega
    k_steps
    rename_i l0 h5 F5 N5 l5
    unfold Hold
    subst hrest
    refine setdef_grp F5 N5 hI hoff (allLt_ne l5) lo (by have := (List.getElem?_eq_some_iff.mp hin).1; omega) fun pre g post oS' h6 tk6 hPM F6 N6 offg hSg hgv hsub => ?_
    generalize hrest : pre.map Grp.cell ++ post.map Grp.cell ++ (c.tup ++ news) ++ own = rest' at N6 offg
    k_steps
    rename_i T0 _ _ _ lT h7 F7 N7
    have lT2 := allLt_ne lT.2.2
    have hT : ∀ p ∈ pre.map Grp.cell ++ post.map Grp.cell ++ (c.tup ++ news) ++ own, p.1 ≠ T0 := by rw [hrest]; exact lT2
    have nd := hPM.nodup
    refine lpT_end (P := PInv w S news seqs (i + 1)) (c := ⟨pre ++ ⟨g.col, g.addr, g.vals ++ [.ref T0], g.cnt + 1, g.es ++ [(x.2.1, x.2.2)]⟩ :: post, (T0, { cls := .type "tuple", data := .seq #[.int x.2.1 u2, .str x.2.2 u3] }) :: c.tup, oS'⟩) (by assumption) (by assumption) ?_ ?_ ?_ ?_ ?_ ?_
    · subst hrest
      intro p hp
      simp only [PSt.led, List.map_append, List.map_cons, List.mem_cons, List.mem_append, Grp.cell, List.cons_append] at hp ⊢
      grind
    · subst hrest
      intro p hp
      simp only [List.mem_cons, List.mem_append]
      grind
    · intro p hp b hb
      obtain ⟨q, hq, rfl⟩ := List.mem_map.mp hb
      simp only [PSt.led, List.map_append, List.map_cons, List.mem_cons, List.mem_append, Grp.cell, List.cons_append] at hq
      have o1 : ∀ q ∈ PSt.led S news c, p.1 ≠ q.1 := fun q hq => hoff p hp _ (List.mem_map.mpr ⟨q, hq, rfl⟩)
      have o2 : ∀ g' ∈ pre ++ post, p.1 ≠ g'.addr := fun g' hg' => o1 g'.cell (.tail _ (List.mem_append_left _ (List.mem_map.mpr ⟨g', hsub g' hg', rfl⟩)))
      rcases hq with rfl | (hq | rfl | hq) | rfl | hq
      · exact o1 (S, c.oS) (.head _)
      · obtain ⟨g', hg', rfl⟩ := List.mem_map.mp hq
        exact o2 g' (List.mem_append_left _ hg')
      · exact offg p (by rw [← hrest]; exact List.mem_append_right _ hp)
      · obtain ⟨g', hg', rfl⟩ := List.mem_map.mp hq
        exact o2 g' (List.mem_append_right _ hg')
      · exact hT p (List.mem_append_right _ hp)
      · exact o1 q (.tail _ (List.mem_append_right _ (by simpa using hq)))
    · intro p hp; cases hp
    · intro z h1 h2
      have n1 : z ≠ Str.ofString "col_pos" := fun e => absurd h2 (by rw [e]; decide)
      have n2 : z ≠ Str.ofString "order" := fun e => absurd h2 (by rw [e]; decide)
      have n3 : z ≠ Str.ofString "seq_text" := fun e => absurd h2 (by rw [e]; decide)
      simp only [if_neg n1, if_neg n2, if_neg n3, kstB, h2, Bool.false_eq_true, if_false]
    · refine hPM.next hxi (Nat.ne_of_gt (by first | exact lT.2.1 | exact lT.1)) ?_
      intro g' hg'
      rcases mem_mid.mp hg' with rfl | hg'
      · exact Nat.ne_of_gt lT.1
      · exact fun e => hT g'.cell (List.mem_append_left _ (List.mem_append_left _ (by rw [← List.map_append]; exact List.mem_map.mpr ⟨g', hg', rfl⟩))) e.symm
  · intro c u h9 tk9 hI F10 N10'
    have N10 : News g' L' h9 ((S, c.oS) :: (c.gs.map Grp.cell ++ (c.tup ++ news))) := N10'
    clear N10'
    rw [hml] at hI
    k_steps
    unfold Hold
    k_dflt (refine For_invTF F10 ?_ (by intro _; rfl))
    have hcd := hI.hd
    k_steps
    unfold Hold
    refine kdl_view_values F10 N10 (.head _) hcd lo fun V h11 F11 N11 lV => ?_
    have lV2 : ∀ q ∈ (S, c.oS) :: (c.gs.map Grp.cell ++ (c.tup ++ news)), q.1 ≠ V := fun q hq => Nat.ne_of_lt (lV q hq)
    k_steps
    unfold Hold
    have hDof : h11.DictOf (PySem.intKind PySem.Challenge.rw_ax6028_01.row.prog w) S (c.gs.map Grp.kv) := Heap.dictOf_iff.mpr ⟨c.oS, (N11 _ (.tail _ (.head _))).1, hcd⟩
    obtain ⟨ep, hat⟩ := hDof.dictAt
    have hvv : h11.IsValuesView V S := ⟨_, (N11 _ (.head _)).1, rfl, rfl⟩
    have hSz : @Ne Nat S h11.objs.size := Nat.ne_of_lt (Heap.lt_size (N11 _ (.tail _ (.head _))).1)
    refine lpT_walk (σ := List Grp) (l := S) (ol := c.oS) (oI := { cls := .type "dict_valueiterator", data := .fields #[.ref S, .int 0 0, .int (c.gs.map Grp.kv).length 0, .int ep 0] })
      (fun gs => (V, { cls := .type "dict_values", data := .fields #[.ref S] }) :: (S, c.oS) :: (gs.map Grp.cell ++ (c.tup ++ news))) (fun _ => []) [Str.ofString "entries"] (SInv c) c.gs
      (Walks.dictValues (knd := PySem.intKind PySem.Challenge.rw_ax6028_01.row.prog w) rfl _ S hSz (c.gs.map Grp.kv) ep) ⟨⟨_, Heap.get?_push_size _ rfl, rfl, rfl⟩, hat.push _⟩ (fun i h st => st.1.imp fun o h => h.1)
      (fun E Q hq => wpAny_pyIter_values hvv hat hq) ?_ F11 N11 ?_ ?_ ?_ ?_ ?_ ?_
    · intro gs; exact .tail _ (.head _)
    · intro p hp; exact hp
    · intro p hp; cases hp
    · refine ⟨rfl, hI.vals, fun j g g' h1 h2 => by rw [h1] at h2; cases h2; exact List.Perm.refl _, fun j g' h1 => absurd h1 (Nat.not_lt_zero _)⟩
    · intro gs i v u2 s1 own hin hv hoff hS F12 N12
      obtain ⟨k, hk⟩ := hv
      obtain ⟨pre, g, post, g0, rfl, hpl, hgc, rfl, hg0⟩ := kv_at hS hk
      have N13 : News g' L' s1.heap ((g.addr, listOf g.vals.toArray g.cnt) :: ((V, ({ cls := .type "dict_values", data := .fields #[.ref S] } : Obj)) :: (S, c.oS) :: (pre.map Grp.cell ++ post.map Grp.cell ++ (c.tup ++ news) ++ own))) := cb_drop N12 (by
        intro p hp
        simp only [List.map_append, List.map_cons, List.mem_cons, List.mem_append, Grp.cell, List.cons_append] at hp ⊢
        grind)
      clear N12
      have hg' : g ∈ pre ++ g :: post := mem_mid.mpr (.inl rfl)
      obtain ⟨gc, hgc1, hgc2, hgc3⟩ := mem_kv hS.kv hg'
      have nd : ((pre ++ g :: post).map Grp.addr).Nodup := by rw [addr_kv hS.kv]; exact hI.nodup
      have offg : ∀ p ∈ (V, ({ cls := .type "dict_values", data := .fields #[.ref S] } : Obj)) :: (S, c.oS) :: (pre.map Grp.cell ++ post.map Grp.cell ++ (c.tup ++ news) ++ own), p.1 ≠ g.addr := by
        intro p hp
        rw [← hgc3]
        rcases List.mem_cons.mp hp with rfl | hp
        · exact fun e => lV2 gc.cell (.tail _ (List.mem_append_left _ (List.mem_map.mpr ⟨gc, hgc1, rfl⟩))) e.symm
        rcases List.mem_cons.mp hp with rfl | hp
        · exact fun e => hI.offS gc hgc1 e.symm
        rcases List.mem_append.mp hp with hp | hp
        · rcases List.mem_append.mp hp with hp | hp
          · rw [← List.map_append] at hp
            obtain ⟨g1, hg1, rfl⟩ := List.mem_map.mp hp
            rw [hgc3]
            exact nodup_ne nd g1 hg1
          · exact hI.offN gc hgc1 p hp
        · rw [hgc3]
          exact hoff p hp _ (List.mem_map.mpr ⟨g.cell, .tail _ (.tail _ (List.mem_append_left _ (List.mem_map.mpr ⟨g, hg', rfl⟩))), rfl⟩)
      have subT : ∀ p ∈ c.tup, p ∈ (V, ({ cls := .type "dict_values", data := .fields #[.ref S] } : Obj)) :: (S, c.oS) :: (pre.map Grp.cell ++ post.map Grp.cell ++ (c.tup ++ news) ++ own) := fun p hp => .tail _ (.tail _ (List.mem_append_left _ (List.mem_append_right _ (List.mem_append_left _ hp))))
      generalize hrest : (V, ({ cls := .type "dict_values", data := .fields #[.ref S] } : Obj)) :: (S, c.oS) :: (pre.map Grp.cell ++ post.map Grp.cell ++ (c.tup ++ news) ++ own) = rest' at N13 offg subT
      have hgi : (pre ++ g :: post)[i]? = some g := by rw [List.getElem?_append_right (by omega), show i - pre.length = 0 by omega]; rfl
      have hperm : g.es.Perm (ents seqs g0.col) := by
        have h1 := hS.perm i g0 g hg0 hgi
        rw [hI.cols g0 (List.mem_of_getElem? hg0), List.take_length] at h1
        exact h1
      have hkey : g.es.Pairwise (fun a b => a.1 ≠ b.1) := (List.Perm.pairwise_iff (fun h => Ne.symm h) hperm).mpr (ents_keys hA.mkey _)
      have hg64 : g.vals.length < 64 := by
        rw [(hS.vals g hg').length, hperm.length_eq]
        unfold ents
        rw [List.length_map]
        exact Nat.lt_of_le_of_lt (List.length_filter_le _ _) (by omega)
      k_steps
      rename_i h13 F13 N14
      unfold Hold
      refine lsort_T F13 N14 offg (tupKey_mono (entries_key (keys_inj hkey)) subT) (paired_mem (hS.vals g hg')) hkey hg64 fun cnt h14 ys zs F14 N14 hyz hpz hsz hlz => ?_
      k_steps
      refine lpT_end (P := SInv c (i + 1)) (c := pre ++ ⟨g.col, g.addr, ys, cnt, zs⟩ :: post) (by assumption) (by assumption) ?_ ?_ ?_ ?_ ?_ ?_
      · subst hrest
        intro p hp
        simp only [List.map_append, List.map_cons, List.mem_cons, List.mem_append, Grp.cell, List.cons_append] at hp ⊢
        grind
      · subst hrest
        intro p hp
        simp only [List.mem_cons, List.mem_append]
        grind
      · have e : ((V, ({ cls := .type "dict_values", data := .fields #[.ref S] } : Obj)) :: (S, c.oS) :: ((pre ++ (⟨g.col, g.addr, ys, cnt, zs⟩ : Grp) :: post).map Grp.cell ++ (c.tup ++ news))).map (·.1) = ((V, ({ cls := .type "dict_values", data := .fields #[.ref S] } : Obj)) :: (S, c.oS) :: ((pre ++ g :: post).map Grp.cell ++ (c.tup ++ news))).map (·.1) := by
          simp [Grp.cell]
        rw [e]
        exact hoff
      · intro p hp; cases hp
      · intro z h1 h2
        have n1 : z ≠ Str.ofString "entries" := fun e => absurd h2 (by rw [e]; decide)
        simp only [if_neg n1, kstB, h2, Bool.false_eq_true, if_false]
      · exact hS.next hpl (paired_unmem hyz) hpz hsz
    · intro gs u2 h12 tk12 hS F12 N12
      rw [List.length_map] at hS
      have G := gdone_of hA hI hS
      have sub0 : ∀ p ∈ news, p ∈ gs.map Grp.cell ++ (c.tup ++ news) := fun p hp => List.mem_append_right _ (List.mem_append_right _ hp)
      have offS : ∀ p ∈ gs.map Grp.cell ++ (c.tup ++ news), p.1 ≠ S := by
        intro p hp
        rcases List.mem_append.mp hp with hp | hp
        · obtain ⟨g, hg, rfl⟩ := List.mem_map.mp hp
          obtain ⟨gc, hgc1, hgc2, hgc3⟩ := mem_kv hS.kv hg
          show g.addr ≠ S
          rw [← hgc3]; exact hI.offS gc hgc1
        · exact hI.offT p hp
      have N13 : News g' L' h12 ((S, c.oS) :: (gs.map Grp.cell ++ (c.tup ++ news))) := cb_drop N12 fun p hp => .tail _ hp
      clear N12
      generalize gs.map Grp.cell ++ (c.tup ++ news) = base at G sub0 offS N13
      generalize gs.map Grp.kv = kvs at G
      generalize c.oS = oS at G N13
      clear hS hcd hat hDof F11 N11 hvv F10 N10 F1 N1
      have hC2 := (hCA.mono sub0).mono (fun p hp => (.tail (C, oC) (.tail (S, oS) hp) : p ∈ (C, oC) :: (S, oS) :: base))
      have N14 : News g' L' h12 ((C, oC) :: (S, oS) :: base) := fun p hp => (List.mem_cons.mp hp).elim (fun e => e ▸ N13 _ (.tail _ (sub0 _ hCA.hm))) (N13 p)
      clear N13
      have N13 := N14
      clear N14
      have hCm : (C, oC) ∈ (C, oC) :: (S, oS) :: base := .head _
      have loC := hC2.lo
      have hCd := hC2.hd
      have hGd := G.hd
      have hCl := hC2.len
      have hGl := G.len
      k_steps
      unfold Hold
      refine cut_eval F12 (fun t => .int (maxD (-1) (cells.map (fun c => c.1))) t) (news := (C, oC) :: (S, oS) :: base) (fun Q hq => ?_) (fun tl h15 tk15 F15 N15 => ?_)
      · refine wpAny_IfExp ?_
        k_steps
        refine truthy_D (s := { s with heap := h12, toks := _ }) N13 hCm hCd hC2.lo (by omega) ?_
        cases hck : ckv with
        | nil =>
          rw [maxD_nokeys hC2.keys (by rw [hck]; rfl)] at hq
          simp only [List.isEmpty_nil, Bool.not_true]
          k_steps
          exact hq _ _ _ (by assumption) (by assumption)
        | cons p r =>
          simp only [List.isEmpty_cons, Bool.not_false]
          k_steps
          unfold Hold
          refine kdl_view_keys (by assumption) (by assumption) hCm hCd hC2.lo fun V h16 F16 N16 lV => ?_
          k_steps
          unfold Hold
          refine max_keys rfl F16 N16 (.head _) (.tail _ hCm) hCd (by rw [hck]; exact Nat.succ_pos _) fun h17 K tK tkK F17 N17 hK1 hK2 => ?_
          rw [← maxD_keys hC2.keys (fun x hx => (hA.ccol x hx).1) hK1 hK2] at hq
          exact hq _ _ _ F17 (cb_drop N17 fun p hp => .tail _ hp)
      k_steps
      rename_i h16 F16 N16
      unfold Hold
      refine cut_eval F16 (fun t => .int (maxD (-1) (seqs.map (fun c => c.1))) t) (news := (C, oC) :: (S, oS) :: base) (fun Q hq => ?_) (fun tm h17 tk17 F17 N17 => ?_)
      · refine wpAny_IfExp ?_
        k_steps
        refine truthy_D (s := { s with heap := h16, toks := _ }) N16 (.tail _ (.head _)) hGd lo (by omega) ?_
        cases hck : kvs with
        | nil =>
          rw [maxD_nokeys G.keys (by rw [hck]; rfl)] at hq
          simp only [List.isEmpty_nil, Bool.not_true]
          k_steps
          exact hq _ _ _ (by assumption) (by assumption)
        | cons p r =>
          simp only [List.isEmpty_cons, Bool.not_false]
          k_steps
          unfold Hold
          refine kdl_view_keys (by assumption) (by assumption) (.tail _ (.head _)) hGd lo fun V h16 F16 N16 lV => ?_
          k_steps
          unfold Hold
          refine max_keys rfl F16 N16 (.head _) (.tail _ (.tail _ (.head _))) hGd (by rw [hck]; exact Nat.succ_pos _) fun h17 K tK tkK F17 N17 hK1 hK2 => ?_
          rw [← maxD_keys G.keys (fun x hx => (hA.mcol x hx).1) hK1 hK2] at hq
          exact hq _ _ _ F17 (cb_drop N17 fun p hp => .tail _ hp)
      k_steps
      rename_i P0 _ lP _ _ _ _ _ h18 F18 N18
      unfold Hold
      generalize hlast : maxD (-1) (cells.map (fun c => c.1)) = last at F18
      generalize hmseq : maxD (-1) (seqs.map (fun c => c.1)) = mseq at F18
      generalize htop : (if mseq > last then mseq else last) = top at F18
      generalize hlim : (if stop < top then stop else top) = lim at F18
      have hlim1 : lim ≤ 200 := by
        rw [← hlim]; split <;> omega
      have lPn := allLt_ne lP.2.2
      refine lpT_while (σ := WS) (fun c => (P0, listOf c.pv.toArray c.pn) :: (C, oC) :: (S, oS) :: base) (fun c => [(Str.ofString "walk_col", .int c.col c.tc)]) [Str.ofString "_", Str.ofString "seq_text", Str.ofString "cell_text", Str.ofString "cell_w"]
        (WSInv (fun c => colMarks (sortM seqs) c ++ pCell cells first stop last fill c) (pNext cells stop) lim) (fun c => (lim + 1 - c.col).toNat) ⟨[], 0, [], 0, ?tok⟩ F18 N18 ?_ ?hk ?_ ?_ ?_
      case hk => intro p hp; rw [List.mem_singleton.mp hp]; rfl
      · intro p hp; exact hp
      · exact ⟨.nil, Int.le_refl _, (show (0 : Int) ≤ 300 by decide), rfl, (fun _ h => nomatch h), Nat.zero_le _⟩
      · intro c u h19 tk19 hW F19 N19
        obtain ⟨wpv, w0, w1, wtx, wsh, wln⟩ := hW
        k_steps
        · rename_i hle
          refine cut_for [Str.ofString "_", Str.ofString "seq_text"] (fun pv pn => (P0, listOf pv.toArray pn) :: (C, oC) :: (S, oS) :: base) (fun pv => Paired StrV pv (c.txt ++ colMarks (sortM seqs) c.col)) F19 (fun Q hq => ?_) (fun pv pn u2 h20 tk20 F20 N20 hpv => ?_)
          · k_dflt (refine For_invTF F19 ?_ (by intro _; rfl))
            k_steps
            unfold Hold
            rename_i D0 h20 F20 N20 lD0
            refine kdg_get2 N20 (.tail _ (.tail _ (.tail _ (.head _)))) hGd lo (intKind_is _ _ _ _) _ rfl ?_
            cases hva : valueAt kvs c.col with
            | none =>
              rw [G.miss _ hva, List.append_nil] at hq
              simp only [Option.getD_none]
              k_steps
              unfold Hold
              have htu : h20.IsTuple D0 #[] := ⟨_, (N20 _ (.head _)).1, rfl, 0, rfl⟩
              have hne : @Ne Nat D0 h20.objs.size := Nat.ne_of_lt (Heap.lt_size (N20 _ (.head _)).1)
              refine lpT_walk (σ := Unit) (l := D0) (ol := { cls := .type "tuple", data := .seq #[] }) (oI := { cls := .type "tuple_iterator", data := .fields #[.ref D0, .int 0 0] })
                (fun _ => (D0, { cls := .type "tuple", data := .seq #[] }) :: (P0, listOf c.pv.toArray c.pn) :: (C, oC) :: (S, oS) :: base) (fun _ => []) [Str.ofString "_", Str.ofString "seq_text"] (fun _ _ => True) ()
                (Walks.tuple rfl _ D0 hne #[]) ⟨⟨_, Heap.get?_push_size _ rfl, rfl, rfl⟩, htu.push _⟩ (fun i h st => st.1.imp fun o h => h.1) (fun E Q hq => wpAny_pyIter_tuple htu hq) ?_ F20 N20 ?_ ?_ trivial ?_ ?_ ?_
              · intro _; exact .head _
              · intro p hp; exact hp
              · intro p hp; cases hp
              · intro _ i v u2 s1 own hin; exact absurd hin (Nat.not_lt_zero _)
              · intro _ u2 h21 tk21 _ F21 N21
                exact hq _ _ u2 _ _ F21 (cb_drop N21 fun p hp => .tail _ hp) wpv
              · intro i s' v Q' st hQ'
                exact letGo_tupleiter st.1 hQ'
            | some v =>
              obtain ⟨al, vals, cal, es, rfl, hal, hvs, hes, hel, hesh⟩ := G.look _ _ hva
              rw [← hes] at hq
              have hvl := hvs.length
              simp only [Option.getD_some]
              k_steps
              unfold Hold
              refine lpT_list (σ := List Value × Nat × List Str) (fun st => (P0, listOf st.1.toArray st.2.1) :: (C, oC) :: (S, oS) :: base) (fun _ => []) [Str.ofString "_", Str.ofString "seq_text"] (fun i st => Paired StrV st.1 st.2.2 ∧ st.2.2 = c.txt ++ (es.take i).map (·.2)) (c.pv, c.pn, c.txt)
                rfl ?_ F20 N20 ?_ ?_ ?_ ?_ ?_ ?_ (l := al) (vs := vals) (nn := cal)
              · intro st; exact .tail _ (.tail _ (.tail _ hal))
              · intro p hp; exact .tail _ hp
              · intro p hp; cases hp
              · exact ⟨wpv, by simp⟩
              · intro st i v u2 s1 own hin hoff hst F21 N21
                obtain ⟨e, hei, at1, nt1, v1, v2, rfl, hmt⟩ := paired_get hvs hin
                obtain ⟨hst1, hst2⟩ := hst
                have N22 : News g' L' s1.heap ((P0, listOf st.1.toArray st.2.1) :: (C, oC) :: (S, oS) :: (base ++ own)) := N21
                clear N21
                have hmt2 : (at1, ({ cls := .type "tuple", data := .seq #[.int e.1 v1, .str e.2 v2] nt1 } : Obj)) ∈ (P0, listOf st.1.toArray st.2.1) :: (C, oC) :: (S, oS) :: (base ++ own) := .tail _ (.tail _ (.tail _ (List.mem_append_left _ hmt)))
                have hbo : ∀ p ∈ base ++ own, p.1 ≠ P0 := by
                  intro p hp
                  rcases List.mem_append.mp hp with hp | hp
                  · exact lPn p hp
                  · exact hoff p hp _ (.head _)
                generalize hrst : base ++ own = rest' at N22 hmt2 hbo
                have hl4 : st.1.length ≤ 4000 := by
                  have h1 := hst1.length
                  rw [h1, hst2, List.length_append, List.length_map, List.length_take]
                  omega
                k_steps
                refine lpT_end (σ := List Value × Nat × List Str) (P := fun st => Paired StrV st.1 st.2.2 ∧ st.2.2 = c.txt ++ (es.take (i + 1)).map (·.2)) (c := (st.1 ++ [Value.str e.2 v2], st.2.1 + 1, st.2.2 ++ [e.2])) (by assumption) (by assumption) ?_ ?_ hoff ?_ ?_ ?_
                · intro p hp
                  simp only [List.mem_cons, ← hrst, List.mem_append] at hp ⊢
                  grind
                · intro p hp
                  simp only [List.mem_cons, ← hrst, List.mem_append]
                  grind
                · intro p hp; cases hp
                · intro z h1 h2
                  have n1 : z ≠ Str.ofString "_" := fun e => absurd h2 (by rw [e]; decide)
                  have n2 : z ≠ Str.ofString "seq_text" := fun e => absurd h2 (by rw [e]; decide)
                  simp only [if_neg n1, if_neg n2, kstB, h2, Bool.false_eq_true, if_false]
                · refine ⟨paired_append hst1 (.cons ⟨_, rfl⟩ .nil), ?_⟩
                  show st.2.2 ++ [e.2] = _
                  rw [hst2, take_snoc hei, List.map_append, List.append_assoc]; rfl
              · intro st u2 h21 tk21 hst F21 N21
                refine hq _ _ u2 _ _ F21 N21 ?_
                rw [hvl, List.take_length] at hst
                rw [← hst.2]; exact hst.1
              · intro i s' v Q' st hQ'
                exact letGo_listiter st hQ'
          · have hcm := colMarks_short hA.toW c.col
            have hpl : pv.length ≤ 3000 := by
              rw [hpv.length, List.length_append]; omega
            k_steps
            · rename_i hst h21 F21 N21
              have hnx : pNext cells stop c.col = c.col + 1 := by unfold pNext; rw [if_neg (by omega)]
              have hpc : pCell cells first stop last fill c.col = [] := by unfold pCell; rw [if_neg (by omega)]
              refine lpW_cont ⟨pv, pn, c.txt ++ (colMarks (sortM seqs) c.col ++ []), c.col + 1, ?tc1⟩ F21 N21 (fun p hp => hp) ?hk1 ?_ ?_ ?_
              case hk1 => intro p hp; rw [List.mem_singleton.mp hp]; rfl
              · intro z h1 h2
                have n1 : z ≠ Str.ofString "walk_col" := h1 _ (List.mem_singleton.mpr rfl)
                have n2 : ([Str.ofString "_", Str.ofString "seq_text"] : List Str).contains z = false := contains_sub h2
                simp only [if_neg n1, kstB, h2, n2, Bool.false_eq_true, if_false]
              · show (lim + 1 - (c.col + 1)).toNat < (lim + 1 - c.col).toNat
                omega
              · exact wsinv_step ⟨wpv, w0, w1, wtx, wsh, wln⟩ hle hlim1 (by rw [hnx]; omega) (by rw [hnx]; omega) hcm (by rw [hpc]) (by simpa using hpv) (Nat.zero_le _) (fun _ h => nomatch h) hnx
            · rename_i hst
              unfold Hold
              refine kda_in N20 (.tail _ (.head _)) hCd loC (intKind_is _ _ _ _) _ rfl ?_
              cases hvc : valueAt ckv c.col with
              | none =>
                have hfc := hC2.miss _ hvc
                have hnx : pNext cells stop c.col = c.col + 1 := by unfold pNext; rw [if_pos (by omega), hfc]
                simp only [Option.isSome_none]
                k_steps
                · rename_i g1 g2 _ h21 F21 N21
                  have hpc : pCell cells first stop last fill c.col = [fill] := by unfold pCell; rw [if_pos (by omega), hfc]; dsimp only; rw [if_pos ⟨by omega, by omega⟩]
                  refine lpW_next ⟨pv ++ [Value.str fill t3], pn + 1, c.txt ++ (colMarks (sortM seqs) c.col ++ [fill]), c.col + 1, ?tc2⟩ F21 N21 (fun p hp => hp) ?hk2 ?_ ?_ ?_
                  case hk2 => intro p hp; rw [List.mem_singleton.mp hp]; rfl
                  · intro z h1 h2
                    have n1 : z ≠ Str.ofString "walk_col" := h1 _ (List.mem_singleton.mpr rfl)
                    have n2 : ([Str.ofString "_", Str.ofString "seq_text"] : List Str).contains z = false := contains_sub h2
                    simp only [if_neg n1, kstB, h2, n2, Bool.false_eq_true, if_false]
                  · show (lim + 1 - (c.col + 1)).toNat < (lim + 1 - c.col).toNat
                    omega
                  · exact wsinv_step ⟨wpv, w0, w1, wtx, wsh, wln⟩ hle hlim1 (by rw [hnx]; omega) (by rw [hnx]; omega) hcm (by rw [hpc]) (by rw [← List.append_assoc]; exact paired_append hpv (.cons ⟨_, rfl⟩ .nil)) (Nat.le_refl _) (fun x hx => by rw [List.mem_singleton.mp hx]; exact hfl) hnx
                · rename_i g1 g2 h21 F21 N21
                  have hpc : pCell cells first stop last fill c.col = [] := by unfold pCell; rw [if_pos (by omega), hfc]; dsimp only; rw [if_neg (by omega)]
                  refine lpW_next ⟨pv, pn, c.txt ++ (colMarks (sortM seqs) c.col ++ []), c.col + 1, ?tc3⟩ F21 N21 (fun p hp => hp) ?hk3 ?_ ?_ ?_
                  case hk3 => intro p hp; rw [List.mem_singleton.mp hp]; rfl
                  · intro z h1 h2
                    have n1 : z ≠ Str.ofString "walk_col" := h1 _ (List.mem_singleton.mpr rfl)
                    have n2 : ([Str.ofString "_", Str.ofString "seq_text"] : List Str).contains z = false := contains_sub h2
                    simp only [if_neg n1, kstB, h2, n2, Bool.false_eq_true, if_false]
                  · show (lim + 1 - (c.col + 1)).toNat < (lim + 1 - c.col).toNat
                    omega
                  · exact wsinv_step ⟨wpv, w0, w1, wtx, wsh, wln⟩ hle hlim1 (by rw [hnx]; omega) (by rw [hnx]; omega) hcm (by rw [hpc]) (by simpa using hpv) (Nat.zero_le _) (fun _ h => nomatch h) hnx
                · rename_i g1 h21 F21 N21
                  have hpc : pCell cells first stop last fill c.col = [] := by unfold pCell; rw [if_pos (by omega), hfc]; dsimp only; rw [if_neg (by omega)]
                  refine lpW_next ⟨pv, pn, c.txt ++ (colMarks (sortM seqs) c.col ++ []), c.col + 1, ?tc4⟩ F21 N21 (fun p hp => hp) ?hk4 ?_ ?_ ?_
                  case hk4 => intro p hp; rw [List.mem_singleton.mp hp]; rfl
                  · intro z h1 h2
                    have n1 : z ≠ Str.ofString "walk_col" := h1 _ (List.mem_singleton.mpr rfl)
                    have n2 : ([Str.ofString "_", Str.ofString "seq_text"] : List Str).contains z = false := contains_sub h2
                    simp only [if_neg n1, kstB, h2, n2, Bool.false_eq_true, if_false]
                  · show (lim + 1 - (c.col + 1)).toNat < (lim + 1 - c.col).toNat
                    omega
                  · exact wsinv_step ⟨wpv, w0, w1, wtx, wsh, wln⟩ hle hlim1 (by rw [hnx]; omega) (by rw [hnx]; omega) hcm (by rw [hpc]) (by simpa using hpv) (Nat.zero_le _) (fun _ h => nomatch h) hnx
              | some v =>
                obtain ⟨x, r, hfc, ax, nx, x1, x2, rfl, hmx⟩ := hC2.look _ _ hvc
                simp only [Option.isSome_some]
                have hcx := List.mem_filter.mp (show x ∈ cells.filter (fun x => x.1 == c.col) by rw [hfc]; exact .head _)
                obtain ⟨b1, b2, b3, b4, b5⟩ := hA.ccol x hcx.1
                have hmx2 : (ax, ({ cls := .type "tuple", data := .seq #[.str x.2.1 x1, .int x.2.2 x2] nx } : Obj)) ∈ (P0, listOf pv.toArray pn) :: (C, oC) :: (S, oS) :: base := .tail _ hmx
                clear hmx
                have hpc : pCell cells first stop last fill c.col = [x.2.1] := by unfold pCell; rw [if_pos (by omega), hfc]
                have hnx : pNext cells stop c.col = c.col + (if x.2.2 = 0 then 1 else x.2.2) := by unfold pNext; rw [if_pos (by omega), hfc]
                k_steps
                refine kda_item (s := { s with heap := h20, toks := _ }) N20 (.tail _ (.head _)) hCd (intKind_is _ _ _ _) hvc ?_
                k_steps
                · rename_i hw0 h21 F21 N21
                  rw [if_neg hw0] at hnx
                  refine lpW_next ⟨pv ++ [Value.str x.2.1 x1], pn + 1, c.txt ++ (colMarks (sortM seqs) c.col ++ [x.2.1]), c.col + x.2.2, ?tc5⟩ F21 N21 (fun p hp => hp) ?hk5 ?_ ?_ ?_
                  case hk5 => intro p hp; rw [List.mem_singleton.mp hp]; rfl
                  · intro z h1 h2
                    have n1 : z ≠ Str.ofString "walk_col" := h1 _ (List.mem_singleton.mpr rfl)
                    have n2 : ([Str.ofString "_", Str.ofString "seq_text"] : List Str).contains z = false := contains_sub h2
                    have n3 : z ≠ Str.ofString "cell_text" := fun e => absurd h2 (by rw [e]; decide)
                    have n4 : z ≠ Str.ofString "cell_w" := fun e => absurd h2 (by rw [e]; decide)
                    simp only [if_neg n1, if_neg n3, if_neg n4, kstB, h2, n2, Bool.false_eq_true, if_false]
                  · show (lim + 1 - (c.col + x.2.2)).toNat < (lim + 1 - c.col).toNat
                    omega
                  · exact wsinv_step ⟨wpv, w0, w1, wtx, wsh, wln⟩ hle hlim1 (by rw [hnx]; omega) (by rw [hnx]; omega) hcm (by rw [hpc]) (by rw [← List.append_assoc]; exact paired_append hpv (.cons ⟨_, rfl⟩ .nil)) (Nat.le_refl _) (fun y hy => by rw [List.mem_singleton.mp hy]; exact b3) hnx
                · rename_i hw0 h21 F21 N21
                  rw [if_pos (by omega)] at hnx
                  refine lpW_next ⟨pv ++ [Value.str x.2.1 x1], pn + 1, c.txt ++ (colMarks (sortM seqs) c.col ++ [x.2.1]), c.col + 1, ?tc6⟩ F21 N21 (fun p hp => hp) ?hk6 ?_ ?_ ?_
                  case hk6 => intro p hp; rw [List.mem_singleton.mp hp]; rfl
                  · intro z h1 h2
                    have n1 : z ≠ Str.ofString "walk_col" := h1 _ (List.mem_singleton.mpr rfl)
                    have n2 : ([Str.ofString "_", Str.ofString "seq_text"] : List Str).contains z = false := contains_sub h2
                    have n3 : z ≠ Str.ofString "cell_text" := fun e => absurd h2 (by rw [e]; decide)
                    have n4 : z ≠ Str.ofString "cell_w" := fun e => absurd h2 (by rw [e]; decide)
                    simp only [if_neg n1, if_neg n3, if_neg n4, kstB, h2, n2, Bool.false_eq_true, if_false]
                  · show (lim + 1 - (c.col + 1)).toNat < (lim + 1 - c.col).toNat
                    omega
                  · exact wsinv_step ⟨wpv, w0, w1, wtx, wsh, wln⟩ hle hlim1 (by rw [hnx]; omega) (by rw [hnx]; omega) hcm (by rw [hpc]) (by rw [← List.append_assoc]; exact paired_append hpv (.cons ⟨_, rfl⟩ .nil)) (Nat.le_refl _) (fun y hy => by rw [List.mem_singleton.mp hy]; exact b3) hnx
        · unfold Hold
          rename_i hgt
          refine kdl_view_keys (by assumption) N19 (.tail _ (.tail _ (.head _))) hGd lo fun V2 h20 F20 N20 lV2' => ?_
          k_steps
          unfold Hold
          refine sorted_keys rfl F20 N20 (.head _) (.tail _ (.tail _ (.tail _ (.head _)))) hGd (by omega) fun DK cK h21 tk21 kv2 ks F21 N21' hDK hks hperm hsort => ?_
          have N21 : News g' L' h21 ((DK, listOf kv2.toArray cK) :: (P0, listOf c.pv.toArray c.pn) :: (C, oC) :: (S, oS) :: base) := cb_drop N21' fun p hp => by
            rcases List.mem_cons.mp hp with rfl | hp
            · exact .head _
            · exact .tail _ (.tail _ hp)
          k_steps
          unfold Hold
          have hkl : kv2.length = ks.length := hks.length
          have hkl2 : ks.length ≤ 6 := by rw [hperm.length_eq, List.length_map]; exact hGl
          have hct : c.txt.length ≤ 2500 := by omega
          have hDP : @Ne Nat DK P0 := fun e => hDK _ (.tail _ (.head _)) e.symm
          have hend : paintLoop (fun c => colMarks (sortM seqs) c ++ pCell cells first stop last fill c) (pNext cells stop) lim 0 = c.txt := by
            rw [← wtx, paintLoop_end (by omega), List.append_nil]
          refine lp_list (σ := List Value × Nat × List Str) (fun st => (DK, listOf kv2.toArray cK) :: (P0, listOf st.1.toArray st.2.1) :: (C, oC) :: (S, oS) :: base) (fun _ => []) [Str.ofString "_", Str.ofString "seq_text"] (FInv seqs lim c.txt ks) (c.pv, c.pn, c.txt)
            rfl ?_ F21 N21 ?_ ?_ ?_ ?_ ?_ (l := DK) (vs := kv2) (nn := cK)
          · intro st; exact .head _
          · intro p hp; exact hp
          · intro p hp; cases hp
          · exact ⟨wpv, by simp [farText], wsh, by omega⟩
          · intro st i v u2 h22 tk22 own hin hoff hst F22 N22
            obtain ⟨k, tk, rfl, hki⟩ := hks.at i v hin
            obtain ⟨f1, f2, f3, f4⟩ := hst
            have hi6 : i < 6 := by have := (List.getElem?_eq_some_iff.mp hin).1; omega
            have hfl1 := f1.length
            have N23 : News g' L' h22 ((DK, listOf kv2.toArray cK) :: (P0, listOf st.1.toArray st.2.1) :: (C, oC) :: (S, oS) :: (base ++ own)) := N22
            clear N22
            have hbo : ∀ p ∈ base ++ own, p.1 ≠ P0 := by
              intro p hp
              rcases List.mem_append.mp hp with hp | hp
              · exact lPn p hp
              · exact hoff p hp _ (.tail _ (.head _))
            have hbs : ∀ p ∈ base, p ∈ base ++ own := fun p hp => List.mem_append_left _ hp
            generalize hrst : base ++ own = rest' at N23 hbo hbs
            k_steps
            · rename_i hlk
              obtain ⟨v, hva⟩ : ∃ v, valueAt kvs k = some v := Option.isSome_iff_exists.mp (valueAt_isSome_iff.mpr (hperm.mem_iff.mp (List.mem_of_getElem? hki)))
              obtain ⟨al, vals, cal, es, rfl, hal, hvs, hes, hel, hesh⟩ := G.look _ _ hva
              have hvl := hvs.length
              k_dflt (refine For_invTF (by assumption) ?_ (by intro _; rfl))
              k_steps
              refine kda_item (s := { s with heap := h22, toks := _ }) N23 (.tail _ (.tail _ (.tail _ (.head _)))) hGd (intKind_is _ _ _ _) hva ?_
              k_steps
              unfold Hold
              refine lpT_list (σ := List Value × Nat × List Str) (fun q => (DK, listOf kv2.toArray cK) :: (P0, listOf q.1.toArray q.2.1) :: (C, oC) :: (S, oS) :: rest') (fun _ => []) [Str.ofString "_", Str.ofString "seq_text"] (fun j q => Paired StrV q.1 q.2.2 ∧ q.2.2 = st.2.2 ++ (es.take j).map (·.2)) st
                rfl ?_ (by assumption) N23 ?_ ?_ ?_ ?_ ?_ ?_ (l := al) (vs := vals) (nn := cal)
              · intro q; exact .tail _ (.tail _ (.tail _ (.tail _ (hbs _ hal))))
              · intro p hp; exact hp
              · intro p hp; cases hp
              · exact ⟨f1, by simp⟩
              · intro q j v u3 s1 own2 hin2 hoff2 hq F24 N24
                obtain ⟨e, hei, at1, nt1, v1, v2, rfl, hmt⟩ := paired_get hvs hin2
                obtain ⟨hq1, hq2⟩ := hq
                have N25 : News g' L' s1.heap ((DK, listOf kv2.toArray cK) :: (P0, listOf q.1.toArray q.2.1) :: (C, oC) :: (S, oS) :: (rest' ++ own2)) := N24
                clear N24
                have hmt2 : (at1, ({ cls := .type "tuple", data := .seq #[.int e.1 v1, .str e.2 v2] nt1 } : Obj)) ∈ (DK, listOf kv2.toArray cK) :: (P0, listOf q.1.toArray q.2.1) :: (C, oC) :: (S, oS) :: (rest' ++ own2) := .tail _ (.tail _ (.tail _ (.tail _ (List.mem_append_left _ (hbs _ hmt)))))
                have hbo2 : ∀ p ∈ rest' ++ own2, p.1 ≠ P0 := by
                  intro p hp
                  rcases List.mem_append.mp hp with hp | hp
                  · exact hbo p hp
                  · exact hoff2 p hp _ (.tail _ (.head _))
                generalize hrst2 : rest' ++ own2 = rest2 at N25 hmt2 hbo2
                have hl4 : q.1.length ≤ 4000 := by
                  have h1 := hq1.length
                  rw [h1, hq2, List.length_append, List.length_map, List.length_take]
                  omega
                k_steps
                refine lpT_end (σ := List Value × Nat × List Str) (P := fun q => Paired StrV q.1 q.2.2 ∧ q.2.2 = st.2.2 ++ (es.take (j + 1)).map (·.2)) (c := (q.1 ++ [Value.str e.2 v2], q.2.1 + 1, q.2.2 ++ [e.2])) (by assumption) (by assumption) ?_ ?_ hoff2 ?_ ?_ ?_
                · intro p hp
                  simp only [List.mem_cons, ← hrst2, List.mem_append] at hp ⊢
                  grind
                · intro p hp
                  simp only [List.mem_cons, ← hrst2, List.mem_append]
                  grind
                · intro p hp; cases hp
                · intro z h1 h2
                  have n1 : z ≠ Str.ofString "_" := fun e => absurd h2 (by rw [e]; decide)
                  have n2 : z ≠ Str.ofString "seq_text" := fun e => absurd h2 (by rw [e]; decide)
                  simp only [if_neg n1, if_neg n2, kstB, h2, Bool.false_eq_true, if_false]
                · refine ⟨paired_append hq1 (.cons ⟨_, rfl⟩ .nil), ?_⟩
                  show q.2.2 ++ [e.2] = _
                  rw [hq2, take_snoc hei, List.map_append, List.append_assoc]; rfl
              · intro q u3 h24 tk24 hq F24 N24
                obtain ⟨hq1, hq2⟩ := hq
                rw [hvl, List.take_length, hes] at hq2
                have hcm := colMarks_short hA.toW k
                k_steps
                refine lp_end (P := FInv seqs lim c.txt ks (i + 1)) (c := q) (by assumption) N24 ?_ ?_ hoff ?_ ?_ ?_
                · intro p hp
                  simp only [List.mem_cons, ← hrst, List.mem_append] at hp ⊢
                  grind
                · intro p hp
                  simp only [List.mem_cons, ← hrst, List.mem_append]
                  grind
                · intro p hp; cases hp
                · intro z h1 h2 h3
                  simp only [if_neg h1, kstB, h3, Bool.false_eq_true, if_false]
                · refine ⟨hq1, ?_, ?_, ?_⟩
                  · rw [hq2, f2, take_snoc hki, farText_snoc, if_pos hlk, List.append_assoc]
                  · rw [hq2]
                    intro x hx
                    exact (List.mem_append.mp hx).elim (f3 x) (hcm.2 x)
                  · rw [hq2, List.length_append]; omega
              · intro j s' v Q' st hQ'
                exact letGo_listiter st hQ'
            · rename_i hlk
              refine lp_end (P := FInv seqs lim c.txt ks (i + 1)) (c := st) (by assumption) N23 ?_ ?_ hoff ?_ ?_ ?_
              · intro p hp
                simp only [List.mem_cons, ← hrst, List.mem_append] at hp ⊢
                grind
              · intro p hp
                simp only [List.mem_cons, ← hrst, List.mem_append]
                grind
              · intro p hp; cases hp
              · intro z h1 h2 h3
                simp only [if_neg h1, kstB, h3, Bool.false_eq_true, if_false]
              · refine ⟨f1, ?_, f3, by omega⟩
                rw [f2, take_snoc hki, farText_snoc, if_neg (by omega), List.append_nil]
          · intro st u2 h22 tk22 hst F22 N22
            obtain ⟨f1, f2, f3, f4⟩ := hst
            rw [hkl, List.take_length] at f2
            have hN22 : News g' L' h22 ((DK, listOf kv2.toArray cK) :: (P0, listOf st.1.toArray st.2.1) :: (C, oC) :: (S, oS) :: base) := N22
            clear N22
            k_steps
            unfold Hold
            refine join_L hN22 (.tail _ (.head _)) f1 (by omega) f3 fun tj kj => ?_
            k_steps
            rename_i kF kN Tc' kX
            refine hret _ _ _ _ (by assumption) (cb_drop kN fun p hp => .tail _ (.tail _ (.tail _ (.tail _ (sub0 p hp))))) ⟨⟨ks, tj, ?_, ?_, ?_⟩, rfl⟩
            · have hpl : pLim cells seqs stop = lim := by
                unfold pLim pTop
                rw [hlast, hmseq, htop, hlim]
              unfold paintText
              rw [hpl, hlast, hend, f2]
            · obtain ⟨_, _, _, _, _, _, hn⟩ := hGd
              exact strict_of hsort hperm hn
            · intro k
              rw [hperm.mem_iff]
              exact G.keys k
      · first | passes_own | with_unfolding_all passes_own
    · intro i s' v Q' st hQ'
      exact wpAny_pure hQ'
  · intro i s' v Q' st hQ'
    exact letGo_listiter st hQ'
end

theorem outTo_cons (f : Nat → List Str) (n : Nat) : outTo f (n + 1) = f 0 ++ outTo (fun j => f (j + 1)) n := by
  unfold outTo
  rw [List.range_succ_eq_map, List.flatMap_cons, List.flatMap_map]
theorem outTo_congr {f g : Nat → List Str} {n : Nat} (h : ∀ j, j < n → f j = g j) : outTo f n = outTo g n := by
  unfold outTo
  rw [List.flatMap_def, List.flatMap_def]
  congr 1
  exact List.map_congr_left fun j hj => h j (List.mem_range.mp hj)

/-- columns that stand in no list give nothing -/
theorem far_eq (f : Int → List Str) : ∀ (n : Nat) (a : Int) (ks : List Int), ks.Pairwise (· < ·) → (∀ k ∈ ks, a ≤ k ∧ k < a + n) → (∀ c, a ≤ c → c ∉ ks → f c = []) → ks.flatMap f = outTo (fun j => f (a + (j : Int))) n
  | 0, a, ks, _, hb, _ => by
    cases ks with
    | nil => rfl
    | cons k r => have := hb k (.head _); omega
  | n + 1, a, ks, hp, hb, hz => by
    have e1 : (fun j : Nat => f (a + ((j + 1 : Nat) : Int))) = fun j : Nat => f (a + 1 + (j : Int)) := by
      funext j
      congr 1
      omega
    have e0 : f (a + ((0 : Nat) : Int)) = f a := by congr 1; omega
    rw [outTo_cons, e1, e0]
    by_cases ha : a ∈ ks
    · cases ks with
      | nil => cases ha
      | cons k r =>
        have hk := (List.pairwise_cons.mp hp).1
        have e : k = a := by
          rcases List.mem_cons.mp ha with e | e
          · exact e.symm
          · have h1 := hk a e
            have h2 := (hb k (.head _)).1
            omega
        subst e
        rw [List.flatMap_cons]
        congr 1
        refine far_eq f n (k + 1) r (List.pairwise_cons.mp hp).2 ?_ ?_
        · intro c hc
          have h1 := hk c hc
          have h2 := (hb c (.tail _ hc)).2
          omega
        · intro c hc h1
          refine hz c (by omega) fun h3 => ?_
          rcases List.mem_cons.mp h3 with h3 | h3
          · omega
          · exact h1 h3
    · rw [hz a (Int.le_refl _) ha, List.nil_append]
      refine far_eq f n (a + 1) ks hp ?_ fun c h1 h2 => hz c (by omega) h2
      intro k hk
      have h1 := hb k hk
      have h2 : k ≠ a := fun e => ha (e ▸ hk)
      omega

section
variable {cells : List Cell}
theorem good_apart (G : RowGood cells) {x y : Cell} (hx : x ∈ cells) (hy : y ∈ cells) : x = y ∨ x.1 + adv x ≤ y.1 ∨ y.1 + adv y ≤ x.1 := by
  obtain ⟨i, hi, rfl⟩ := List.getElem_of_mem hx
  obtain ⟨j, hj, rfl⟩ := List.getElem_of_mem hy
  rcases Nat.lt_trichotomy i j with h | h | h
  · exact .inr (.inl (List.pairwise_iff_getElem.mp G.pw i j hi hj h))
  · subst h; exact .inl rfl
  · exact .inr (.inr (List.pairwise_iff_getElem.mp G.pw j i hj hi h))
theorem adv_pos (x : Cell) : 1 ≤ adv x ∧ adv x ≤ 2 ∧ (x.2.2 = 2 → adv x = 2) ∧ (x.2.2 ≠ 2 → adv x = 1) := by
  unfold adv
  split <;> omega
theorem within_iff {c : Int} : isWithin cells c = true ↔ ∃ x ∈ cells, x.2.2 = 2 ∧ x.1 + 1 = c := by
  unfold isWithin
  rw [List.any_eq_true]
  constructor
  · rintro ⟨x, hx, h⟩
    simp only [Bool.and_eq_true, beq_iff_eq] at h
    exact ⟨x, hx, h⟩
  · rintro ⟨x, hx, h⟩
    exact ⟨x, hx, by simpa using h⟩
theorem within_no {c : Int} (h : ∀ x ∈ cells, x.2.2 = 2 → x.1 + 1 ≠ c) : isWithin cells c = false := by
  cases e : isWithin cells c with
  | false => rfl
  | true =>
    obtain ⟨x, hx, h1, h2⟩ := within_iff.mp e
    exact absurd h2 (h x hx h1)
theorem at_none {c : Int} (h : ∀ x ∈ cells, x.1 ≠ c) : cells.filter (fun x => x.1 == c) = [] := by
  rw [List.filter_eq_nil_iff]
  intro x hx e
  exact h x hx (by simpa using e)
theorem at_some {c : Int} {x : Cell} {r : List Cell} (h : cells.filter (fun x => x.1 == c) = x :: r) : x ∈ cells ∧ x.1 = c := by
  have h1 : x ∈ cells.filter (fun x => x.1 == c) := by rw [h]; exact .head _
  have h2 := List.mem_filter.mp h1
  exact ⟨h2.1, by simpa using h2.2⟩
theorem at_nil {c : Int} (h : cells.filter (fun x => x.1 == c) = []) : ∀ x ∈ cells, x.1 ≠ c := by
  intro x hx e
  have h1 := List.filter_eq_nil_iff.mp h x hx
  exact h1 (by simpa using e)

/-- one step of the painter's walk -/
theorem next_step (G : RowGood cells) {stop c : Int} (_hc : isWithin cells c = false) :
    (pNext cells stop c = c + 1 ∧ (isWithin cells (c + 1) = false ∨ stop ≤ c)) ∨
    (pNext cells stop c = c + 2 ∧ c < stop ∧ isWithin cells (c + 1) = true ∧ cells.filter (fun x => x.1 == c + 1) = [] ∧ isWithin cells (c + 2) = false) := by
  unfold pNext
  by_cases hs : c < stop
  · rw [if_pos hs]
    cases hf : cells.filter (fun x => x.1 == c) with
    | nil =>
      refine .inl ⟨rfl, .inl (within_no fun x hx _ e => at_nil hf x hx (by omega))⟩
    | cons x r =>
      obtain ⟨hx, hxc⟩ := at_some hf
      dsimp only
      have hw := (G.each x hx).2.2.1
      by_cases h2 : x.2.2 = 2
      · refine .inr ⟨by rw [h2, if_neg (by decide)], hs, within_iff.mpr ⟨x, hx, h2, by omega⟩, at_none fun y hy e => ?_, within_no fun y hy hy2 e => ?_⟩
        · have a1 := adv_pos x
          have a2 := adv_pos y
          rcases good_apart G hx hy with rfl | h | h <;> omega
        · have a1 := adv_pos x
          have a2 := adv_pos y
          rcases good_apart G hx hy with rfl | h | h <;> omega
      · refine .inl ⟨by rcases hw with h | h | h <;> rw [h] <;> first | rfl | exact absurd h h2, .inl (within_no fun y hy hy2 e => ?_)⟩
        have a1 := adv_pos x
        have a2 := adv_pos y
        rcases good_apart G hx hy with rfl | h | h
        · exact h2 hy2
        · omega
        · omega
  · rw [if_neg hs]
    exact .inl ⟨rfl, .inr (by omega)⟩

theorem cell_eq {first stop last c : Int} {fill : Str} (h : isWithin cells c = false) : pCell cells first stop last fill c = colCell cells first stop last fill c := by
  unfold pCell colCell
  by_cases hs : c < stop
  · rw [if_pos hs, if_pos hs]
    cases cells.filter (fun x => x.1 == c) with
    | nil =>
      dsimp only
      by_cases h1 : first ≤ c ∧ c ≤ last
      · rw [if_pos h1, if_pos ⟨h1.1, h1.2, h⟩]
      · rw [if_neg h1, if_neg fun h2 => h1 ⟨h2.1, h2.2.1⟩]
    | cons x r => rfl
  · rw [if_neg hs, if_neg hs]

theorem paint_out (G : RowGood cells) {sm : List Mark} {first stop last lim : Int} {fill : Str} (hlim : lim ≤ stop) (hcov : ∀ c, isWithin cells c = true → colMarks sm c = []) :
    ∀ (n : Nat) (c : Int), (lim + 1 - c).toNat ≤ n → 0 ≤ c → (isWithin cells c = false ∨ lim < c) →
      (c ≤ lim + 1 ∨ (c = lim + 2 ∧ colOut cells sm first stop last fill (lim + 1) = [])) →
      outTo (fun j => colOut cells sm first stop last fill (j : Int)) c.toNat ++ paintLoop (fun c => colMarks sm c ++ pCell cells first stop last fill c) (pNext cells stop) lim c =
        outTo (fun j => colOut cells sm first stop last fill (j : Int)) (lim + 1).toNat := by
  intro n
  induction n with
  | zero =>
    intro c h0 hc0 _ hc
    rw [paintLoop_end (by omega), List.append_nil]
    rcases hc with hc | ⟨hc, he⟩
    · rw [show c = lim + 1 by omega]
    · subst hc
      by_cases hl : 0 ≤ lim + 1
      · rw [show (lim + 2).toNat = (lim + 1).toNat + 1 by omega, outTo_succ, show (((lim + 1).toNat : Nat) : Int) = lim + 1 by omega, he, List.append_nil]
      · rw [show (lim + 2).toNat = 0 by omega, show (lim + 1).toNat = 0 by omega]
  | succ n ih =>
    intro c h0 hc0 hw hc
    by_cases hle : c ≤ lim
    · have hw' : isWithin cells c = false := hw.elim id fun h => by omega
      have ec : outTo (fun j => colOut cells sm first stop last fill (j : Int)) (c.toNat + 1) = outTo (fun j => colOut cells sm first stop last fill (j : Int)) c.toNat ++ (colMarks sm c ++ pCell cells first stop last fill c) := by
        rw [outTo_succ, show ((c.toNat : Nat) : Int) = c by omega, cell_eq hw']; rfl
      rcases next_step (stop := stop) G hw' with ⟨e, h1⟩ | ⟨e, h1, h2, h3, h4⟩
      · rw [paintLoop_go hle (by omega), e, ← List.append_assoc, ← ec, show c.toNat + 1 = (c + 1).toNat by omega]
        refine ih (c + 1) (by omega) (by omega) ?_ (.inl (by omega))
        rcases h1 with h1 | h1
        · exact .inl h1
        · exact .inr (by omega)
      · have en : colOut cells sm first stop last fill (c + 1) = [] := by
          rw [colOut_none (.inr ⟨h3, .inr (.inr h2)⟩)]
          exact hcov _ h2
        rw [paintLoop_go hle (by omega), e, ← List.append_assoc, ← ec]
        have e2 : outTo (fun j => colOut cells sm first stop last fill (j : Int)) (c.toNat + 1) = outTo (fun j => colOut cells sm first stop last fill (j : Int)) (c + 2).toNat := by
          rw [show (c + 2).toNat = (c.toNat + 1) + 1 by omega, outTo_succ _ (c.toNat + 1), show ((c.toNat + 1 : Nat) : Int) = c + 1 by omega, en, List.append_nil]
        rw [e2]
        refine ih (c + 2) (by omega) (by omega) (.inl h4) ?_
        by_cases hl : c + 2 ≤ lim + 1
        · exact .inl hl
        · exact .inr ⟨by omega, by rw [show lim + 1 = c + 1 by omega]; exact en⟩
    · rw [paintLoop_end (by omega), List.append_nil]
      rcases hc with hc | ⟨hc, he⟩
      · rw [show c = lim + 1 by omega]
      · subst hc
        by_cases hl : 0 ≤ lim + 1
        · rw [show (lim + 2).toNat = (lim + 1).toNat + 1 by omega, outTo_succ, show (((lim + 1).toNat : Nat) : Int) = lim + 1 by omega, he, List.append_nil]
        · rw [show (lim + 2).toNat = 0 by omega, show (lim + 1).toNat = 0 by omega]
end

theorem maxD_ge' {d : Int} {l : List Int} : d ≤ maxD d l := (maxD_spec l d).1
theorem maxD_mem {d x : Int} {l : List Int} (h : x ∈ l) : x ≤ maxD d l := (maxD_spec l d).2.1 x h
theorem maxD_in {d : Int} {l : List Int} : maxD d l = d ∨ maxD d l ∈ l := (maxD_spec l d).2.2
theorem maxD_perm {d : Int} {l l' : List Int} (h : l.Perm l') : maxD d l = maxD d l' := by
  refine eq_maxD ?_ ?_
  · rcases maxD_in (d := d) (l := l) with e | e
    · rw [e]; exact List.mem_append_right _ (.head _)
    · exact List.mem_append_left _ (h.mem_iff.mp e)
  · intro a ha
    rcases List.mem_append.mp ha with ha | ha
    · exact maxD_mem (h.mem_iff.mpr ha)
    · rw [List.mem_singleton.mp ha]; exact maxD_ge'
theorem maxD_two {a : Int} {l : List Int} (ha : -1 ≤ a) : maxD a l = if maxD (-1) l > a then maxD (-1) l else a := by
  have h1 := maxD_ge' (d := a) (l := l)
  have h2 := maxD_in (d := a) (l := l)
  have h3 := maxD_in (d := -1) (l := l)
  have h4 := maxD_ge' (d := -1) (l := l)
  have h5 : ∀ x ∈ l, x ≤ maxD a l := fun x h => maxD_mem h
  have h6 : ∀ x ∈ l, x ≤ maxD (-1) l := fun x h => maxD_mem h
  have h7 : maxD (-1) l ≤ maxD a l := by
    rcases h3 with h3 | h3
    · omega
    · exact h5 _ h3
  split
  · rcases h2 with h2 | h2
    · omega
    · have := h6 _ h2; omega
  · rcases h2 with h2 | h2
    · exact h2
    · have := h6 _ h2; omega

theorem sortM_of_perm {marks handed : List Mark} (hb : ∀ x ∈ marks, 0 ≤ x.2.1 ∧ x.2.1 < 64) (hk : marks.Pairwise (fun a b => a.2.1 ≠ b.2.1)) (hp : handed.Perm marks) : sortM handed = sortM marks :=
  sortM_eq hb hk ((sortM_perm handed).trans hp) (sortM_sorted handed)

/-- the plain law: the painter's text is the written text -/
theorem plain_law {cells : List Cell} {marks handed : List Mark} {first stop : Int} {fill : Str} {ks : List Int} (G : RowGood cells) (hb : ∀ x ∈ marks, 0 ≤ x.1 ∧ 0 ≤ x.2.1 ∧ x.2.1 < 64) (hk : marks.Pairwise (fun a b => a.2.1 ≠ b.2.1))
    (hcov : ∀ x ∈ marks, x.1 ∉ coveredOf cells) (hp : handed.Perm marks) (hs0 : 0 ≤ stop) (hks : ks.Pairwise (· < ·)) (hkm : ∀ k, k ∈ ks ↔ ∃ x ∈ handed, x.1 = k) :
    paintText cells handed first stop fill ks = writtenText cells marks first stop fill := by
  have esm : sortM handed = sortM marks := sortM_of_perm (fun x hx => (hb x hx).2) hk hp
  have hmz : ∀ c, (∀ x ∈ marks, x.1 ≠ c) → colMarks (sortM marks) c = [] := by
    intro c h
    unfold colMarks
    rw [List.map_eq_nil_iff, List.filter_eq_nil_iff]
    intro x hx e
    exact h x ((sortM_perm marks).mem_iff.mp hx) (by simpa using e)
  have hcovm : ∀ c, isWithin cells c = true → colMarks (sortM marks) c = [] := by
    intro c hc
    obtain ⟨y, hy, h1, h2⟩ := within_iff.mp hc
    refine hmz c fun x hx e => hcov x hx ?_
    unfold coveredOf
    exact List.mem_map.mpr ⟨y, List.mem_filter.mpr ⟨hy, by simpa using h1⟩, by omega⟩
  have hla : -1 ≤ maxD (-1) (cells.map (fun c => c.1)) := maxD_ge'
  have etop : pTop cells handed = maxD (maxD (-1) (cells.map (fun c => c.1))) (marks.map (fun x => x.1)) := by
    unfold pTop
    rw [maxD_two hla, maxD_perm (hp.map _)]
  unfold paintText writtenText
  have elim : pLim cells handed stop = (if stop < maxD (maxD (-1) (cells.map (fun c => c.1))) (marks.map (fun x => x.1)) then stop else maxD (maxD (-1) (cells.map (fun c => c.1))) (marks.map (fun x => x.1))) := by
    unfold pLim
    rw [etop]
  rw [← elim, esm]
  have hlim : pLim cells handed stop ≤ stop := by
    unfold pLim
    split <;> omega
  have htl : pLim cells handed stop ≤ pTop cells handed := by
    unfold pLim
    split <;> omega
  have htop1 : -1 ≤ pTop cells handed := by
    rw [etop]
    exact Int.le_trans hla maxD_ge'
  have hlim0 : -1 ≤ pLim cells handed stop := by
    unfold pLim
    split <;> omega
  congr 1
  · have h := paint_out (first := first) (last := maxD (-1) (cells.map (fun c => c.1))) (fill := fill) G hlim hcovm _ 0 (Nat.le_refl _) (Int.le_refl _) (.inl (within_no fun x hx _ e => by have := (G.each x hx).1; omega)) (.inl (by omega))
    rw [← h]
    rfl
  · unfold farText
    rw [esm, ← etop]
    refine far_eq (colMarks (sortM marks)) _ (pLim cells handed stop + 1) _ (hks.filter _) ?_ ?_
    · intro k hkk
      obtain ⟨h1, h2⟩ := List.mem_filter.mp hkk
      have h3 := of_decide_eq_true h2
      obtain ⟨x, hx, rfl⟩ := (hkm k).mp h1
      have h4 : x.1 ≤ pTop cells handed := by
        rw [etop]
        exact maxD_mem (List.mem_map.mpr ⟨x, hp.mem_iff.mp hx, rfl⟩)
      omega
    · intro c hcl hc
      refine hmz c fun x hx e => hc (List.mem_filter.mpr ⟨(hkm c).mpr ⟨x, hp.mem_iff.mpr hx, e⟩, decide_eq_true (by omega)⟩)

def hidx (n k : Nat) : Nat := if n % 5 = 0 then k else (k * 5 + 1) % n
def handedOf (marks : List Mark) (j : Nat) : List Mark := (List.range j).map (fun k => marks.getD (hidx marks.length k) (0, 0, Str.ofString ""))
def fillOf (r : Int) : Str := if r = 0 then Str.ofString "." else Str.ofString "-"
theorem hidx_lt {n j : Nat} (h : j < n) : hidx n j < n := by
  unfold hidx
  split
  · exact h
  · exact Nat.mod_lt _ (by omega)
theorem hidx_mod {n j : Nat} (h : ¬ ((n : Int).fmod 5 = 0)) : hidx n j = (j * 5 + 1) % n := by
  unfold hidx
  rw [if_neg (by rw [Int.fmod_eq_emod_of_nonneg _ (by decide)] at h; omega)]
theorem hidx_id {n j : Nat} (h : (n : Int).fmod 5 = 0) : hidx n j = j := by
  unfold hidx
  rw [if_pos (by rw [Int.fmod_eq_emod_of_nonneg _ (by decide)] at h; omega)]
theorem handedOf_snoc (marks : List Mark) (j : Nat) : handedOf marks (j + 1) = handedOf marks j ++ [marks.getD (hidx marks.length j) (0, 0, Str.ofString "")] := by
  unfold handedOf
  rw [List.range_succ, List.map_append]; rfl
/-- the order in which the marks are handed in is a permutation of them -/
theorem hidx_perm : ∀ n, n ≤ 6 → ((List.range n).map (hidx n)).Perm (List.range n) := by decide
theorem handed_perm {marks : List Mark} (h : marks.length ≤ 6) : (handedOf marks marks.length).Perm marks := by
  have e : marks = (List.range marks.length).map (fun k => marks.getD k (0, 0, Str.ofString "")) := by
    refine List.ext_getElem (by simp) fun i h1 h2 => ?_
    simp [List.getD_eq_getElem?_getD, h1]
  have h1 : handedOf marks marks.length = ((List.range marks.length).map (hidx marks.length)).map (fun k => marks.getD k (0, 0, Str.ofString "")) := by
    unfold handedOf
    rw [List.map_map]; rfl
  rw [h1]
  refine ((hidx_perm _ h).map _).trans ?_
  rw [← e]

structure CkSt where
  oC : Obj
  kvs : List (Int × Value)
  tup : List (Addr × Obj)
def CkRel (tup : List (Addr × Obj)) (kv : Int × Value) (x : Cell) : Prop :=
  kv.1 = x.1 ∧ ∃ a n t1 t2, kv.2 = Value.ref a ∧ (a, ({ cls := .type "tuple", data := .seq #[.str x.2.1 t1, .int x.2.2 t2] n } : Obj)) ∈ tup
theorem CkRel.mono {t1 t2 : List (Addr × Obj)} (hs : ∀ p ∈ t1, p ∈ t2) {kv : Int × Value} {x : Cell} (h : CkRel t1 kv x) : CkRel t2 kv x := by
  obtain ⟨e, a, n, u1, u2, e2, hm⟩ := h
  exact ⟨e, a, n, u1, u2, e2, hs _ hm⟩
structure CkInv (w : World) (C : Addr) (cells : List Cell) (i : Nat) (c : CkSt) : Prop where
  hd : c.oC.IsDictOf (PySem.intKind PySem.Challenge.rw_ax6028_01.row.prog w) c.kvs
  par : Paired (CkRel c.tup) c.kvs (cells.take i)
  off : ∀ p ∈ c.tup, p.1 ≠ C

theorem paired_len {α β : Type} {F : α → β → Prop} {xs : List α} {ys : List β} (h : Paired F xs ys) : xs.length = ys.length := by
  induction h with
  | nil => rfl
  | cons _ _ ih => rw [List.length_cons, List.length_cons, ih]
theorem paired_left {α β : Type} {F : α → β → Prop} {xs : List α} {ys : List β} (h : Paired F xs ys) : ∀ x ∈ xs, ∃ y ∈ ys, F x y := by
  induction h with
  | nil => intro x hx; cases hx
  | cons h1 _ ih =>
    intro x hx
    rcases List.mem_cons.mp hx with rfl | hx
    · exact ⟨_, .head _, h1⟩
    · obtain ⟨y, hy, h2⟩ := ih x hx
      exact ⟨y, .tail _ hy, h2⟩
theorem paired_right {α β : Type} {F : α → β → Prop} {xs : List α} {ys : List β} (h : Paired F xs ys) : ∀ y ∈ ys, ∃ x ∈ xs, F x y := by
  induction h with
  | nil => intro x hx; cases hx
  | cons h1 _ ih =>
    intro y hy
    rcases List.mem_cons.mp hy with rfl | hy
    · exact ⟨_, .head _, h1⟩
    · obtain ⟨x, hx, h2⟩ := ih y hy
      exact ⟨x, .tail _ hx, h2⟩
theorem CkInv.len {w : World} {C : Addr} {cells : List Cell} {i : Nat} {c : CkSt} (h : CkInv w C cells i c) : c.kvs.length ≤ i := by
  rw [paired_len h.par, List.length_take]; omega

theorem CkInv.fresh {w : World} {C : Addr} {cells : List Cell} {i : Nat} {c : CkSt} (G : RowGood cells) (h : CkInv w C cells i c) {x : Cell} (hx : cells[i]? = some x) (v : Value) : stored c.kvs x.1 v = c.kvs ++ [(x.1, v)] := by
  unfold stored
  rw [if_neg]
  rw [List.any_eq_true]
  rintro ⟨kv, hkv, e⟩
  obtain ⟨y, hy, h1, _⟩ := paired_left h.par kv hkv
  have e2 : kv.1 = x.1 := of_decide_eq_true e
  obtain ⟨j, hj, rfl⟩ := List.getElem_of_mem hy
  rw [List.length_take] at hj
  obtain ⟨hi, rfl⟩ := List.getElem?_eq_some_iff.mp hx
  have h3 := List.pairwise_iff_getElem.mp G.pw j i (by omega) hi (by omega)
  rw [List.getElem_take] at h1
  have := adv_pos cells[j]
  omega

theorem CkInv.next {w : World} {C : Addr} {cells : List Cell} {i : Nat} {c : CkSt} (G : RowGood cells) (h : CkInv w C cells i c) {x : Cell} (hx : cells[i]? = some x) {a : Addr} {n : Nat} {t1 t2 : Tok} {oC' : Obj}
    (hd : oC'.IsDictOf (PySem.intKind PySem.Challenge.rw_ax6028_01.row.prog w) (stored c.kvs x.1 (.ref a))) (ha : @Ne Nat a C) :
    CkInv w C cells (i + 1) ⟨oC', c.kvs ++ [(x.1, .ref a)], (a, { cls := .type "tuple", data := .seq #[.str x.2.1 t1, .int x.2.2 t2] n }) :: c.tup⟩ := by
  rw [h.fresh G hx] at hd
  refine ⟨hd, ?_, ?_⟩
  · rw [take_snoc hx]
    exact paired_append (paired_mono h.par fun _ _ e => e.mono fun p hp => .tail _ hp) (.cons ⟨rfl, a, n, t1, t2, rfl, .head _⟩ .nil)
  · intro p hp
    rcases List.mem_cons.mp hp with rfl | hp
    · exact ha
    · exact h.off p hp

theorem at_cell {cells : List Cell} (G : RowGood cells) {x : Cell} (hx : x ∈ cells) : ∃ r, cells.filter (fun y => y.1 == x.1) = x :: r := by
  cases hf : cells.filter (fun y => y.1 == x.1) with
  | nil => exact absurd rfl (at_nil hf x hx)
  | cons y r =>
    obtain ⟨hy, e⟩ := at_some hf
    have a1 := adv_pos x
    have a2 := adv_pos y
    rcases good_apart G hx hy with rfl | h | h
    · exact ⟨r, rfl⟩
    · omega
    · omega

theorem CkInv.done {w : World} {C : Addr} {cells : List Cell} {c : CkSt} {led : List (Addr × Obj)} (G : RowGood cells) (h : CkInv w C cells cells.length c) (hm : (C, c.oC) ∈ led) (ht : ∀ p ∈ c.tup, p ∈ led) (lo : (C == sysModules) = false) : CellsAt w C c.oC c.kvs cells led := by
  have hp := h.par
  rw [List.take_length] at hp
  have hkeys : ∀ k, k ∈ c.kvs.map (·.1) ↔ ∃ x ∈ cells, x.1 = k := by
    intro k
    constructor
    · intro hk
      obtain ⟨kv, hkv, rfl⟩ := List.mem_map.mp hk
      obtain ⟨x, hx, h1, _⟩ := paired_left hp kv hkv
      exact ⟨x, hx, h1.symm⟩
    · rintro ⟨x, hx, rfl⟩
      obtain ⟨kv, hkv, h1, _⟩ := paired_right hp x hx
      exact List.mem_map.mpr ⟨kv, hkv, h1⟩
  refine ⟨hm, h.hd, lo, by have := h.len; have := G.len; omega, ?_, ?_, hkeys⟩
  · intro k v hv
    unfold valueAt at hv
    obtain ⟨kv, hkv, rfl⟩ := Option.map_eq_some_iff.mp hv
    have h1 : kv.1 = k := by simpa using List.find?_some hkv
    obtain ⟨x, hx, h2, a, n, t1, t2, e, hmm⟩ := paired_left hp kv (List.mem_of_find?_eq_some hkv)
    obtain ⟨r, hr⟩ := at_cell G hx
    exact ⟨x, r, by rw [← h1, h2]; exact hr, a, n, t1, t2, e, ht _ hmm⟩
  · intro k hv
    refine at_none fun x hx e => ?_
    have h1 := (hkeys k).mpr ⟨x, hx, e⟩
    rw [← valueAt_isSome_iff, hv] at h1
    cases h1

theorem CallOn.use {w : World} {loose : List Str} {mean : ExcName → Option Value} {mg mb : Str → Option Value} {f : Addr} {dn : Nat} {pre : Heap → Prop} {args : List Value} {news : List (Addr × Obj)} {Ret : Value → List (Addr × Obj) → Prop} {dp un : Nat} {gd : Option (List Code)} {cn : Str} {cs : Scope} {a : Addr} {ccd : Value} {cl : List (Str × Addr)} {outer : List Env} {A₀ : Around} {base h₀ : Heap} {L : Addr} {m : Str → Option Value} {s : Shared} {Q E : Value → Shared → Prop} {news₁ : List (Addr × Obj)}
    (C : CallOn w loose mean mg mb f dn pre args news Ret) (B : Below A₀ base outer h₀) (F : Fr h₀ L s.heap m) (X : (hd.heap_39 w.params).In h₀) (N : News h₀ L s.heap news₁) (hn : ∀ p ∈ news, p ∈ news₁) (T : Top hd.view_39 loose mean mg mb h₀) (hk : cs.kind = .function) (hpre : pre h₀)
    (hd : dp + dn < recursionLimit) (hu : un + (100 * dn + 100) < cLine)
    (ret : ∀ v news' h' tk', Fr h₀ L h' m → News h₀ L h' news' → Ret v news' → Q v { s with heap := h', toks := tk' }) :
    wpAny (model PySem.Challenge.rw_ax6028_01.row.prog w) (ktrTop dp un gd cn cs L a ccd cl outer) (call (.ref f) args) Q E s := C _ _ _ _ _ _ _ _ _ _ _ _ _ _ _ _ _ B F X (fun p hp => N p (hn p hp)) T hk hpre hd hu ret
structure MkSt where
  marks : List Mark
  mv : List Value
  nm : Nat
  vs : List Value
  ns : List Int
  n1 : Nat
  n2 : Nat
  seed : Int
  t : Tok
  tl : List (Addr × Obj)
structure MkInv (D L0 MA : Addr) (cells : List Cell) (top : Int) (i : Nat) (c : MkSt) : Prop where
  par : Paired (MarkIn c.tl) c.mv c.marks
  len : c.marks.length ≤ i
  each : ∀ x ∈ c.marks, 0 ≤ x.1 ∧ x.1 < top + 4 ∧ 0 ≤ x.2.1 ∧ x.2.1 < (i : Int) ∧ x.2.2.length ≤ 32 ∧ x.1 ∉ coveredOf cells
  keys : c.marks.Pairwise (fun a b => a.2.1 < b.2.1)
  hints : IntsAre c.vs c.ns
  l64 : c.ns.length < 64
  s0 : 0 ≤ c.seed
  s1 : c.seed < 2147483647
  off : ∀ p ∈ c.tl, p.1 ≠ D ∧ p.1 ≠ L0 ∧ p.1 ≠ MA

local macro_rules | `(tactic| walk_at "subscriptTail") => `(tactic| (k_here; (with_reducible show wpAny _ _ (PySem.subscriptTail _ _ (Value.ref _) (Value.int _ _)) _ _ _); (fail_if_success with_reducible show wpAny _ _ (PySem.subscriptTail _ _ (Value.ref _) (Value.int 0 _)) _ _ _); (fail_if_success with_reducible show wpAny _ _ (PySem.subscriptTail _ _ (Value.ref _) (Value.int 1 _)) _ _ _); (fail_if_success with_reducible show wpAny _ _ (PySem.subscriptTail _ _ (Value.ref _) (Value.int 2 _)) _ _ _); refine Hold.out ?_))
local macro_rules | `(tactic| walk_at "binaryOp Mod int int") => `(tactic| (k_here; (fail_if_success with_reducible show wpAny _ _ (PySem.binaryOp _ (Value.int _ _) (Value.int 5 _)) _ _ _); refine Hold.out ?_))
local macro_rules | `(tactic| walk_at "subscriptTail Name Name ref int") => `(tactic| (k_here; refine Hold.out ?_))
local macro_rules | `(tactic| walk_at "subscriptTail Name BinOp ref int") => `(tactic| (k_here; refine Hold.out ?_))
local macro_rules | `(tactic| walk_at "subscriptTail Constant str Call") => `(tactic| (k_here; (fail_if_success with_reducible show wpAny _ _ (PySem.subscriptTail _ _ (Value.str _ _) (Value.int 0 _)) _ _ _); (fail_if_success with_reducible show wpAny _ _ (PySem.subscriptTail _ _ (Value.str _ _) (Value.int 1 _)) _ _ _); refine Hold.out ?_))
local macro_rules | `(tactic| walk_at "subscriptTail Constant Call") => `(tactic| (k_here; (fail_if_success with_reducible show wpAny _ _ (PySem.subscriptTail _ _ (Value.str _ _) (Value.int 0 _)) _ _ _); (fail_if_success with_reducible show wpAny _ _ (PySem.subscriptTail _ _ (Value.str _ _) (Value.int 1 _)) _ _ _); refine Hold.out ?_))
local macro_rules | `(tactic| walk_at "subscriptTail Constant") => `(tactic| (k_here; (fail_if_success with_reducible show wpAny _ _ (PySem.subscriptTail _ _ (Value.str _ _) (Value.int 0 _)) _ _ _); (fail_if_success with_reducible show wpAny _ _ (PySem.subscriptTail _ _ (Value.str _ _) (Value.int 1 _)) _ _ _); refine Hold.out ?_))
local macro_rules | `(tactic| walk_at "subscriptTail") => `(tactic| (k_here; (with_reducible show wpAny _ _ (PySem.subscriptTail _ _ (Value.str _ _) (Value.int _ _)) _ _ _); (fail_if_success with_reducible show wpAny _ _ (PySem.subscriptTail _ _ (Value.str _ _) (Value.int 0 _)) _ _ _); (fail_if_success with_reducible show wpAny _ _ (PySem.subscriptTail _ _ (Value.str _ _) (Value.int 1 _)) _ _ _); refine Hold.out ?_))
local macro_rules | `(tactic| walk_at "call type:list") => `(tactic| (k_here; refine Hold.out ?_))
local macro_rules | `(tactic| walk_at "setItem ref int") => `(tactic| (k_here; refine Hold.out ?_))
local macro_rules | `(tactic| walk_at "no such tree") => `(tactic| skip)
local macro_rules | `(tactic| walk_at "exec For Name Name") => `(tactic| (k_here; refine Hold.out ?_))
theorem pargs_of {cells : List Cell} {marks : List Mark} (G : RowGood cells) (hm : ∀ x ∈ marks, 0 ≤ x.1 ∧ x.1 < 100 ∧ 0 ≤ x.2.1 ∧ x.2.1 < 64 ∧ x.2.2.length ≤ 32) (hk : marks.Pairwise (fun a b => a.2.1 < b.2.1)) (h6 : marks.length ≤ 6) : PArgs cells (handedOf marks marks.length) := by
  have hp := handed_perm h6
  have hk' : marks.Pairwise (fun a b => a.2.1 ≠ b.2.1) := hk.imp fun h => by omega
  refine ⟨G.len, by rw [hp.length_eq]; exact h6, fun c hc => ?_, fun x hx => hm x (hp.mem_iff.mp hx), (hp.pairwise_iff fun h => Ne.symm h).mpr hk'⟩
  have := G.each c hc
  exact ⟨this.1, this.2.1, this.2.2.2, by omega, by omega⟩
theorem pargs_none : PArgs [] [] := ⟨by decide, by decide, (fun _ h => nomatch h), (fun _ h => nomatch h), .nil⟩
theorem cells_none {w : World} {C : Addr} {o : Obj} {led : List (Addr × Obj)} (hm : (C, o) ∈ led) (hd : o.IsDictOf (PySem.intKind PySem.Challenge.rw_ax6028_01.row.prog w) []) (lo : (C == sysModules) = false) : CellsAt w C o [] [] led :=
  ⟨hm, hd, lo, by decide, (fun _ _ h => nomatch h), (fun _ _ => rfl), (fun _ => ⟨(fun h => nomatch h), fun ⟨_, h, _⟩ => nomatch h⟩)⟩
theorem paint_none {fill : Str} {ks : List Int} (h : ∀ k, k ∈ ks ↔ ∃ x ∈ ([] : List Mark), x.1 = k) : Txt.join (Str.ofString "") (paintText [] [] 0 5 fill ks) = Str.ofString "" := by
  have e : ks = [] := by
    cases ks with
    | nil => rfl
    | cons k r => obtain ⟨_, h1, _⟩ := (h k).mp (.head _); cases h1
  subst e
  have e1 : pLim [] [] 5 = -1 := by decide
  unfold paintText farText
  rw [e1, paintLoop_end (by decide)]
  decide
theorem wargs_of {cells : List Cell} {marks : List Mark} (G : RowGood cells) (hm : ∀ x ∈ marks, 0 ≤ x.1 ∧ x.1 < 100 ∧ 0 ≤ x.2.1 ∧ x.2.1 < 64 ∧ x.2.2.length ≤ 32) (hk : marks.Pairwise (fun a b => a.2.1 < b.2.1)) (h6 : marks.length ≤ 6) : WArgs cells marks := by
  refine ⟨G.len, h6, fun c hc => ?_, hm, hk.imp fun h => by omega⟩
  have := G.each c hc
  exact ⟨this.1, this.2.1, this.2.2.2⟩
set_option maxRecDepth 100000 in
set_option maxHeartbeats 8000000 in
theorem law_walk : PySem.Challenge.rw_ax6028_01.Holds := hd (by
  w_top off
  k_go0
  rename_i w s₀ s₁ mg mb _ _ _ _ _ _ _ _ _ KX _ _ _ T _ _ _ _ _ _ _ _ _ ns _ _ _ _ _ _ _ SA vs _ hL _ _ _ hI _ hcond _ K0 _ h₁ F N0
  k_steps
  unfold Hold
  have hlen : ns.length < 64 := by have := hcond; omega
  k_dflt (refine' CallOn.use (draw_ok w _ mg mb SA vs ns hI hlen) ?k1 ?k2 ?k3 ?k4 (fun _ h => h) ?k5 ?k6 hL ?k8 ?k9 ?_)
  (case k1 => k_asm)
  (case k2 => k_asm)
  (case k3 => k_asm)
  (case k4 => k_asm)
  (case k5 => k_asm)
  (case k6 => first | exact rfl | assumption)
  (case k8 => ktr_room)
  (case k9 => units_room)
  rintro v news' h2 tk2 F2 N2 ⟨D, L0, d1, d2, rfl, rfl, hDr, hDL⟩
  obtain ⟨dvs, dns, n1, n2, seed, td, rfl, rfl, hdi, hdl, hsd0, hsd1⟩ := hDr
  k_steps
  unfold Hold
  rename_i h3 F3 N3
  k_dflt (refine' CallOK.use (row_ok w _ _ mg mb D L0 dvs dns n1 n2 seed td [] hdi hDL (fun _ h => nomatch h) (fun _ h => nomatch h) hsd0 hsd1 hdl) ?k1 ?k2 ?k3 N3 (fun _ h => h) ?k5 ?k6 ?k8 ?k9 ?_)
  (case k1 => k_asm)
  (case k2 => k_asm)
  (case k3 => k_asm)
  (case k5 => k_asm)
  (case k6 => first | exact rfl | assumption)
  (case k8 => ktr_room)
  (case k9 => units_room)
  rintro v news' h4 tk4 F4 N4 ⟨TR, R, CV, cells, rv, cvs, m0, m3, m4, add, d1, d2, rfl, rfl, hDr, hTm, hRm, hCm, hdat, hcov, hgood, hoffD⟩
  obtain ⟨vs1, ns1, n3, n4, seed1, td1, rfl, rfl, hdi1, hdl1, hs10, hs11⟩ := hDr
  rw [List.append_nil] at N4
  have oD1 : ∀ p ∈ add, p.1 ≠ D := fun p hp => (hoffD p hp).1
  have oL1 : ∀ p ∈ add, p.1 ≠ L0 := fun p hp => (hoffD p hp).2
  have hT2 : (TR, ({ cls := .type "tuple", data := .seq #[.ref R, .ref CV] m0 } : Obj)) ∈ (D, listOf #[.ref L0, .int seed1 td1] n3) :: (L0, listOf vs1.toArray n4) :: add := .tail _ (.tail _ hTm)
  have hP : Paired (CellIn add) rv cells := cells_paired hdat
  have hcl : rv.length = cells.length := hP.length
  have hc8 := hgood.len
  have hfunC : ∀ v (x y : Cell), CellIn add v x → CellIn add v y → x = y := cellIn_fun (cb_drop N4 fun p hp => .tail _ (.tail _ hp))
  k_steps
  unfold Hold
  rename_i h5 F5 N5
  k_dflt (refine comp_eval F5 (CellIn add) (fun _ => true) (fun c y => ∃ t, y = Value.int c.1 t) hfunC (by with_unfolding_all rfl) (by decide) (by rfl) (by decide) (by rfl) ?_)
  k_steps
  refine ⟨R, rv, cells, _, rfl, rfl, by assumption, N5, list_led N5 (.tail _ (.tail _ hRm)), by omega, hP, ⟨?_, ?_⟩, ?_⟩
  · intro C oC v d s₃ m₃ E' hv F3 N3 hns hm3
    exact wpAny_tests_nil ⟨rfl, _, _, rfl, fun _ _ e => e⟩
  · intro C oC v d s₃ m₃ E' hv hpc F3 N3 hns hm3
    obtain ⟨a, n, u1, u2, u3, rfl, hm⟩ := hv
    have hm4 : (a, ({ cls := .type "tuple", data := .seq #[.int d.1 u1, .str d.2.1 u2, .int d.2.2 u3] n } : Obj)) ∈ (D, listOf #[.ref L0, .int seed1 td1] n3) :: (L0, listOf vs1.toArray n4) :: add := .tail _ (.tail _ hm)
    clear hm
    k_steps
    all_goals first | exact ⟨_, rfl⟩ | exact ⟨_, _, rfl, fun _ _ e => e⟩
  intro ys hys D1 h6 tk6 n6 F6 N6 hD1
  rw [filter_true] at hys
  have hy1 := ints_of_paired hys
  have hyl := hy1.length
  rw [List.length_map] at hyl
  k_steps
  rename_i lm _ _ _ l2 Ds _ F7 N7 lDs
  unfold Hold
  refine kso_max F7 N7 (list_led N7 (.head _)) (hy1.append (.cons 0 _ .nil)) (by simp) rfl fun h8 top tl tk8 F8 N8' hin hge => ?_
  have htop : top = maxD 0 (cells.map (fun c => c.1)) := eq_maxD hin hge
  have htop0 : 0 ≤ top := by rw [htop]; exact maxD_ge
  have htop1 : top ≤ 64 := by
    rw [htop]
    refine maxD_le (by decide) fun x hx => ?_
    obtain ⟨y, hy, rfl⟩ := List.mem_map.mp hx
    have := (hgood.each y hy).2.1
    omega
  have N8 : News s₁.heap s₁.heap.objs.size h8 ((D, listOf #[.ref L0, .int seed1 td1] n3) :: (L0, listOf vs1.toArray n4) :: (TR, ({ cls := .type "tuple", data := .seq #[.ref R, .ref CV] m0 } : Obj)) :: (CV, listOf cvs.toArray m4) :: add) := by
    intro p hp
    refine N8' p ?_
    simp only [List.mem_cons] at hp ⊢
    rcases hp with rfl | rfl | rfl | rfl | hp
    · grind
    · grind
    · exact .inr (.inr (.inr (.inr (.inr hTm))))
    · exact .inr (.inr (.inr (.inr (.inr hCm))))
    · grind
  have a1 : @Ne Nat TR D := oD1 _ hTm
  have a2 : @Ne Nat TR L0 := oL1 _ hTm
  have a3 : @Ne Nat CV D := oD1 _ hCm
  have a4 : @Ne Nat CV L0 := oL1 _ hCm
  clear F7 N7 N8' hin hge hT2
  k_steps
  rename_i MA _ lM _ _ _ nn tnn vsA nsA n1A n2A seedA tA _ _ _ _ hiA hlA hsA0 hsA1 hn0 hn1 _ _ _ _ _ hRg F9 N9
  unfold Hold
  obtain ⟨nN, rfl⟩ : ∃ k : Nat, nn = (k : Int) := ⟨nn.toNat, by omega⟩
  have oM0 := allLt_ne lM.2.2.2.2
  have oM1 : ∀ p ∈ (TR, ({ cls := .type "tuple", data := .seq #[.ref R, .ref CV] m0 } : Obj)) :: (CV, listOf cvs.toArray m4) :: add, p.1 ≠ MA := by
    intro p hp
    rcases List.mem_cons.mp hp with rfl | hp
    · exact Nat.ne_of_lt lM.2.2.1
    rcases List.mem_cons.mp hp with rfl | hp
    · exact Nat.ne_of_lt lM.2.2.2.1
    exact oM0 p hp
  refine lp_range (σ := MkSt) (n := nN) (fun c => (MA, listOf c.mv.toArray c.nm) :: (D, listOf #[.ref L0, .int c.seed c.t] c.n1) :: (L0, listOf c.vs.toArray c.n2) :: (TR, ({ cls := .type "tuple", data := .seq #[.ref R, .ref CV] m0 } : Obj)) :: (CV, listOf cvs.toArray m4) :: (c.tl ++ add)) (fun _ => []) [Str.ofString "column"] (MkInv D L0 MA cells top)
    ⟨[], [], 0, vsA, nsA, n1A, n2A, seedA, tA, []⟩ rfl hRg ?_ ?_ F9 N9 ?_ ?_ ?_ ?_ ?_
  · exact small_one (by decide) (by decide) (by omega) (by omega)
  · simp [rangeSize_nat]
  · intro p hp; exact hp
  · intro p hp; cases hp
  · exact ⟨.nil, Nat.le_refl _, (fun _ h => nomatch h), .nil, hiA, hlA, hsA0, hsA1, (fun _ h => nomatch h)⟩
  · intro c i tki u h tkk own hin hoff hI2 F2 N2
    obtain ⟨mpar, mlen, meach, mkeys, mints, m64, ms0, ms1, moff⟩ := hI2
    generalize hrest : c.tl ++ add ++ own = rest'
    have N3 : News s₁.heap s₁.heap.objs.size h ((MA, listOf c.mv.toArray c.nm) :: (D, listOf #[.ref L0, .int c.seed c.t] c.n1) :: (L0, listOf c.vs.toArray c.n2) :: (TR, ({ cls := .type "tuple", data := .seq #[.ref R, .ref CV] m0 } : Obj)) :: (CV, listOf cvs.toArray m4) :: rest') := by
      rw [← hrest]; exact N2
    have r1 : ∀ p ∈ rest', p.1 ≠ D := offs_of hrest (fun p hp => (moff p hp).1) oD1 (hoff.ne (b := D) (by simp))
    have r2 : ∀ p ∈ rest', p.1 ≠ L0 := offs_of hrest (fun p hp => (moff p hp).2.1) oL1 (hoff.ne (b := L0) (by simp))
    have r3 : ∀ p ∈ rest', p.1 ≠ MA := offs_of hrest (fun p hp => (moff p hp).2.2) oM0 (hoff.ne (b := MA) (by simp))
    have a5 : @Ne Nat TR MA := oM1 _ (.head _)
    have a6 : @Ne Nat CV MA := oM1 _ (.tail _ (.head _))
    clear N2
    have hmv : c.mv.length ≤ i := by rw [mpar.length]; exact mlen
    k_steps
    · rename_i r tr vs2 ns2 n12 n22 seed2 t2 _ _ hi2 hl2 hs02 hs12 hr02 hr12 _ F4 N4 _ _ _ hin4
      refine lp_end (P := MkInv D L0 MA cells top (i + 1)) (c := ⟨c.marks, c.mv, c.nm, vs2, ns2, n12, n22, seed2, t2, c.tl⟩) F4 N4 ?_ ?_ hoff ?_ ?_ ?_
      · intro p hp
        simp only [List.mem_cons, ← hrest, List.mem_append] at hp ⊢
        grind
      · intro p hp
        simp only [List.mem_cons, ← hrest, List.mem_append]
        grind
      · intro p hp; cases hp
      · intro z h1 h2 h3
        have n1 : z ≠ Str.ofString "column" := fun e => absurd h3 (by rw [e]; decide)
        simp only [if_neg n1, if_neg h1, kstB, h3, Bool.false_eq_true, if_false]
      · exact ⟨mpar, Nat.le_succ_of_le mlen, (fun x hx => by have := meach x hx; exact ⟨this.1, this.2.1, this.2.2.1, by omega, this.2.2.2.2⟩), mkeys, hi2, hl2, hs02, hs12, moff⟩
    · rename_i r tr vs2 ns2 n12 n22 seed2 t2 _ _ hi2 hl2 hs02 hs12 hr02 hr12 _ _ _ _ hin4 _ ts _ ht T0 _ _ _ lT _ F4 N4
      have hin5 : r ∉ coveredOf cells := by
        intro hm
        have : ((coveredOf cells).any fun x => x == r) = true := List.any_eq_true.mpr ⟨r, hm, by simp⟩
        rw [hin4] at this
        cases this
      refine lp_end (P := MkInv D L0 MA cells top (i + 1)) (c := ⟨c.marks ++ [(r, 0 + (i : Int), Str.ofString "s" ++ Str.ofString (toString (0 + (i : Int))))], c.mv ++ [Value.ref T0], c.nm + 1, vs2, ns2, n12, n22, seed2, t2, (T0, { cls := .type "tuple", data := .seq #[.int r tr, .int (0 + (i : Int)) tki, .str (Str.ofString "s" ++ Str.ofString (toString (0 + (i : Int)))) ts] 0 }) :: c.tl⟩) F4 N4 ?_ ?_ (own_more (a := T0) hoff ?_ ?_) ?_ ?_ ?_
      · intro p hp
        simp only [List.mem_cons, ← hrest, List.mem_append, List.cons_append] at hp ⊢
        grind
      · intro p hp
        simp only [List.mem_cons, ← hrest, List.mem_append]
        grind
      · intro b hb; simp at hb ⊢; grind
      · intro p hp; exact allLt_ne lT.2.2.2.2.2 p (by rw [← hrest]; exact List.mem_append_right _ hp)
      · intro p hp; cases hp
      · intro z h1 h2 h3
        have n1 : z ≠ Str.ofString "column" := fun e => absurd h3 (by rw [e]; decide)
        simp only [if_neg n1, if_neg h1, kstB, h3, Bool.false_eq_true, if_false]
      · refine ⟨?_, ?_, ?_, ?_, hi2, hl2, hs02, hs12, ?_⟩
        · exact paired_append (paired_mono mpar fun _ _ e => e.mono fun p hp => .tail _ hp) (.cons ⟨T0, _, _, _, _, rfl, .head _⟩ .nil)
        · show (c.marks ++ [_]).length ≤ i + 1
          rw [List.length_append]
          exact Nat.succ_le_succ mlen
        · intro x hx
          rcases List.mem_append.mp hx with hx | hx
          · have := meach x hx
            exact ⟨this.1, this.2.1, this.2.2.1, by omega, this.2.2.2.2⟩
          · rw [List.mem_singleton.mp hx]
            exact ⟨hr02, by show r < top + 4; omega, by show (0 : Int) ≤ 0 + (i : Int); omega, by show (0 : Int) + (i : Int) < ((i + 1 : Nat) : Int); omega, text_short "s" i (by omega) (by decide) ht.2, hin5⟩
        · refine List.pairwise_append.mpr ⟨mkeys, List.pairwise_singleton _ _, fun x hx y hy => ?_⟩
          rw [List.mem_singleton.mp hy]
          have := (meach x hx).2.2.2.1
          show x.2.1 < 0 + (i : Int)
          omega
        · intro p hp
          rcases List.mem_cons.mp hp with rfl | hp
          · exact ⟨Nat.ne_of_gt lT.2.1, Nat.ne_of_gt lT.2.2.1, Nat.ne_of_gt lT.1⟩
          · exact moff p hp
  · intro c u h9 tk9 hI2 F10 N10'
    have N10 : News s₁.heap s₁.heap.objs.size h9 ((MA, listOf c.mv.toArray c.nm) :: (D, listOf #[.ref L0, .int c.seed c.t] c.n1) :: (L0, listOf c.vs.toArray c.n2) :: (TR, ({ cls := .type "tuple", data := .seq #[.ref R, .ref CV] m0 } : Obj)) :: (CV, listOf cvs.toArray m4) :: (c.tl ++ add)) := N10'
    clear N10'
    obtain ⟨mpar, mlen, meach, mkeys, mints, m64, ms0, ms1, moff⟩ := hI2
    have hmv : c.mv.length = c.marks.length := mpar.length
    have hm6 : c.marks.length ≤ 6 := by omega
    k_steps
    rename_i HA _ _ _ lH _ _ _ _ _ _ _ _ hRg2 F11 N11
    unfold Hold
    have oH0 := allLt_ne lH.2.2.2.2.2
    have oHM : @Ne Nat MA HA := Nat.ne_of_lt lH.1
    have oHD : @Ne Nat D HA := Nat.ne_of_lt lH.2.1
    have oHL : @Ne Nat L0 HA := Nat.ne_of_lt lH.2.2.1
    have oHT : @Ne Nat TR HA := Nat.ne_of_lt lH.2.2.2.1
    have oHC : @Ne Nat CV HA := Nat.ne_of_lt lH.2.2.2.2.1
    refine lp_range (σ := List Value × Nat × List Mark) (n := c.marks.length) (fun q => (HA, listOf q.1.toArray q.2.1) :: (MA, listOf c.mv.toArray c.nm) :: (D, listOf #[.ref L0, .int c.seed c.t] c.n1) :: (L0, listOf c.vs.toArray c.n2) :: (TR, ({ cls := .type "tuple", data := .seq #[.ref R, .ref CV] m0 } : Obj)) :: (CV, listOf cvs.toArray m4) :: (c.tl ++ add)) (fun _ => []) []
      (fun j q => Paired (MarkIn c.tl) q.1 q.2.2 ∧ q.2.2 = handedOf c.marks j) ([], 0, []) rfl hRg2 ?_ ?_ F11 N11 ?_ ?_ ?_ ?_ ?_
    · exact small_one (by decide) (by decide) (by omega) (by omega)
    · rw [hmv]; simp [rangeSize_nat]
    · intro p hp; exact hp
    · intro p hp; cases hp
    · exact ⟨.nil, rfl⟩
    · intro q j tk u h tkk own hin hoff hq F2 N2
      obtain ⟨hq1, hq2⟩ := hq
      have hql : q.1.length ≤ 100 := by rw [hq1.length, hq2]; unfold handedOf; rw [List.length_map, List.length_range]; omega
      generalize hrest : c.tl ++ add ++ own = rest'
      have N3 : News s₁.heap s₁.heap.objs.size h ((HA, listOf q.1.toArray q.2.1) :: (MA, listOf c.mv.toArray c.nm) :: (D, listOf #[.ref L0, .int c.seed c.t] c.n1) :: (L0, listOf c.vs.toArray c.n2) :: (TR, ({ cls := .type "tuple", data := .seq #[.ref R, .ref CV] m0 } : Obj)) :: (CV, listOf cvs.toArray m4) :: rest') := by
        rw [← hrest]; exact N2
      have r1 : ∀ p ∈ rest', p.1 ≠ HA := by
        intro p hp
        rw [← hrest] at hp
        rcases List.mem_append.mp hp with hp | hp
        · exact oH0 p hp
        · exact hoff p hp _ (.head _)
      clear N2
      obtain ⟨v, hv⟩ : ∃ v, c.mv[hidx c.marks.length j]? = some v := ⟨c.mv[hidx c.marks.length j]'(by rw [hmv]; exact hidx_lt hin), List.getElem?_eq_getElem _⟩
      obtain ⟨x, hx, hrel⟩ := paired_get mpar hv
      have hxl := hidx_lt hin
      k_steps
      · rename_i hm5
        unfold Hold
        have hn0 : (c.mv.length : Int) ≠ 0 := by rw [hmv]; omega
        refine mod_int hn0 ?_
        have hix : ((0 + (j : Int)) * 5 + 1).fmod (c.mv.length : Int) = (hidx c.marks.length j : Int) := by
          rw [hmv] at hm5 ⊢
          rw [hidx_mod hm5, Int.fmod_eq_emod_of_nonneg _ (by omega), show (0 + (j : Int)) * 5 + 1 = ((j * 5 + 1 : Nat) : Int) by omega]
          exact (Int.natCast_emod _ _).symm
        rw [hix]
        k_steps
        unfold Hold
        refine list_item N3 (.tail _ (.head _)) (by omega) (by omega) (by rw [Int.toNat_natCast]; exact hv) ?_
        have hv4 : q.1.length ≤ 4000 := by omega
        k_steps
        refine lp_end (P := fun q => Paired (MarkIn c.tl) q.1 q.2.2 ∧ q.2.2 = handedOf c.marks (j + 1)) (c := (q.1 ++ [v], q.2.1 + 1, q.2.2 ++ [x])) (by assumption) (by assumption) ?_ ?_ hoff ?_ ?_ ?_
        · intro p hp
          simp only [List.mem_cons, ← hrest, List.mem_append] at hp ⊢
          grind
        · intro p hp
          simp only [List.mem_cons, ← hrest, List.mem_append]
          grind
        · intro p hp; cases hp
        · intro z h1 h2 h3
          simp only [if_neg h1, kstB, h3, Bool.false_eq_true, if_false]
        · refine ⟨paired_append hq1 (.cons hrel .nil), ?_⟩
          show q.2.2 ++ [x] = _
          rw [hq2, handedOf_snoc, List.getD_eq_getElem?_getD, hx]; rfl
      · rename_i hm5
        unfold Hold
        have hix : 0 + (j : Int) = (hidx c.marks.length j : Int) := by
          rw [hmv] at hm5
          rw [hidx_id hm5]; omega
        rw [hix]
        refine list_item N3 (.tail _ (.head _)) (by omega) (by omega) (by rw [Int.toNat_natCast]; exact hv) ?_
        have hv4 : q.1.length ≤ 4000 := by omega
        k_steps
        refine lp_end (P := fun q => Paired (MarkIn c.tl) q.1 q.2.2 ∧ q.2.2 = handedOf c.marks (j + 1)) (c := (q.1 ++ [v], q.2.1 + 1, q.2.2 ++ [x])) (by assumption) (by assumption) ?_ ?_ hoff ?_ ?_ ?_
        · intro p hp
          simp only [List.mem_cons, ← hrest, List.mem_append] at hp ⊢
          grind
        · intro p hp
          simp only [List.mem_cons, ← hrest, List.mem_append]
          grind
        · intro p hp; cases hp
        · intro z h1 h2 h3
          simp only [if_neg h1, kstB, h3, Bool.false_eq_true, if_false]
        · refine ⟨paired_append hq1 (.cons hrel .nil), ?_⟩
          show q.2.2 ++ [x] = _
          rw [hq2, handedOf_snoc, List.getD_eq_getElem?_getD, hx]; rfl
    · intro q u h tkk hq F2 N2'
      have N2 : News s₁.heap s₁.heap.objs.size h ((HA, listOf q.1.toArray q.2.1) :: (MA, listOf c.mv.toArray c.nm) :: (D, listOf #[.ref L0, .int c.seed c.t] c.n1) :: (L0, listOf c.vs.toArray c.n2) :: (TR, ({ cls := .type "tuple", data := .seq #[.ref R, .ref CV] m0 } : Obj)) :: (CV, listOf cvs.toArray m4) :: (c.tl ++ add)) := N2'
      clear N2'
      obtain ⟨hq1, hq2⟩ := hq
      have r1 : ∀ p ∈ c.tl ++ add, p.1 ≠ D := fun p hp => (List.mem_append.mp hp).elim (fun hp => (moff p hp).1) (oD1 p)
      have r2 : ∀ p ∈ c.tl ++ add, p.1 ≠ L0 := fun p hp => (List.mem_append.mp hp).elim (fun hp => (moff p hp).2.1) (oL1 p)
      generalize hbase : c.tl ++ add = base at N2 r1 r2
      k_steps
      rename_i fir _ _ _ _ _ _ _ _ _ _ _ _ _ hf0 hf1 _ _ ste _ _ _ _ _ _ _ _ _ _ _ _ _ hst0 hst1 _ _ _ fl _ vs3 ns3 n13 n23 seed3 t3 _ _ F12 N12 hi3 hl3 hs30 hs31 hfl0 hfl1
      unfold Hold
      refine item_str (by unfold fitsSsize; simp; omega) (by rw [show (Str.ofString ".-").length = 2 from by decide]; omega) (by rw [show (Str.ofString ".-").length = 2 from by decide]; omega) fun hfil => ?_
      generalize Txt.item (Str.ofString ".-") fl = fill at hfil ⊢
      k_steps
      rename_i CA _ oC lo _ _ hoC _ lC h20 F20 N20'
      unfold Hold
      have N20 : News s₁.heap s₁.heap.objs.size h20 ((CA, oC) :: (HA, listOf q.1.toArray q.2.1) :: (MA, listOf c.mv.toArray c.nm) :: base) := by
        intro p hp
        refine N20' p ?_
        simp only [List.mem_cons] at hp ⊢
        grind
      clear N20'
      have oCH : @Ne Nat HA CA := Nat.ne_of_lt lC.1
      have oCM : @Ne Nat MA CA := Nat.ne_of_lt lC.2.1
      have oCb := allLt_ne lC.2.2.2.2.2.2
      have hRb : (R, listOf rv.toArray m3) ∈ base := by rw [← hbase]; exact List.mem_append_right _ hRm
      have hPb : Paired (CellIn base) rv cells := paired_mono hP fun _ _ e => e.mono fun p hp => by rw [← hbase]; exact List.mem_append_right _ hp
      k_dflt (refine For_invTF F20 ?_ (by intro _; rfl))
      k_steps
      unfold Hold
      refine lpT_list (σ := CkSt) (fun c' => (CA, c'.oC) :: (HA, listOf q.1.toArray q.2.1) :: (MA, listOf c.mv.toArray c.nm) :: (c'.tup ++ base)) (fun _ => []) [Str.ofString "cell"] (CkInv w CA cells)
        ⟨oC, [], []⟩ rfl ?_ F20 N20 ?_ ?_ ?_ ?_ ?_ ?_ (l := R) (vs := rv) (nn := m3)
      · intro c'; exact .tail _ (.tail _ (.tail _ (List.mem_append_right _ hRb)))
      · intro p hp; exact hp
      · intro p hp; cases hp
      · exact ⟨hoC, .nil, (fun _ h => nomatch h)⟩
      · intro c' i v u s1 own hin hoff hI3 F21 N21
        obtain ⟨x, hxi, a1, n1, u1, u2, u3, rfl, hm⟩ := paired_get hPb hin
        generalize hrest : c'.tup ++ base ++ own = rest'
        have N22 : News s₁.heap s₁.heap.objs.size s1.heap ((a1, ({ cls := .type "tuple", data := .seq #[.int x.1 u1, .str x.2.1 u2, .int x.2.2 u3] n1 } : Obj)) :: (CA, c'.oC) :: (HA, listOf q.1.toArray q.2.1) :: (MA, listOf c.mv.toArray c.nm) :: rest') := by
          intro p hp
          refine N21 p ?_
          rcases List.mem_cons.mp hp with rfl | hp
          · exact List.mem_append_left _ (.tail _ (.tail _ (.tail _ (List.mem_append_right _ hm))))
          · rw [← hrest] at hp
            simp only [List.mem_cons, List.mem_append] at hp ⊢
            grind
        have q1 : ∀ p ∈ rest', p.1 ≠ CA := offs_of hrest hI3.off oCb (hoff.ne (b := CA) (by simp))
        have a1C : @Ne Nat a1 CA := oCb _ hm
        clear N21
        have hcd := hI3.hd
        have hkl := hI3.len
        have hi8 : i < 8 := by have := (List.getElem?_eq_some_iff.mp hxi).1; omega
        k_steps
        unfold Hold
        rename_i h24 F24 N24 h25 F25 N25 _ _ _
        have oT1 : @Ne Nat h24.objs.size CA := Nat.ne_of_gt (Heap.lt_size (N24 _ (.tail _ (.head _))).1)
        have oT2 : ∀ p ∈ rest', p.1 ≠ h24.objs.size := fun p hp => Nat.ne_of_lt (Heap.lt_size (N24 p (.tail _ (.tail _ (.tail _ (.tail _ hp))))).1)
        dsimp only at N25
        k_dflt (refine' kda_set (knd := PySem.intKind _ _) ?F ?N ?U hcd (intKind_is _ _ _ _) ?z ?_)
        (case F => k_asm)
        (case N => exact N25)
        (case U => k_updF)
        (case z => rw [sizeLine_eq]; omega)
        intro h23 oC' F23 N23 hd'
        (try dsimp only at N23)
        k_steps
        refine lpT_end (P := CkInv w CA cells (i + 1)) (c := ⟨oC', c'.kvs ++ [(x.1, .ref h24.objs.size)], (h24.objs.size, { cls := .type "tuple", data := .seq #[.str x.2.1 u2, .int x.2.2 u3] 0 }) :: c'.tup⟩) (by assumption) N23 ?_ ?_ (own_more (a := h24.objs.size) hoff ?_ ?_) ?_ ?_ ?_
        · intro p hp
          simp only [List.mem_cons, ← hrest, List.mem_append, List.cons_append] at hp ⊢
          grind
        · intro p hp
          simp only [List.mem_cons, ← hrest, List.mem_append]
          grind
        · intro b hb; simp at hb ⊢; grind
        · intro p hp; exact oT2 p (by rw [← hrest]; exact List.mem_append_right _ hp)
        · intro p hp; cases hp
        · intro z h1 h2
          have n1 : z ≠ Str.ofString "cell" := fun e => absurd h2 (by rw [e]; decide)
          simp only [if_neg n1, kstB, h2, Bool.false_eq_true, if_false]
        · exact hI3.next hgood hxi hd' oT1
      · intro c' u h22 tk22 hI3 F22 N22
        have hI3' : CkInv w CA cells cells.length c' := by rw [← hP.length]; exact hI3
        have meach' : ∀ x ∈ c.marks, 0 ≤ x.1 ∧ x.1 < 100 ∧ 0 ≤ x.2.1 ∧ x.2.1 < 64 ∧ x.2.2.length ≤ 32 := fun x hx => by
          have := meach x hx
          exact ⟨this.1, by omega, this.2.2.1, by omega, this.2.2.2.2.1⟩
        k_steps
        unfold Hold
        refine kup_listOf F22 N22 (.tail _ (.head _)) rfl ?_ ?_
        rotate_left
        · rw [sizeLine_eq, hq1.length, hq2]; unfold handedOf; rw [List.length_map, List.length_range]; omega
        intro HL cL h26 F26 N26' lL
        have N26 : News s₁.heap s₁.heap.objs.size h26 ((HL, listOf q.1.toArray cL) :: (CA, c'.oC) :: (HA, listOf q.1.toArray q.2.1) :: (MA, listOf c.mv.toArray c.nm) :: (c'.tup ++ base)) := N26'
        clear N26'
        have hCA := hI3'.done hgood (.tail _ (.head _) : (CA, c'.oC) ∈ (HL, listOf q.1.toArray cL) :: (CA, c'.oC) :: (HA, listOf q.1.toArray q.2.1) :: (MA, listOf c.mv.toArray c.nm) :: (c'.tup ++ base)) (fun p hp => .tail _ (.tail _ (.tail _ (.tail _ (List.mem_append_left _ hp))))) lo
        have hPA : PArgs cells q.2.2 := by
          rw [hq2]
          exact pargs_of hgood meach' mkeys hm6
        k_steps
        unfold Hold
        have hbl : ∀ p ∈ base, p ∈ (HL, listOf q.1.toArray cL) :: (CA, c'.oC) :: (HA, listOf q.1.toArray q.2.1) :: (MA, listOf c.mv.toArray c.nm) :: (c'.tup ++ base) := fun p hp => .tail _ (.tail _ (.tail _ (.tail _ (List.mem_append_right _ hp))))
        have htl : ∀ p ∈ c.tl, p ∈ base := by rw [← hbase]; exact fun p hp => List.mem_append_left _ hp
        k_dflt (refine' CallOn.use (painter_ok w _ mg mb CA HL c'.oC c'.kvs q.1 cL cells q.2.2 fir _ fill _ _ _ _ hCA (.head _) (paired_mono hq1 fun _ _ e => e.mono fun p hp => hbl p (htl p hp)) hPA hf0 ?p1 ?p2 ?p3 ?p4) ?k1 ?k2 ?k3 ?k4 (fun _ h => h) ?k5 ?k6 trivial ?k8 ?k9 ?_)
        (case p1 => omega)
        (case p2 => omega)
        (case p3 => omega)
        (case p4 => omega)
        (case k1 => k_asm)
        (case k2 => k_asm)
        (case k3 => k_asm)
        (case k4 => exact N26)
        (case k5 => k_asm)
        (case k6 => first | exact rfl | assumption)
        (case k8 => ktr_room)
        (case k9 => units_room)
        rintro v _ h27 tk27 F27 N27 ⟨⟨ks, tp, rfl, hks, hkm⟩, rfl⟩
        have hpl : paintText cells q.2.2 fir (fir + 1 + ste) fill ks = writtenText cells c.marks fir (fir + 1 + ste) fill :=
          plain_law hgood (fun x hx => ⟨(meach' x hx).1, (meach' x hx).2.2.1, (meach' x hx).2.2.2.1⟩) (mkeys.imp fun h => by omega) (fun x hx => (meach x hx).2.2.2.2.2) (by rw [hq2]; exact handed_perm hm6) (by omega) hks hkm
        generalize hX : Txt.join (Str.ofString "") (paintText cells q.2.2 fir (fir + 1 + ste) fill ks) = X
        rw [hpl] at hX
        k_steps
        unfold Hold
        rename_i h28 F28 N28
        k_dflt (refine' CallOK.use (written_ok w _ _ mg mb R MA rv c.mv m3 c.nm cells c.marks fir _ fill _ _ _ _ (hbl _ hRb) (paired_mono hPb fun _ _ e => e.mono hbl) (.tail _ (.tail _ (.tail _ (.head _)))) (paired_mono mpar fun _ _ e => e.mono fun p hp => hbl p (htl p hp)) (wargs_of hgood meach' mkeys hm6) hf0 ?p1 ?p2 ?p3 ?p4) ?k1 ?k2 ?k3 N28 (fun _ h => h) ?k5 ?k6 ?k8 ?k9 ?_)
        (case p1 => omega)
        (case p2 => omega)
        (case p3 => omega)
        (case p4 => omega)
        (case k1 => k_asm)
        (case k2 => k_asm)
        (case k3 => k_asm)
        (case k5 => k_asm)
        (case k6 => first | exact rfl | assumption)
        (case k8 => ktr_room)
        (case k9 => units_room)
        rintro v _ h29 tk29 F29 N29 ⟨⟨tw, rfl⟩, rfl⟩
        rw [hX]
        k_steps
        unfold Hold
        rename_i C2 _ o2 lo2 _ _ ho2 _ _ M2 h30 F30 N30 _
        k_dflt (refine' CallOn.use (painter_ok w _ mg mb C2 M2 o2 [] [] 0 [] [] 0 5 fill _ _ _ _ (cells_none (.tail _ (.head _)) ho2 lo2) (.head _) .nil pargs_none (Int.le_refl _) ?p1 ?p2 ?p3 ?p4) ?k1 ?k2 ?k3 ?k4 (fun _ h => h) ?k5 ?k6 trivial ?k8 ?k9 ?_)
        (case p1 => omega)
        (case p2 => omega)
        (case p3 => omega)
        (case p4 => omega)
        (case k1 => k_asm)
        (case k2 => k_asm)
        (case k3 => k_asm)
        (case k4 => exact N30)
        (case k5 => k_asm)
        (case k6 => first | exact rfl | assumption)
        (case k8 => ktr_room)
        (case k9 => units_room)
        rintro v _ h31 tk31 F31 N31 ⟨⟨ks2, tp2, rfl, hks2, hkm2⟩, rfl⟩
        have hem : Txt.join (Str.ofString "") (paintText [] [] 0 5 fill ks2) = Str.ofString "" := paint_none hkm2
        generalize Txt.join (Str.ofString "") (paintText [] [] 0 5 fill ks2) = X2 at hem
        subst hem
        k_steps
      · intro i s' v Q' st hQ'
        exact letGo_listiter st hQ')

end Mine
theorem PySem.Challenge.cw_ax6028_01_holds : PySem.Challenge.rw_ax6028_01.Holds := by
  exact Mine.law_walk
