import PyProof.Rows.All
import Wide.All
import OpenK.AllK
import Wide.FinOn
import Lean
import PySem.Challenge.RW_sh0054_01
open PySem PySem.W PySem.Calls PyProof.Rows
set_option Elab.async false
set_option maxRecDepth 100000
set_option maxHeartbeats 8000000 in
open_top hd for PySem.Challenge.rw_sh0054_01
namespace Mine
/-- short lemmas in place of omega: a proof by omega is some 500 nodes large, one of these some 30 -/
theorem room2 {a n m i j : Nat} (h : a + n < m) (hk : Nat.ble (i + j) n = true) : a + i + j < m := by rw [Nat.add_assoc]; exact Nat.lt_of_le_of_lt (Nat.add_le_add_left (Nat.le_of_ble_eq_true hk) _) h
/-- where the walk halts: what the number 0 names always, the others in one part each -/
inductive Halt : Nat → {α : Type} → Sem α → Prop
  | iter {v} : Halt 0 (pyIter v)
  | ref {a x y} : Halt 0 (call (Value.ref a) x y)
  | rsh {x y} : Halt 0 (binaryOp Operator.RShift x y)
  | lsh {x y} : Halt 0 (binaryOp Operator.LShift x y)
  | len {a} : Halt 0 (call (Value.builtin "len") [Value.ref a])
  | item {x y a i t} : Halt 0 (subscriptTail x y (Value.ref a) (Value.int i t))
  | mkfn {a b c d e f g h i j k} : Halt 0 (makeFunction a b c d e f g h i j k)
  | mul {a x} : Halt 0 (binaryOp Operator.Mult (Value.ref a) x)
  | meth {a x y} : Halt 13 (getMethod (Value.ref a) x y)
  | split {x} : Halt 14 (call (Value.builtin "str.split") x)
  | find {x} : Halt 14 (call (Value.builtin "str.find") x)
  | list {l} : Halt 17 (newList l)
  | split16 {x} : Halt 16 (call (Value.builtin "str.split") x)
  | app16 {x y} : Halt 16 (call (Value.builtin "list.append") x y)
  | list16 {l} : Halt 16 (newList l)
  | list22 {l} : Halt 22 (newList l)
  | for22 {a b c d e env} : Halt 22 (exec (Stmt.For a b c d e) env)
  | comp22 {a b c d env} : Halt 22 (eval (PySem.Expr.ListComp a b c d) env)
  | ext22 {x y} : Halt 22 (call (Value.builtin "list.extend") x y)
  | add22 {a x} : Halt 22 (binaryOp Operator.Add (Value.ref a) x)
  | list28 {l} : Halt 28 (newList l)
  | tup28 {l} : Halt 28 (newTuple l)
  | pow28 {x y} : Halt 28 (binaryOp Operator.Pow x y)
  | asg28 {k a b c d p env} : Halt 28 (exec (Stmt.Assign k (PySem.Expr.ListComp a b c d) p) env)
  | comp28 {a b c d env} : Halt 28 (eval (PySem.Expr.ListComp a b c d) env)
  | list30 {l} : Halt 30 (newList l)
  | app30 {x y} : Halt 30 (call (Value.builtin "list.append") x y)
  | max30 {x y} : Halt 30 (call (Value.builtin "max") x y)
  | stz {a x} : Halt 30 (storeName a (Str.ofString "size") x)
  | sty {a x} : Halt 30 (storeName a (Str.ofString "y") x)
  | stu {a x} : Halt 30 (storeName a (Str.ofString "u") x)
  | sts {a x} : Halt 30 (storeName a (Str.ofString "shares") x)
  | asg30 {k a b c d p env} : Halt 30 (exec (Stmt.Assign k (PySem.Expr.ListComp a b c d) p) env)
  | comp30 {a b c d env} : Halt 30 (eval (PySem.Expr.ListComp a b c d) env)
  | sub30 {x y a b} : Halt 30 (subscriptTail x y (Value.ref a) (Value.ref b))
section
variable {M : Model} {α : Type} {act : Sem α} {A : Around} {Q : α → Shared → Prop} {E : Value → Shared → Prop} {s : Shared}
theorem halt (k : Nat) (_ : Halt k act) (h : wpAny M A act Q E s) : wpAny M A act Q E s := h
theorem isWp (h : wpAny M A act Q E s) : wpAny M A act Q E s := h
theorem andWp {P : Prop} (p : P) (h : wpAny M A act Q E s) : P ∧ wpAny M A act Q E s := ⟨p, h⟩
end
theorem isAT {M : Model} {A : Around} {Q : Unit → Shared → Prop} {E : Value → Shared → Prop} {s : Shared} {a b x y} (h : wpAny M A (assign (Expr.Tuple a b x) y (Value.ref z)) Q E s) : wpAny M A (assign (Expr.Tuple a b x) y (Value.ref z)) Q E s := h
theorem isUI {M : Model} {A : Around} {Q : List Value → Shared → Prop} {E : Value → Shared → Prop} {s : Shared} {x z} (h : wpAny M A (unpackItems (Value.ref z) x none) Q E s) : wpAny M A (unpackItems (Value.ref z) x none) Q E s := h
/-- two places that differ; hidden from omega, which splits at every such fact -/
def Apart (a b : Nat) : Prop := a ≠ b
theorem Apart.l {a b : Nat} (h : Apart a b) : a ≠ b := h
theorem Apart.r {a b : Nat} (h : Apart a b) : b ≠ a := Ne.symm h
theorem toNat_plus {a : Int} {n : Nat} (h : 0 ≤ a) : (a + (n : Int)).toNat = a.toNat + n := by omega
theorem seg_len {ns : List Int} {a : Int} {k : Nat} (h0 : 0 ≤ a) (h : a + k ≤ ns.length) : ((ns.drop a.toNat).take k).length = k := by
  rw [List.length_take, List.length_drop]; omega
theorem splice_len {ns ds : List Int} {a : Int} {k : Nat} (h0 : 0 ≤ a) (h : a + k ≤ ns.length) (hd : ds.length = k) : (ns.take a.toNat ++ ds ++ ns.drop (a.toNat + k)).length = ns.length := by
  rw [List.length_append, List.length_append, List.length_take, List.length_drop, hd]; omega
theorem small_sub {i j n : Nat} (h : i + 1 ≤ n) (h6 : n ≤ 6) : ((i - j : Nat) : Int) < 2 ^ 63 := by omega
theorem tokN {M : Model} {α : Type} {act : Sem α} {A : Around} {Q : α → Shared → Prop} {E : Value → Shared → Prop} {hp g d o} {t : Nat} (h : ∀ t', wpAny M A act Q E ⟨hp, g, d, t' + 1, o⟩) : wpAny M A act Q E ⟨hp, g, d, t + 1 + 1 + 1 + 1 + 1 + 1, o⟩ := h _


/-- a call of a def of the text that leaves all that stood as it stood -/
def Pure (w : World) (f : Addr) (D U : Nat) (vs : List Value) (pre : Heap → Prop) (post : Nat → Value → Heap → Prop) : Prop :=
  ∀ (loose : List Str) (mean : ExcName → Option Value) (mg mb : Str → Option Value) (A : Around) (s : Shared) (Q E : Value → Shared → Prop),
    A.handled = none → A.depth + D < recursionLimit → A.units + U < cLine → (hd.heap_39 w.params).In s.heap → Top topProg loose mean mg mb s.heap → pre s.heap →
    (∀ v h' tk', (∀ b o, s.heap.get? b = some o → h'.get? b = some o) → post s.heap.objs.size v h' → Q v { s with heap := h', toks := tk' }) →
    wpAny (model PySem.Challenge.rw_sh0054_01.row.prog w) A (call (.ref f) vs) Q E s

theorem enterP {w : World} {s : Shared} {A : Around} {K : Frag} {loose : List Str} {mean : ExcName → Option Value} {mg mb : Str → Option Value} {R : Result → Shared → Prop}
    {name qual : Str} {params : Arguments} {body : List Stmt} {scope : Scope} {dV kV doc pm cdv ct oc : Value} {an od : Option Addr} {osl : Array (Option Value)} {f : Addr} {args : Args} {binds : List (Str × Value)}
    (X : K.In s.heap) (T : Top topProg loose mean mg mb s.heap)
    (ho : K.lookup f = some ⟨oc, od, .func (fnOf name qual params body scope dV kV doc pm an cdv ct), osl⟩) (hcd : codeIn K cdv qual = true) (hroom : A.depth < recursionLimit)
    (hbind : BindsTo s (fnOf name qual params body scope dV kV doc pm an cdv ct) args binds) (hloc : ∀ y ∈ binds, scope.names.lookup y.1 = some .local)
    (h : ∀ L h₁, Fr s.heap L h₁ (fun y => binds.reverse.lookup y) →
      wpAny (model PySem.Challenge.rw_sh0054_01.row.prog w) (A.deeper (envOf qual scope L f cdv)) (execs body (envOf qual scope L f cdv))
        (fun fl s' => R (.ok (.ret (match fl with | .ret v => v | _ => .none))) s') (fun _ _ => False) { s with heap := h₁, toks := s.toks + binds.length })
    (hco : scope.isCoroutine = false) (hgen : scope.isGenerator = false) (hk : scope.kind = .function)
    (hcell : ∀ x ∈ scope.names, x.2 ≠ .cell) : codeAny (model PySem.Challenge.rw_sh0054_01.row.prog w) A (.call (.ref f) args) R s := by
  refine codeAny_call_def (fd := fnOf name qual params body scope dV kV doc pm an cdv ct) (body := body) (binds := binds) hroom (X _ _ ho) rfl T.nolimit (codeRec_of X hcd) rfl hbind hcell hloc (fun h₁ hns hk₁ => ?_) hco hgen hk
  exact wpAny_mono (h _ h₁ ⟨hns, hk₁, Nat.le_refl _⟩) (fun _ _ x => x) (fun _ _ x => x.elim)

theorem ne_of_lts {l : List (Addr × Obj)} {a c : Nat} (h : ∀ p ∈ l, p.1 < a) (hc : a ≤ c) : ∀ p ∈ l, p.1 ≠ c := fun p hp => Nat.ne_of_lt (Nat.lt_of_lt_of_le (h p hp) hc)
theorem ne_of_gts {l : List (Addr × Obj)} {a c : Nat} (h : ∀ p ∈ l, a < p.1) (hc : c ≤ a) : ∀ p ∈ l, p.1 ≠ c := fun p hp => Nat.ne_of_gt (Nat.lt_of_le_of_lt hc (h p hp))
/-- the walk goes on with a hidden end: what stands behind is named once, not at every step -/
theorem cutQ {M : Model} {α : Type} {act : Sem α} {A : Around} {Q : α → Shared → Prop} {E : Value → Shared → Prop} {s : Shared}
    (h : ∀ Qr : α → Shared → Prop, (∀ v s', Q v s' → Qr v s') → wpAny M A act Qr E s) : wpAny M A act Q E s := h Q fun _ _ x => x

section
variable {prog : Program} {w : World} {A : Around} {E : Value → Shared → Prop} {s : Shared} {env : Env} {h₀ : Heap} {x : Str} {body : List Stmt} {Q : Flow → Shared → Prop}

def LEnd (h₀ : Heap) (L I : Addr) (own : List (Addr × Obj)) (J : (Str → Option Value) → List (Addr × Obj) → Prop) (s₁ : Shared) (Q : Flow → Shared → Prop) (f : Flow) (s₂ : Shared) : Prop :=
  match f with
  | .ret v => Q (.ret v) s₂
  | .brk => Q .next s₂
  | _ => ∃ h' tk m' news', s₂ = { s₁ with heap := h', toks := tk } ∧ Fr h₀ L h' m' ∧ News h₀ L h' (own ++ news') ∧ (∀ p ∈ news', p.1 ≠ I) ∧ J m' news'

theorem loop_gen {I : Addr} {fp : List Addr} {n : Nat} {P : Nat → Value → Prop} {St : Nat → Heap → Prop} {m₀ : Str → Option Value} {news : List (Addr × Obj)} (J : (Str → Option Value) → Nat → (Str → Option Value) → List (Addr × Obj) → Prop)
    (W : Walks prog w A I fp [I] n P St) (hLf : env.locals ∉ fp) (hI0 : h₀.get? I = none) (hnI : ∀ p ∈ news, p.1 ≠ I) (hst : St 0 s.heap)
    (F : Fr h₀ env.locals s.heap m₀) (N : News h₀ env.locals s.heap news) (hj : J m₀ 0 m₀ news)
    (turn : ∀ i v m₁ news₁ h tk own, i < n → P i v → J m₀ i m₁ news₁ → (∀ p ∈ news₁, p.1 ≠ I) → (∀ p ∈ own, p.1 ∈ fp) → St (i + 1) h →
      Fr h₀ env.locals h (fun y => if y = x then some v else m₁ y) → News h₀ env.locals h (own ++ news₁) →
      wpAny (model prog w) A (execs body env) (LEnd h₀ env.locals I own (J m₀ (i + 1)) { s with heap := h, toks := tk } Q) E { s with heap := h, toks := tk })
    (done : ∀ m₁ news₁ h tk, J m₀ n m₁ news₁ → Fr h₀ env.locals h m₁ → News h₀ env.locals h news₁ → Q .next { s with heap := h, toks := tk }) :
    LoopAtV prog w A h₀ env x body Q E (.ref I) s := by
  refine ⟨I, fp, [I], n, P, St, m₀, news, J m₀, rfl, W, hLf, ?_, ?_, hst, F, N, hj, ?_, ?_⟩
  · intro b hb; rw [List.mem_singleton.mp hb]; exact hI0
  · intro p hp hq; exact hnI p hp (List.mem_singleton.mp hq)
  · rintro i v m₁ news₁ s₁ own ⟨hh', tk', rfl⟩ hi hP hJ hoff hown _ _ hst' F₁ N₁
    refine wpAny_mono (turn i v m₁ news₁ hh' tk' own hi hP hJ (fun p hp e => hoff p hp (List.mem_singleton.mpr e)) hown hst' F₁ N₁) (fun f s₂ p => ?_) fun _ _ e => e
    have fin : (∃ h' tk m' news', s₂ = { s with heap := h', toks := tk } ∧ Fr h₀ env.locals h' m' ∧ News h₀ env.locals h' (own ++ news') ∧ (∀ p ∈ news', p.1 ≠ I) ∧ J m₀ (i + 1) m' news') →
        LoopStepU h₀ env.locals [I] own (J m₀ (i + 1)) { s with heap := hh', toks := tk' } .next s₂ := by
      rintro ⟨h', tk, m', news', rfl, F', N', hI, hJ'⟩
      exact ⟨rfl, h', tk, m', news', rfl, F', N', fun p hp hq => hI p hp (List.mem_singleton.mp hq), hJ'⟩
    cases f with
    | ret v => exact .ret p
    | brk => exact .brk p
    | next => exact .next (fin p)
    | cont => exact .cont (fin p)
  · rintro h' tk m' news' F' N' _ hJ
    exact done m' news' h' tk hJ F' N'

theorem iter_list {l : Addr} {items : Array Value} {m₀ : Str → Option Value} {news : List (Addr × Obj)} (J : (Str → Option Value) → Nat → (Str → Option Value) → List (Addr × Obj) → Prop)
    (hh : A.handled = none) (hl : s.heap.IsList l items) (hlL : l ≠ env.locals)
    (F : Fr h₀ env.locals s.heap m₀) (N : News h₀ env.locals s.heap news) (hj : J m₀ 0 m₀ news)
    (turn : ∀ I i v m₁ news₁ h tk own, I = s.heap.objs.size → items[i]? = some v → J m₀ i m₁ news₁ → (∀ p ∈ news₁, p.1 ≠ I) → (∀ p ∈ own, p.1 = I ∨ p.1 = l) → h.IsList l items →
      Fr h₀ env.locals h (fun y => if y = x then some v else m₁ y) → News h₀ env.locals h (own ++ news₁) →
      wpAny (model prog w) A (execs body env) (LEnd h₀ env.locals I own (J m₀ (i + 1)) { s with heap := h, toks := tk } Q) E { s with heap := h, toks := tk })
    (done : ∀ m₁ news₁ h tk, J m₀ items.size m₁ news₁ → Fr h₀ env.locals h m₁ → News h₀ env.locals h news₁ → Q .next { s with heap := h, toks := tk }) :
    wpAny (model prog w) A (pyIter (.ref l)) (fun it s₂ => LoopAtV prog w A h₀ env x body Q E it s₂) E s := by
  obtain ⟨ol, hol, _⟩ := id hl
  have hlt : l < s.heap.objs.size := Heap.lt_size hol
  refine wpAny_pyIter_list hl ?_
  refine loop_gen J (Walks.list hh s.heap.objs.size l (Nat.ne_of_lt hlt) items) ?_ (next_is_new F) (fun p hp => Nat.ne_of_lt (Heap.lt_size (N p hp).1))
    ⟨⟨_, Heap.get?_push_size _ rfl, rfl, rfl⟩, hl.push _⟩ (F.push _) (fun p hp => ⟨Heap.get?_push_of_some _ (N p hp).1, (N p hp).2⟩) hj ?_ (fun m₁ news₁ h tk => done m₁ news₁ h tk)
  · intro hm
    rcases List.mem_cons.mp hm with e | hm
    · exact absurd F.ns.lt (e ▸ Nat.lt_irrefl _)
    · exact hlL (List.mem_singleton.mp hm).symm
  · intro i v m₁ news₁ h tk own _ hP hJ hI hown hst F₁ N₁
    refine turn _ i v m₁ news₁ h tk own rfl hP hJ hI (fun p hp => ?_) hst.2 F₁ N₁
    rcases List.mem_cons.mp (hown p hp) with e | e
    · exact .inl e
    · exact .inr (List.mem_singleton.mp e)

theorem iter_range {r : Addr} {a b c : Int} {t u v : Tok} {n : Nat} {m₀ : Str → Option Value} {news : List (Addr × Obj)} (J : (Str → Option Value) → Nat → (Str → Option Value) → List (Addr × Obj) → Prop)
    (hh : A.handled = none) (hr : IsRange s.heap r a b c t u v) (hsmall : Builtin.Range.small a b c = true) (hn : Builtin.Range.rangeSize a b c = (n : Int))
    (F : Fr h₀ env.locals s.heap m₀) (N : News h₀ env.locals s.heap news) (hj : J m₀ 0 m₀ news)
    (turn : ∀ I i k tv m₁ news₁ h tk own, I = s.heap.objs.size → i < n → k = a + (i : Int) * c → J m₀ i m₁ news₁ → (∀ p ∈ news₁, p.1 ≠ I) → (∀ p ∈ own, p.1 = I) →
      Fr h₀ env.locals h (fun y => if y = x then some (.int k tv) else m₁ y) → News h₀ env.locals h (own ++ news₁) →
      wpAny (model prog w) A (execs body env) (LEnd h₀ env.locals I own (J m₀ (i + 1)) { s with heap := h, toks := tk } Q) E { s with heap := h, toks := tk })
    (done : ∀ m₁ news₁ h tk, J m₀ n m₁ news₁ → Fr h₀ env.locals h m₁ → News h₀ env.locals h news₁ → Q .next { s with heap := h, toks := tk }) :
    wpAny (model prog w) A (pyIter (.ref r)) (fun it s₂ => LoopAtV prog w A h₀ env x body Q E it s₂) E s := by
  refine wpAny_pyIter_range hr hsmall ?_
  refine loop_gen J (Walks.range hh s.heap.objs.size a c n) ?_ (next_is_new F) (fun p hp => Nat.ne_of_lt (Heap.lt_size (N p hp).1))
    (by show IsRangeIter _ _ _ _ _; rw [hn]; simpa using Heap.get?_push_size _ rfl) (F.push _) (fun p hp => ⟨Heap.get?_push_of_some _ (N p hp).1, (N p hp).2⟩) hj ?_ (fun m₁ news₁ h tk => done m₁ news₁ h tk)
  · intro hm
    exact absurd F.ns.lt ((List.mem_singleton.mp hm) ▸ Nat.lt_irrefl _)
  · rintro i v m₁ news₁ h tk own hi ⟨tv, rfl⟩ hJ hI hown hst F₁ N₁
    exact turn _ i _ tv m₁ news₁ h tk own rfl hi rfl hJ hI (fun p hp => List.mem_singleton.mp (hown p hp)) F₁ N₁
end

theorem map1 {m m₀ : Str → Option Value} {x : Str} (h : ∀ y, y ≠ x → m y = m₀ y) : m = fun y => if y = x then m x else m₀ y := by
  funext y; by_cases e : y = x
  · subst e; simp
  · simp [e, h y e]
theorem map2 {m m₀ : Str → Option Value} {a b : Str} (h : ∀ y, y ≠ a → y ≠ b → m y = m₀ y) : m = fun y => if y = a then m a else if y = b then m b else m₀ y := by
  funext y; by_cases e : y = a
  · subst e; simp
  · by_cases f : y = b
    · subst f; simp [e]
    · simp [e, f, h y e f]
theorem map3 {m m₀ : Str → Option Value} {a b c : Str} (h : ∀ y, y ≠ a → y ≠ b → y ≠ c → m y = m₀ y) : m = fun y => if y = a then m a else if y = b then m b else if y = c then m c else m₀ y := by
  funext y; by_cases e : y = a
  · subst e; simp
  · by_cases f : y = b
    · subst f; simp [e]
    · by_cases g : y = c
      · subst g; simp [e, f]
      · simp [e, f, g, h y e f g]

/-- the frame's own ground, a call's entry in full: g is what stays, news0 what is known besides -/
theorem enterG {w : World} {s : Shared} {A : Around} {loose : List Str} {mean : ExcName → Option Value} {mg mb : Str → Option Value} {R : Result → Shared → Prop} {g : Heap} {news0 : List (Addr × Obj)} {fo : Obj}
    {name qual : Str} {params : Arguments} {body : List Stmt} {scope : Scope} {cl : List (Str × Addr)} {dV kV doc pm cdv ct : Value} {an : Option Addr} {f : Addr} {args : Args} {binds : List (Str × Value)}
    (hg : ∀ b o, g.get? b = some o → s.heap.get? b = some o) (hsz : g.objs.size ≤ s.heap.objs.size) (hN : ∀ p ∈ news0, s.heap.get? p.1 = some p.2 ∧ g.get? p.1 = none)
    (T : Top topProg loose mean mg mb g)
    (ho : s.heap.get? f = some fo) (hd : fo.data = .func (fnX name qual params body scope cl dV kV doc pm an cdv ct)) (hcd : s.heap.CodeRec cdv qual) (hroom : A.depth < recursionLimit)
    (hbind : BindsTo s (fnX name qual params body scope cl dV kV doc pm an cdv ct) args binds) (hloc : ∀ y ∈ binds, scope.names.lookup y.1 = some .local)
    (h : ∀ L h₁, s.heap.objs.size = L → (∀ b o, s.heap.get? b = some o → h₁.get? b = some o) → Fr g L h₁ (fun y => binds.reverse.lookup y) → News g L h₁ news0 →
      wpAny (model PySem.Challenge.rw_sh0054_01.row.prog w) (A.deeper (envX qual scope L f cdv cl)) (execs body (envX qual scope L f cdv cl))
        (fun fl s' => R (.ok (.ret (match fl with | .ret v => v | _ => .none))) s') (fun _ _ => False) { s with heap := h₁, toks := s.toks + binds.length })
    (hco : scope.isCoroutine = false) (hgen : scope.isGenerator = false) (hk : scope.kind = .function)
    (hcell : ∀ x ∈ scope.names, x.2 ≠ .cell) : codeAny (model PySem.Challenge.rw_sh0054_01.row.prog w) A (.call (.ref f) args) R s := by
  refine codeAny_call_def (fd := fnX name qual params body scope cl dV kV doc pm an cdv ct) (body := body) (binds := binds) hroom ho hd (T.nolimit.keeps hg) hcd rfl hbind hcell hloc (fun h₁ hns hk₁ => ?_) hco hgen hk
  exact wpAny_mono (h _ h₁ rfl hk₁ ⟨hns, fun b o e => hk₁ b o (hg b o e), hsz⟩ (fun p hp => ⟨hk₁ _ _ (hN p hp).1, Nat.ne_of_lt (Heap.lt_size (hN p hp).1), (hN p hp).2⟩)) (fun _ _ x => x) (fun _ _ x => x.elim)

theorem enterC {w : World} {s : Shared} {A : Around} {loose : List Str} {mean : ExcName → Option Value} {mg mb : Str → Option Value} {R : Result → Shared → Prop} {g : Heap} {news0 : List (Addr × Obj)} {fo : Obj}
    {name qual : Str} {params : Arguments} {body : List Stmt} {scope : Scope} {dV kV doc pm cdv ct : Value} {an : Option Addr} {f : Addr} {args : Args} {binds : List (Str × Value)}
    (hg : ∀ b o, g.get? b = some o → s.heap.get? b = some o) (hsz : g.objs.size ≤ s.heap.objs.size) (hN : ∀ p ∈ news0, s.heap.get? p.1 = some p.2 ∧ g.get? p.1 = none)
    (T : Top topProg loose mean mg mb g)
    (ho : s.heap.get? f = some fo) (hd : fo.data = .func (fnX name qual params body scope [] dV kV doc pm an cdv ct)) (hcd : s.heap.CodeRec cdv qual) (hroom : A.depth < recursionLimit)
    (hbind : BindsTo s (fnX name qual params body scope [] dV kV doc pm an cdv ct) args binds)
    (hkind : (binds.all fun y => scope.names.lookup y.1 == some .local || scope.names.lookup y.1 == some .cell) = true)
    (hnd : ((cellsFrom 0 scope.names []).map (·.1)).Nodup)
    (h : ∀ L h₁ tk cells, s.heap.objs.size = L → (∀ b o, s.heap.get? b = some o → h₁.get? b = some o) → Fr g L h₁ (bindL (envOfC qual scope L f cdv).kindOf binds fun _ => none) → News g L h₁ (cells ++ news0) →
      CellsAre (bindC (envOfC qual scope L f cdv).kindOf binds fun _ => none) (cellsFrom (L + 1) scope.names []) cells →
      wpAny (model PySem.Challenge.rw_sh0054_01.row.prog w) (A.deeper (envOfC qual scope L f cdv)) (execs body (envOfC qual scope L f cdv))
        (fun fl s' => R (.ok (.ret (match fl with | .ret v => v | _ => .none))) s') (fun _ _ => False) { s with heap := h₁, toks := tk })
    (hco : scope.isCoroutine = false) (hgen : scope.isGenerator = false) (hk : scope.kind = .function) :
    codeAny (model PySem.Challenge.rw_sh0054_01.row.prog w) A (.call (.ref f) args) R s := by
  refine codeAny_call_function hroom ho hd hco hgen rfl hcd (hbind _ _ _ _ ?_)
  refine wpAny_newFunctionEnv_cells hk (kindsX hkind _) fun env' he s' x => ?_
  subst he
  refine ⟨(T.nolimit.keeps hg).keeps x.toInCall.keep, codeAny_func ?_⟩
  obtain ⟨h₁, tk, rfl, _⟩ := x.done
  have hk₁ := x.toInCall.keep
  obtain ⟨cells, NC, Y⟩ := Cl.news (h₀ := s.heap) (Nat.le_refl _) fun n c hm => ⟨x.cell n c (lookup_of_mem_nodup (cellsFrom_names scope.names 0 (s.heap.objs.size + 1) [] [] rfl ▸ hnd) hm), x.above n c hm⟩
  have none_of : ∀ b, s.heap.get? b = none → g.get? b = none := fun b e => by
    cases q : g.get? b with
    | none => rfl
    | some o => rw [hg b o q] at e; cases e
  refine wpAny_mono (h s.heap.objs.size h₁ tk cells rfl hk₁ ⟨x.toInCall.ns, fun b o e => hk₁ b o (hg b o e), hsz⟩ (fun p hp => ?_) Y) (fun _ _ x => x) (fun _ _ x => x.elim)
  rcases List.mem_append.mp hp with hp | hp
  · exact ⟨(NC p hp).1, (NC p hp).2.1, none_of _ (NC p hp).2.2⟩
  · exact ⟨hk₁ _ _ (hN p hp).1, Nat.ne_of_lt (Heap.lt_size (hN p hp).1), (hN p hp).2⟩

/-- the two code tables: empty, or with the code of the inner def -/
def TabL (line col : Int) (qual : Str) (t : Obj) (cs : List (Addr × Obj)) : Prop :=
  t = tabObj #[] ∨ ∃ c' oc vs tk, t = tabObj #[rawInt line, rawInt col, .ref c'] ∧ (c', oc) ∈ cs ∧ oc.data = .fields vs ∧ vs[1]? = some (.str qual tk)
theorem TabL.mono {line col : Int} {qual : Str} {t : Obj} {cs cs' : List (Addr × Obj)} (h : TabL line col qual t cs) (hs : ∀ p ∈ cs, p ∈ cs') : TabL line col qual t cs' :=
  h.imp id fun ⟨c', oc, vs, tk, a, b, c⟩ => ⟨c', oc, vs, tk, a, hs _ b, c⟩
def Tabs (tl : List (Addr × Obj)) : Prop :=
  ∃ t1 t2 cs, tl = (54, t1) :: (61, t2) :: cs ∧ (∀ p ∈ cs, p.1 ≠ 54 ∧ p.1 ≠ 61 ∧ ∃ vs, p.2.data = .fields vs) ∧ TabL 36 4 (Str.ofString "_int2digits.<locals>.inner") t1 cs ∧ TabL 51 4 (Str.ofString "_digits2int.<locals>.inner") t2 cs

/-- a call that may lay code into the two tables, and changes nothing else -/
def PureT (w : World) (f : Addr) (D U : Nat) (vs : List Value) (pre : Heap → Prop) (post : Nat → Value → Heap → Prop) : Prop :=
  ∀ (loose : List Str) (mean : ExcName → Option Value) (mg mb : Str → Option Value) (A : Around) (s : Shared) (Q E : Value → Shared → Prop) (g : Heap) (tl : List (Addr × Obj)),
    A.handled = none → A.depth + D < recursionLimit → A.units + U < cLine → (hd.heap_39 w.params).In g → Top topProg loose mean mg mb g →
    (∀ b o, g.get? b = some o → s.heap.get? b = some o) → g.objs.size ≤ s.heap.objs.size → Tabs tl → (∀ p ∈ tl, s.heap.get? p.1 = some p.2 ∧ g.get? p.1 = none) → pre s.heap →
    (∀ v h' tk' tl', (∀ b o, b ∉ tl.map (·.1) → s.heap.get? b = some o → h'.get? b = some o) → Tabs tl' →
      (∀ p ∈ tl', h'.get? p.1 = some p.2 ∧ (p.1 ∈ tl.map (·.1) ∨ s.heap.objs.size ≤ p.1)) → post s.heap.objs.size v h' → Q v { s with heap := h', toks := tk' }) →
    wpAny (model PySem.Challenge.rw_sh0054_01.row.prog w) A (call (.ref f) vs) Q E s

theorem hide_back {s : Heap} {g : Heap} {tl : List (Addr × Obj)} (hg : ∀ b o, g.get? b = some o → s.get? b = some o) (hN : ∀ p ∈ tl, s.get? p.1 = some p.2 ∧ g.get? p.1 = none) :
    ∀ b o, g.get? b = some o → (hideAll s (tl.map (·.1))).get? b = some o := fun b o e => hideAll_get _ (hg b o e) fun q => by
  obtain ⟨p, hp, rfl⟩ := List.mem_map.mp q
  rw [(hN p hp).2] at e; cases e

/-- a pure call from a frame -/
theorem Pure.use {w : World} {f : Addr} {D U : Nat} {vs : List Value} {pre : Heap → Prop} {post : Nat → Value → Heap → Prop} (C : Pure w f D U vs pre post)
    {loose : List Str} {mean : ExcName → Option Value} {mg mb : Str → Option Value} {A : Around} {s : Shared} {Q E : Value → Shared → Prop} {g : Heap} {L : Addr} {m : Str → Option Value} {news : List (Addr × Obj)}
    (hA : A.handled = none) (hdp : A.depth + D < recursionLimit) (hu : A.units + U < cLine) (X : (hd.heap_39 w.params).In g) (T : Top topProg loose mean mg mb g)
    (F : Fr g L s.heap m) (N : News g L s.heap news) (hpre : pre s.heap)
    (ret : ∀ v h' tk', Fr g L h' m → News g L h' news → (∀ b o, s.heap.get? b = some o → h'.get? b = some o) → post s.heap.objs.size v h' → Q v { s with heap := h', toks := tk' }) :
    wpAny (model PySem.Challenge.rw_sh0054_01.row.prog w) A (call (.ref f) vs) Q E s :=
  C loose mean mg mb A s Q E hA hdp hu (X.keeps F.keep) (T.keeps F.keep) hpre fun v h' tk' hk hp => ret v h' tk' (F.keeps hk) (N.keeps hk) hk hp

/-- a call that may lay code, from a frame -/
theorem PureT.use {w : World} {f : Addr} {D U : Nat} {vs : List Value} {pre : Heap → Prop} {post : Nat → Value → Heap → Prop} (C : PureT w f D U vs pre post)
    {loose : List Str} {mean : ExcName → Option Value} {mg mb : Str → Option Value} {A : Around} {s : Shared} {Q E : Value → Shared → Prop} {g : Heap} {L : Addr} {m : Str → Option Value} {tl news : List (Addr × Obj)}
    (hA : A.handled = none) (hdp : A.depth + D < recursionLimit) (hu : A.units + U < cLine) (X : (hd.heap_39 w.params).In g) (T : Top topProg loose mean mg mb g)
    (F : Fr g L s.heap m) (N : News g L s.heap (tl ++ news)) (hT : Tabs tl) (off : ∀ p ∈ news, ∀ q ∈ tl, p.1 ≠ q.1) (hpre : pre s.heap)
    (ret : ∀ v h' tk' tl', Fr g L h' m → News g L h' (tl' ++ news) → Tabs tl' → (∀ p ∈ news, ∀ q ∈ tl', p.1 ≠ q.1) → (∀ b o, b ∉ tl.map (·.1) → s.heap.get? b = some o → h'.get? b = some o) →
      (∀ p ∈ tl', p.1 ∈ tl.map (·.1) ∨ s.heap.objs.size ≤ p.1) → post s.heap.objs.size v h' → Q v { s with heap := h', toks := tk' }) :
    wpAny (model PySem.Challenge.rw_sh0054_01.row.prog w) A (call (.ref f) vs) Q E s := by
  refine C loose mean mg mb A s Q E g tl hA hdp hu X T F.keep (Nat.le_of_lt (Nat.lt_of_le_of_lt F.above F.ns.lt)) hT (fun p hp => ⟨(N p (List.mem_append_left _ hp)).1, (N p (List.mem_append_left _ hp)).2.2⟩) hpre fun v h' tk' tl' hk hT' hN' hp => ?_
  have hL : L ∉ tl.map (·.1) := fun q => by
    obtain ⟨p, hp, e⟩ := List.mem_map.mp q
    exact (N p (List.mem_append_left _ hp)).2.1 e
  have ho : ∀ b o, g.get? b = some o → b ∉ tl.map (·.1) := fun b o e q => by
    obtain ⟨p, hp, rfl⟩ := List.mem_map.mp q
    rw [(N p (List.mem_append_left _ hp)).2.2] at e; cases e
  have F' : Fr g L h' m := ⟨F.ns.at' fun o e => hk L o hL e, fun b o e => hk b o (ho b o e) (F.keep b o e), F.above⟩
  have offn : ∀ p ∈ news, p.1 ∉ tl.map (·.1) := fun p hp q => by
    obtain ⟨r, hr, e⟩ := List.mem_map.mp q
    exact off p hp r hr e.symm
  refine ret v h' tk' tl' F' (fun p hp => ?_) hT' (fun p hp q hq e => ?_) hk (fun p hp => (hN' p hp).2) hp
  · rcases List.mem_append.mp hp with hp | hp
    · rcases (hN' p hp).2 with q | q
      · obtain ⟨r, hr, e⟩ := List.mem_map.mp q
        have z := N r (List.mem_append_left _ hr)
        exact ⟨(hN' p hp).1, fun y => z.2.1 (e.trans y), e ▸ z.2.2⟩
      · exact ⟨(hN' p hp).1, fun y => absurd F.ns.lt (Nat.not_lt.mpr (y ▸ q)), Heap.get?_none_of_le (Nat.le_trans F.above (Nat.le_trans (Nat.le_of_lt F.ns.lt) q))⟩
    · have z := N p (List.mem_append_right _ hp)
      exact ⟨hk _ _ (offn p hp) z.1, z.2⟩
  · rcases (hN' q hq).2 with r | r
    · exact offn p hp (e ▸ r)
    · exact absurd (Heap.lt_size (N p (List.mem_append_right _ hp)).1) (Nat.not_lt.mpr (e ▸ r))

theorem hide_ground {w : World} {loose : List Str} {mean : ExcName → Option Value} {mg mb : Str → Option Value} {s g : Heap} {tl : List (Addr × Obj)} (hg : ∀ b o, g.get? b = some o → s.get? b = some o)
    (hN : ∀ p ∈ tl, s.get? p.1 = some p.2 ∧ g.get? p.1 = none) (X : (hd.heap_39 w.params).In g) (T : Top topProg loose mean mg mb g) :
    ∃ g', (∀ b o, g'.get? b = some o → s.get? b = some o) ∧ g'.objs.size ≤ s.objs.size ∧ (∀ p ∈ tl, s.get? p.1 = some p.2 ∧ g'.get? p.1 = none) ∧ (hd.heap_39 w.params).In g' ∧ Top topProg loose mean mg mb g' ∧
      (∀ b o, b ∉ tl.map (·.1) → s.get? b = some o → g'.get? b = some o) :=
  ⟨hideAll s (tl.map (·.1)), fun _ _ e => of_hideAll _ e, Nat.le_of_eq (hideAll_size _ _), fun p hp => ⟨(hN p hp).1, hideAll_none _ (List.mem_map_of_mem hp)⟩, X.keeps (hide_back hg hN), T.keeps (hide_back hg hN), fun _ _ hb e => hideAll_get _ e hb⟩

theorem updF_of {P : Addr} {o : Obj} {rest : List (Addr × Obj)} (h2 : ∀ q ∈ rest, q.1 ≠ P) : ∀ {own : List (Addr × Obj)}, (∀ q ∈ own, q.1 ≠ P) → UpdF P o (own ++ (P, o) :: rest) (fun o' => own ++ (P, o') :: rest)
  | [], _ => .head h2
  | q :: r, h1 => .tail (h1 q (.head _)) (updF_of h2 fun q' hq => h1 q' (.tail _ hq))
/-- an inner def is made: its code is laid into the table, or found there -/
theorem nest_T {M : Model} {A : Around} {E : Value → Shared → Prop} {s : Shared} {h₀ : Heap} {L a c P : Addr} {m mg mb : Str → Option Value} {cn : Str} {cs : Scope} {ccd : Value} {cl : List (Str × Addr)} {own rest tcs : List (Addr × Obj)}
    {p : Program} {loose : List Str} {mean : ExcName → Option Value} {name qual : Str} {params : Arguments} {body : List Stmt} {scope : Scope} {t : Obj} {pos : Pos} {firstLine : Nat} {clos : List (Str × Addr)} {Q : Value → Shared → Prop}
    (F : Fr h₀ L s.heap m) (N : News h₀ L s.heap (own ++ (P, t) :: rest)) (T : Top p loose mean mg mb h₀) (C : CodeHd h₀ c P) (hcd : ccd = .ref c) (h1 : ∀ q ∈ own, q.1 ≠ P) (h2 : ∀ q ∈ rest, q.1 ≠ P)
    (ht : TabL pos.line pos.col qual t tcs) (hcl : closureFor scope (envX cn cs L a ccd cl) = pure clos)
    (h : ∀ f c' oc vs tq t' new ctv doc h' tk, Fr h₀ L h' m → News h₀ L h' ((f, fnMade name qual params body scope clos doc ((mg "__name__").getD .none) c' ctv) :: (new ++ (own ++ (P, t') :: rest))) →
      (c', oc) ∈ new ++ tcs → oc.data = .fields vs → vs[1]? = some (.str qual tq) → TabL pos.line pos.col qual t' (new ++ tcs) → (∀ q ∈ own ++ (P, t) :: rest, q.1 < f) → (∀ q ∈ own ++ (P, t) :: rest, ∀ r ∈ new, q.1 < r.1) → (∀ r ∈ new, r.1 < f) → (∀ r ∈ new, ∃ vs, r.2.data = .fields vs) →
      Q (.ref f) { s with heap := h', toks := tk }) :
    wpAny M A (makeFunction name qual params (.stmts body) scope (envX cn cs L a ccd cl) [] [] [] pos firstLine) Q E s := by
  rcases ht with rfl | ⟨c', oc, vs, tq, rfl, hm, hd, hv⟩
  · have U : UpdF P (tabObj #[]) (own ++ (P, tabObj #[]) :: rest) (fun o => own ++ (P, o) :: rest) := updF_of h2 h1
    refine nest_K F N T C hcd U trivial rfl hcl fun f c' oc vs tq ctv doc h' tk F' N' hd hv l1 l2 => ?_
    refine h f c' oc vs tq _ [(c', oc)] ctv doc h' tk F' N' (.head _) hd hv (.inr ⟨c', oc, vs, tq, rfl, .head _, hd, hv⟩) (fun q hq => Nat.lt_trans (l1 q hq) l2) (fun q hq r hr => ?_) (fun r hr => ?_) (fun r hr => ?_)
    · rw [List.mem_singleton.mp hr]; exact l1 q hq
    · rw [List.mem_singleton.mp hr]; exact l2
    · rw [List.mem_singleton.mp hr]; exact ⟨vs, hd⟩
  · refine nestHit_K (c' := c') F N T C hcd (List.mem_append_right _ (.head _)) trivial (by simp [codeAmong, rawInt]) hcl fun f ctv doc h' tk F' N' l1 => ?_
    exact h f c' oc vs tq _ [] ctv doc h' tk F' N' hm hd hv (.inr ⟨c', oc, vs, tq, rfl, hm, hd, hv⟩) l1 (fun q _ r hr => nomatch hr) (fun r hr => nomatch hr) (fun r hr => nomatch hr)

theorem nameX_Fr {M : Model} {A : Around} {E : Value → Shared → Prop} {s : Shared} {h₀ : Heap} {L a c : Addr} {m : Str → Option Value} {cn : Str} {cs : Scope} {ccd : Value} {cl : List (Str × Addr)} {x : Str} {pos : Pos} {v : Value} {o : Obj} {Q : Value → Shared → Prop}
    (F : Fr h₀ L s.heap m) (hc : cl.lookup x = some c) (hv : h₀.get? c = some o) (hd : o.data = .cell (some v)) (h : Q v s)
    (hk : cs.kind = .function := by rfl) (hx : (envX cn cs L a ccd cl).kindOf x = some .free := by rfl) (hb : (x == ("__debug__" : Str)) = false := by decide) (hn : (x == ("__classdict__" : Str)) = false := by decide) :
    wpAny M A (eval (.Name x pos) (envX cn cs L a ccd cl)) Q E s := wpAny_Name (wpAny_loadName_free hk hx hc ⟨o, F.keep _ _ hv, hd⟩ h hn) hb

theorem newsSub {h₀ h : Heap} {L : Addr} {l l' : List (Addr × Obj)} (N : News h₀ L h l) (hs : ∀ p ∈ l', p ∈ l) : News h₀ L h l' := fun p hp => N p (hs p hp)
theorem reorder5 {h₀ h : Heap} {L : Addr} {f d c1 c2 c3 t1 t2 : Addr × Obj} {new cs : List (Addr × Obj)} (N : News h₀ L h (f :: (new ++ ([d, c1, c2, c3] ++ t1 :: t2 :: cs)))) :
    News h₀ L h (c1 :: d :: c2 :: c3 :: f :: t1 :: t2 :: (new ++ cs)) := newsSub N fun p hp => by
  revert p; ((repeat (first | exact List.forall_mem_nil _ | (refine List.forall_mem_cons.mpr ⟨?_, ?_⟩; focus ((with_reducible ((repeat (first | exact List.mem_cons_self | refine List.mem_cons_of_mem _ ?_ | (refine List.mem_append_left _ ?_; ((repeat (first | exact List.mem_cons_self | refine List.mem_cons_of_mem _ ?_ | assumption)); (first | done | fail "m"))) | refine List.mem_append_right _ ?_ | assumption)); (first | done | fail "m"))))) | (refine List.forall_mem_append.mpr ⟨?_, ?_⟩; focus (intro p hp; (with_reducible ((repeat (first | exact List.mem_cons_self | refine List.mem_cons_of_mem _ ?_ | (refine List.mem_append_left _ ?_; ((repeat (first | exact List.mem_cons_self | refine List.mem_cons_of_mem _ ?_ | assumption)); (first | done | fail "m"))) | refine List.mem_append_right _ ?_ | assumption)); (first | done | fail "m"))))) | (refine List.forall_mem_append.mpr ⟨?_, ?_⟩; focus ((repeat (first | exact List.forall_mem_nil _ | (refine List.forall_mem_cons.mpr ⟨?_, ?_⟩; focus ((with_reducible ((repeat (first | exact List.mem_cons_self | refine List.mem_cons_of_mem _ ?_ | (refine List.mem_append_left _ ?_; ((repeat (first | exact List.mem_cons_self | refine List.mem_cons_of_mem _ ?_ | assumption)); (first | done | fail "m"))) | refine List.mem_append_right _ ?_ | assumption)); (first | done | fail "m"))))))); (first | done | fail "m"))) | (intro p hp; (with_reducible ((repeat (first | exact List.mem_cons_self | refine List.mem_cons_of_mem _ ?_ | (refine List.mem_append_left _ ?_; ((repeat (first | exact List.mem_cons_self | refine List.mem_cons_of_mem _ ?_ | assumption)); (first | done | fail "m"))) | refine List.mem_append_right _ ?_ | assumption)); (first | done | fail "m")))))); (first | done | fail "m"))

theorem FnAt_fr {g h : Heap} {L q : Addr} {m : Str → Option Value} (F : Fr g L h m) (X : FnAt q g) : FnAt q h := let ⟨oc, od, fd, sl, e⟩ := X; ⟨oc, od, fd, sl, F.keep _ _ e⟩

theorem Fr_but {g h h' : Heap} {L D : Addr} {m : Str → Option Value} (F : Fr g L h m) (hk : ∀ b o, b ≠ D → h.get? b = some o → h'.get? b = some o) (hL : L ≠ D) (hD : g.get? D = none) : Fr g L h' m :=
  ⟨F.ns.at' fun o e => hk L o hL e, fun b o e => hk b o (fun q => by rw [q, hD] at e; cases e) (F.keep b o e), F.above⟩
theorem News_one {g h : Heap} {L D : Addr} {o : Obj} (h1 : h.get? D = some o) (h2 : D ≠ L) (h3 : g.get? D = none) : News g L h [(D, o)] := fun p hp => by rw [List.mem_singleton.mp hp]; exact ⟨h1, h2, h3⟩
theorem News_but {g h h' : Heap} {L D : Addr} {o : Obj} {l : List (Addr × Obj)} (N : News g L h l) (hk : ∀ b o, b ≠ D → h.get? b = some o → h'.get? b = some o) (hl : ∀ p ∈ l, p.1 ≠ D) (h1 : h'.get? D = some o) (h2 : D ≠ L) (h3 : g.get? D = none) :
    News g L h' ((D, o) :: l) := fun p hp => by
  rcases List.mem_cons.mp hp with rfl | hp
  · exact ⟨h1, h2, h3⟩
  · exact ⟨hk _ _ (hl p hp) (N p hp).1, (N p hp).2⟩
theorem Tabs.fields {tl : List (Addr × Obj)} (h : Tabs tl) : ∀ p ∈ tl, ∃ vs, p.2.data = .fields vs := by
  obtain ⟨t1, t2, cs, rfl, hc, h1, h2⟩ := h
  have key : ∀ {line col : Int} {qual : Str} {t : Obj}, TabL line col qual t cs → ∃ vs, t.data = .fields vs := by
    rintro line col qual t (rfl | ⟨c', oc, vs, tk, rfl, _⟩)
    · exact ⟨_, rfl⟩
    · exact ⟨_, rfl⟩
  intro p hp
  rcases List.mem_cons.mp hp with rfl | hp
  · exact key h1
  · rcases List.mem_cons.mp hp with rfl | hp
    · exact key h2
    · exact (hc p hp).2.2
theorem Tabs.off {tl : List (Addr × Obj)} {h : Heap} {l : Addr} {o : Obj} {items : Array Value} {n : Nat} (hT : Tabs tl) (hN : ∀ p ∈ tl, h.get? p.1 = some p.2) (hl : h.get? l = some o) (hd : o.data = .seq items n) : l ∉ tl.map (·.1) := fun q => by
  obtain ⟨p, hp, rfl⟩ := List.mem_map.mp q
  rw [hN p hp] at hl
  cases hl
  obtain ⟨vs, e⟩ := hT.fields p hp
  rw [e] at hd; cases hd
theorem reorder3 {h₀ h : Heap} {L : Addr} {f c1 c2 c3 t1 t2 : Addr × Obj} {new cs : List (Addr × Obj)} (N : News h₀ L h (f :: (new ++ ([c1, c2, c3, t1] ++ t2 :: cs)))) :
    News h₀ L h (c1 :: c2 :: c3 :: f :: t1 :: t2 :: (new ++ cs)) := newsSub N fun p hp => by
  revert p; ((repeat (first | exact List.forall_mem_nil _ | (refine List.forall_mem_cons.mpr ⟨?_, ?_⟩; focus ((with_reducible ((repeat (first | exact List.mem_cons_self | refine List.mem_cons_of_mem _ ?_ | (refine List.mem_append_left _ ?_; ((repeat (first | exact List.mem_cons_self | refine List.mem_cons_of_mem _ ?_ | assumption)); (first | done | fail "m"))) | refine List.mem_append_right _ ?_ | assumption)); (first | done | fail "m"))))) | (refine List.forall_mem_append.mpr ⟨?_, ?_⟩; focus (intro p hp; (with_reducible ((repeat (first | exact List.mem_cons_self | refine List.mem_cons_of_mem _ ?_ | (refine List.mem_append_left _ ?_; ((repeat (first | exact List.mem_cons_self | refine List.mem_cons_of_mem _ ?_ | assumption)); (first | done | fail "m"))) | refine List.mem_append_right _ ?_ | assumption)); (first | done | fail "m"))))) | (refine List.forall_mem_append.mpr ⟨?_, ?_⟩; focus ((repeat (first | exact List.forall_mem_nil _ | (refine List.forall_mem_cons.mpr ⟨?_, ?_⟩; focus ((with_reducible ((repeat (first | exact List.mem_cons_self | refine List.mem_cons_of_mem _ ?_ | (refine List.mem_append_left _ ?_; ((repeat (first | exact List.mem_cons_self | refine List.mem_cons_of_mem _ ?_ | assumption)); (first | done | fail "m"))) | refine List.mem_append_right _ ?_ | assumption)); (first | done | fail "m"))))))); (first | done | fail "m"))) | (intro p hp; (with_reducible ((repeat (first | exact List.mem_cons_self | refine List.mem_cons_of_mem _ ?_ | (refine List.mem_append_left _ ?_; ((repeat (first | exact List.mem_cons_self | refine List.mem_cons_of_mem _ ?_ | assumption)); (first | done | fail "m"))) | refine List.mem_append_right _ ?_ | assumption)); (first | done | fail "m")))))); (first | done | fail "m"))

local macro_rules | `(tactic| walk_at "exec For Name Name cons nil") => `(tactic| (k_here; (rename Fr _ _ _ _ => lF'); (with_unfolding_all refine' For_invVF lF' ?k1 ?k2 ?_; (case k1 => exact rfl); (case k2 => exact rfl); k_whole)))
local macro_rules | `(tactic| walk_at "exec For Name Subscript cons nil") => `(tactic| walk_at "exec For Name Name cons nil")
local macro_rules | `(tactic| walk_at "exec FunctionDef") => `(tactic| (k_here; k_dflt (refine nestDef_K (by exact rfl) (by exact rfl) (by exact rfl) ?_)))
local macro_rules | `(tactic| walk_at "eval Name") => `(tactic| (k_here; kc_free; k_dflt (refine nameX_Fr (by k_asm) (by rfl) (by assumption) (by assumption) ?_)))
local macro_rules | `(tactic| walk_at "callWith ref") => `(tactic| (k_here; k_dflt (refine callWith_F (by first | exact FnAt_fr (by k_asm) (by assumption) | exact FnAt.of (by k_asm) (by k_mem)) ?_)))
local macro_rules | `(tactic| walk_at "assign Tuple") => `(tactic| (k_here; (with_reducible refine isAT ?_); k_dflt (refine unpackN_ (by k_asm) (by k_asm) (News.isTup (by k_asm) (by k_mem)) (by first | exact rfl | with_unfolding_all assumption) (by exact rfl) (by exact rfl) ?_); intro h' F' N'; (try k_sweep)))
local macro_rules | `(tactic| walk_at "unpackItems ref") => `(tactic| (k_here; (with_reducible refine isUI ?_); k_dflt (refine unpackItemsN_ (by k_asm) (by k_asm) (News.isTup (by k_asm) (by k_mem)) (by first | exact rfl | with_unfolding_all assumption) (by exact rfl) ?_); intro h' F' N'; (try k_sweep)))
set_option maxHeartbeats 4000000 in
theorem product_ok (w : World) (l : Addr) (vs : List Value) (ns : List Int) (hi : IntsAre vs ns) (hb : ∀ n ∈ ns, -(2^63) < n ∧ n < 2^63) :
    Pure w 182 5 20 [.ref l] (fun h => h.IsList l vs.toArray) (fun _ v _ => ∃ t, v = .int (ns.foldl (· * ·) 1) t) := by
  unfold Pure; k_fill; intro loose mean mg mb A s Q E hA hd hu X T hl hret
  refine wpAny_call ?_
  refine' enterP (binds := [("numbers", .ref l)]) X T ?k6 ?k7 ?k8 ?k9 ?kB ?_ ?c2 ?c3 ?c4 ?c5
  ((case k6 => k_is); (case k7 => k_is); (case k8 => omega); (case k9 => exact BindsTo.of_eq rfl); (case c5 => decide); (case kB => exact locs rfl); (case c2 => exact rfl); (case c3 => exact rfl); (case c4 => exact rfl))
  intro L h₁ F
  have N : News s.heap L h₁ [] := News.nil
  (try dsimp only)
  k_unmd
  k_fold
  (repeat' (first | (k_unfold; (try dsimp only)) | ((with_reducible refine isWp ?_); (fail_if_success (with_reducible first | refine halt 0 (by constructor) ?_)); (first | (walk1; (try dsimp only)) | (dsimp only; walk1))) | ((with_reducible show _ ∧ wpAny _ _ _ _ _ _); (refine And.intro (by first | k_in | exact FnAt_fr (by k_asm) (by assumption) | exact FnAt.of (by k_asm) (by k_mem)) ?_)) | ((fail_if_success (with_reducible refine isWp ?_)); dsimp only)))
  rename Fr _ _ _ _ => F1
  obtain ⟨ol, hol, _⟩ := id hl
  have hlL : l ≠ L := Nat.ne_of_lt (Nat.lt_of_lt_of_le (Heap.lt_size hol) F1.above)
  refine iter_list (env := envOf _ _ L _ _) (fun m₀ i m news => news = [] ∧ (∀ y, y ≠ Str.ofString "x" → y ≠ Str.ofString "product" → m y = m₀ y) ∧ ∃ t, m (Str.ofString "product") = some (.int ((ns.take i).foldl (· * ·) 1) t)) hA (hl.at fun o e => F1.keep l o e) hlL F1 (by assumption) ⟨rfl, ?_, ?_⟩ ?_ ?_
  · intro y _ _; rfl
  · exact ⟨_, rfl⟩
  · rintro I i v m₁ news₁ h tk own hI hv ⟨rfl, hm, t, ht⟩ hnI hown hl' F2 N2
    refine cutQ fun Qr hQr => ?_
    obtain ⟨n, t', rfl, hn⟩ := hi.at i v (by simpa using hv)
    obtain ⟨hb1, hb2⟩ := hb n (List.mem_of_getElem? hn)
    rw [map2 hm, ht] at F2
    generalize m₁ (Str.ofString "x") = ux at F2
    clear hm ht m₁ F1 hl hol hi hb hret
    (try k_fold)
    (repeat' (first | (k_unfold; (try dsimp only)) | ((with_reducible refine isWp ?_); (fail_if_success (with_reducible first | refine halt 0 (by constructor) ?_)); (first | (walk1; (try dsimp only)) | (dsimp only; walk1))) | ((with_reducible show _ ∧ wpAny _ _ _ _ _ _); (refine And.intro (by first | k_in | exact FnAt_fr (by k_asm) (by assumption) | exact FnAt.of (by k_asm) (by k_mem)) ?_)) | ((fail_if_success (with_reducible refine isWp ?_)); dsimp only)))
    rename Fr _ _ _ _ => F3
    refine hQr _ _ ?_
    refine ⟨_, _, _, _, rfl, F3, by assumption, by assumption, rfl, ?_, ?_⟩
    · intro y h1 h2; simp [h1, h2]
    · exact ⟨_, by rw [List.take_add_one, hn]; simp; rfl⟩
  · rintro m₁ news₁ h tk ⟨rfl, hm, t, ht⟩ F2 N2
    rw [map2 hm, ht] at F2
    generalize m₁ (Str.ofString "x") = ux at F2
    dsimp only
    (repeat' (first | (k_unfold; (try dsimp only)) | ((with_reducible refine isWp ?_); (fail_if_success (with_reducible first | refine halt 0 (by constructor) ?_)); (first | (walk1; (try dsimp only)) | (dsimp only; walk1))) | ((with_reducible show _ ∧ wpAny _ _ _ _ _ _); (refine And.intro (by first | k_in | exact FnAt_fr (by k_asm) (by assumption) | exact FnAt.of (by k_asm) (by k_mem)) ?_)) | ((fail_if_success (with_reducible refine isWp ?_)); dsimp only)))
    refine hret _ _ _ F2.keep ⟨t, ?_⟩
    rw [show vs.toArray.size = ns.length by simp [hi.length], List.take_length]

set_option maxHeartbeats 4000000 in
theorem div2n1n_ok (w : World) (a b n : Int) (ta tb tn : Tok) (ha : 0 ≤ a) (ha2 : a < 2 ^ 200) (hb : 0 < b) (hb2 : b < 1073741824) (hn : 0 ≤ n) :
    Pure w 45 5 20 [.int a ta, .int b tb, .int n tn] (fun _ => True)
      (fun z v h => ∃ T t1 t2, v = .ref T ∧ z ≤ T ∧ h.get? T = some { cls := .type "tuple", data := .seq #[.int (a.fdiv b) t1, .int (a.fmod b) t2] }) := by
  unfold Pure; k_fill; intro loose mean mg mb A s Q E hA hd hu X T _ hret
  refine wpAny_call ?_
  refine' enterP (binds := [("a", .int a ta), ("b", .int b tb), ("n", .int n tn)]) X T ?k6 ?k7 ?k8 ?k9 ?kB ?_ ?c2 ?c3 ?c4 ?c5
  ((case k6 => k_is); (case k7 => k_is); (case k8 => omega); (case k9 => exact BindsTo.of_eq rfl); (case c5 => decide); (case kB => exact locs rfl); (case c2 => exact rfl); (case c3 => exact rfl); (case c4 => exact rfl))
  intro L h₁ F
  have hz : s.heap.objs.size ≤ h₁.objs.size := Nat.le_of_lt (Nat.lt_of_le_of_lt F.above F.ns.lt)
  have N : News s.heap L h₁ [] := News.nil
  (try dsimp only)
  k_unmd
  k_fold
  (repeat' (first | (k_unfold; (try dsimp only)) | ((with_reducible refine isWp ?_); (fail_if_success (with_reducible first | refine halt 0 (by constructor) ?_)); (first | (walk1; (try dsimp only)) | (dsimp only; walk1))) | ((with_reducible show _ ∧ wpAny _ _ _ _ _ _); (refine And.intro (by first | k_in | exact FnAt_fr (by k_asm) (by assumption) | exact FnAt.of (by k_asm) (by k_mem)) ?_)) | ((fail_if_success (with_reducible refine isWp ?_)); dsimp only)))
  have hbits : Builtin.Int.intBits a ≤ 200 := intBits_le_iff.mpr (by omega)
  rw [if_pos (decide_eq_true (by omega))]
  (repeat' (first | (k_unfold; (try dsimp only)) | ((with_reducible refine isWp ?_); (fail_if_success (with_reducible first | refine halt 0 (by constructor) ?_)); (first | (walk1; (try dsimp only)) | (dsimp only; walk1))) | ((with_reducible show _ ∧ wpAny _ _ _ _ _ _); (refine And.intro (by first | k_in | exact FnAt_fr (by k_asm) (by assumption) | exact FnAt.of (by k_asm) (by k_mem)) ?_)) | ((fail_if_success (with_reducible refine isWp ?_)); dsimp only)))
  rename Fr _ _ _ _ => F3
  rename News _ _ _ _ => N3
  exact hret _ _ _ F3.keep ⟨_, _, _, rfl, hz, (N3 _ (.head _)).1⟩

/-- the digits of x to the base 2 ^ N, the least first, k of them -/
noncomputable def digs (N : Nat) : Nat → Nat → List Int
  | 0, _ => []
  | k + 1, x => ((x % 2 ^ N : Nat) : Int) :: digs N k (x / 2 ^ N)
theorem digs_length (N : Nat) : ∀ k x, (digs N k x).length = k
  | 0, _ => rfl
  | k + 1, x => by rw [digs, List.length_cons, digs_length N k]
theorem digs_append (N : Nat) : ∀ k1 k2 x, digs N (k1 + k2) x = digs N k1 (x % 2 ^ (N * k1)) ++ digs N k2 (x / 2 ^ (N * k1))
  | 0, k2, x => by simp [digs]
  | k1 + 1, k2, x => by
    rw [Nat.succ_add k1 k2, digs, digs_append N k1 k2, digs, List.cons_append]
    have e1 : x % 2 ^ (N * (k1 + 1)) % 2 ^ N = x % 2 ^ N := Nat.mod_mod_of_dvd x (Nat.pow_dvd_pow 2 (Nat.le_mul_of_pos_right N (Nat.succ_pos k1)))
    have e2 : x % 2 ^ (N * (k1 + 1)) / 2 ^ N = x / 2 ^ N % 2 ^ (N * k1) := by
      rw [Nat.mul_succ, Nat.pow_add, Nat.mul_comm (2 ^ (N * k1))]
      exact Nat.mod_mul_right_div_self x (2 ^ N) (2 ^ (N * k1))
    have e3 : x / 2 ^ (N * (k1 + 1)) = x / 2 ^ N / 2 ^ (N * k1) := by
      rw [Nat.div_div_eq_div_mul, ← Nat.pow_add, Nat.mul_succ, Nat.add_comm]
    rw [e1, e2, e3]
theorem digs_one (N x : Nat) (h : x < 2 ^ N) : digs N 1 x = [(x : Int)] := by
  rw [digs, digs, Nat.mod_eq_of_lt h]
theorem high_bits (x s i : Nat) : (x / 2 ^ s * 2 ^ s).testBit i = (decide (s ≤ i) && x.testBit i) := by
  rw [Nat.testBit_mul_two_pow, Nat.testBit_div_two_pow]
  by_cases h : s ≤ i
  · have h2 : i - s + s = i := by omega
    simp [h, h2]
  · simp [h]
theorem nat_or_high (x s : Nat) : x ||| (x / 2 ^ s * 2 ^ s) = x := by
  apply Nat.eq_of_testBit_eq
  intro i
  rw [Nat.testBit_or, high_bits]
  cases x.testBit i <;> simp
theorem nat_and_high (x s : Nat) : x &&& (x / 2 ^ s * 2 ^ s) = x / 2 ^ s * 2 ^ s := by
  apply Nat.eq_of_testBit_eq
  intro i
  rw [Nat.testBit_and, high_bits]
  cases x.testBit i <;> simp
theorem xor_high (x s : Nat) : Builtin.bitXor (x : Int) ((x / 2 ^ s * 2 ^ s : Nat) : Int) = ((x % 2 ^ s : Nat) : Int) := by
  have hb : ∀ z : Nat, Builtin.bitNot (Builtin.bitNot (z : Int)) = (z : Int) := fun z => by unfold Builtin.bitNot; omega
  have hn : ∀ z : Nat, decide (0 ≤ Builtin.bitNot (z : Int)) = false := fun z => decide_eq_false (by unfold Builtin.bitNot; omega)
  have hp : ∀ z : Nat, decide (0 ≤ (z : Int)) = true := fun z => decide_eq_true (by omega)
  have ho : ∀ z y : Nat, Builtin.bitOr (z : Int) (y : Int) = ((z ||| y : Nat) : Int) := fun z y => by
    unfold Builtin.bitOr Builtin.bitAnd
    rw [hn, hn]
    simp only [hb, Int.toNat_natCast]
  have ha : ∀ z y : Nat, Builtin.bitAnd (z : Int) (y : Int) = ((z &&& y : Nat) : Int) := fun z y => by
    unfold Builtin.bitAnd
    rw [hp, hp]
    simp only [Int.toNat_natCast]
  unfold Builtin.bitXor
  rw [ho, ha, nat_or_high, nat_and_high]
  have := Nat.div_add_mod x (2 ^ s)
  rw [Nat.mul_comm] at this
  omega
theorem splice_two {ns : List Int} {lo k1 k2 : Nat} {a b : List Int} (h : lo + (k1 + k2) ≤ ns.length) (ha : a.length = k1) :
    (ns.take lo ++ a ++ ns.drop (lo + k1)).take (lo + k1) ++ b ++ (ns.take lo ++ a ++ ns.drop (lo + k1)).drop (lo + k1 + k2) = ns.take lo ++ (a ++ b) ++ ns.drop (lo + (k1 + k2)) := by
  have e1 : (ns.take lo ++ a).length = lo + k1 := by rw [List.length_append, List.length_take, ha]; omega
  rw [List.take_append_of_le_length (by omega), List.take_of_length_le (by omega), List.drop_append, e1, List.drop_of_length_le (by omega), List.drop_drop]
  have e2 : lo + k1 + (lo + k1 + k2 - (lo + k1)) = lo + (k1 + k2) := by omega
  rw [e2]; simp [List.append_assoc]
theorem splice_one {ns : List Int} {lo : Nat} {x : Int} (h : lo < ns.length) : ns.set lo x = ns.take lo ++ [x] ++ ns.drop (lo + 1) := by
  rw [List.set_eq_take_append_cons_drop, if_pos h]; simp
theorem splice_all {ns a : List Int} (_h : a.length = ns.length) : ns.take 0 ++ a ++ ns.drop (0 + ns.length) = a := by simp
theorem shr_nat (x s : Nat) : (x : Int).fdiv (2 ^ ((s : Nat) : Int).toNat) = ((x / 2 ^ s : Nat) : Int) := by
  rw [Int.toNat_natCast, show (2 : Int) ^ s = ((2 ^ s : Nat) : Int) by simp, Int.fdiv_eq_ediv_of_nonneg _ (Int.natCast_nonneg _), Int.natCast_ediv]
theorem shl_nat (y s : Nat) : ((y : Nat) : Int) * 2 ^ ((s : Nat) : Int).toNat = ((y * 2 ^ s : Nat) : Int) := by
  rw [Int.toNat_natCast]; simp
theorem half_mid (Lo : Int) (k : Nat) : (Lo + (Lo + (k : Int))).fdiv (2 ^ Int.toNat 1) = Lo + ((k / 2 : Nat) : Int) := by
  rw [show (2 : Int) ^ Int.toNat 1 = 2 from rfl, Int.fdiv_eq_ediv_of_nonneg _ (by decide)]; omega
theorem mul_nat {n Lo : Int} (k1 : Nat) (hn : 0 ≤ n) : (Lo + (k1 : Int) - Lo) * n = ((n.toNat * k1 : Nat) : Int) := by
  have e : Lo + (k1 : Int) - Lo = k1 := by omega
  rw [e, Int.natCast_mul, Int.toNat_of_nonneg hn, Int.mul_comm]
theorem digit_count (m : Nat) (n : Int) (hn : 0 < n) : ∃ q : Nat, ((m : Int) + n - 1).fdiv n = (q : Int) ∧ m ≤ n.toNat * q ∧ q ≤ m := by
  obtain ⟨N, rfl⟩ := Int.eq_ofNat_of_zero_le (Int.le_of_lt hn)
  have hN : 0 < N := by omega
  refine ⟨(m + N - 1) / N, ?_, ?_, ?_⟩
  · have e : ((m : Int) + (N : Int) - 1) = ((m + N - 1 : Nat) : Int) := by omega
    rw [e, Int.fdiv_eq_ediv_of_nonneg _ (Int.natCast_nonneg _), Int.natCast_ediv]
  · have h1 := Nat.div_add_mod (m + N - 1) N
    have h2 := Nat.mod_lt (m + N - 1) hN
    rw [Int.toNat_natCast]
    generalize N * ((m + N - 1) / N) = z at h1 ⊢
    omega
  · refine Nat.le_of_lt_succ (Nat.div_lt_of_lt_mul ?_)
    have : m ≤ N * m := Nat.le_mul_of_pos_left m hN
    rw [Nat.mul_succ]; omega
theorem flat_ints (t : Tok) : ∀ k : Nat, IntsAre (List.replicate k [Value.int 0 t]).flatten (List.replicate k 0)
  | 0 => .nil
  | k + 1 => by
    rw [List.replicate_succ, List.flatten_cons, List.replicate_succ]
    exact .cons 0 t (flat_ints t k)
/-- the number of which ns are the digits -/
noncomputable def undig (N : Nat) : List Int → Int
  | [] => 0
  | d :: r => d + 2 ^ N * undig N r
theorem undig_append (N : Nat) : ∀ a b : List Int, undig N (a ++ b) = undig N a + 2 ^ (N * a.length) * undig N b
  | [], b => by simp [undig]
  | d :: r, b => by
    rw [List.cons_append, undig, undig_append N r b, undig, List.length_cons, Nat.mul_succ, Int.pow_add, Int.mul_add, Int.add_assoc, Int.mul_comm (2 ^ (N * r.length)) (2 ^ N), Int.mul_assoc]
theorem undig_digs (N : Nat) : ∀ k x : Nat, x < 2 ^ (N * k) → undig N (digs N k x) = (x : Int)
  | 0, x, h => by
    rw [Nat.mul_zero, Nat.pow_zero] at h
    have : x = 0 := by omega
    subst this; rfl
  | k + 1, x, h => by
    rw [digs, undig, undig_digs N k (x / 2 ^ N) (Nat.div_lt_of_lt_mul (by rw [← Nat.pow_add, Nat.add_comm, ← Nat.mul_succ]; exact h))]
    have h1 := Nat.div_add_mod x (2 ^ N)
    have h2 : ((2 ^ N : Nat) : Int) = 2 ^ N := by simp
    rw [← h2, ← Int.natCast_mul]
    omega
theorem undig_bound (N : Nat) : ∀ ns : List Int, (∀ d ∈ ns, 0 ≤ d ∧ d < 2 ^ N) → 0 ≤ undig N ns ∧ undig N ns < 2 ^ (N * ns.length)
  | [], _ => by simp [undig]
  | d :: r, h => by
    have h1 := undig_bound N r fun x hx => h x (.tail _ hx)
    have h2 := h d (.head _)
    rw [undig, List.length_cons, Nat.mul_succ, Nat.add_comm, Int.pow_add]
    have hp : (0 : Int) < 2 ^ N := Int.pow_pos (by decide)
    have h3 : 0 ≤ 2 ^ N * undig N r := Int.mul_nonneg (Int.le_of_lt hp) h1.1
    have h4 : 2 ^ N * (undig N r + 1) ≤ 2 ^ N * 2 ^ (N * r.length) := Int.mul_le_mul_of_nonneg_left (by omega) (Int.le_of_lt hp)
    rw [Int.mul_add, Int.mul_one] at h4
    omega
theorem seg_split (ns : List Int) (lo k1 k2 : Nat) : (ns.drop lo).take (k1 + k2) = (ns.drop lo).take k1 ++ (ns.drop (lo + k1)).take k2 := by
  rw [List.take_add, List.drop_drop]
theorem seg_one {ns : List Int} {lo : Nat} (h : lo < ns.length) : (ns.drop lo).take 1 = [ns.getD lo 0] := by
  rw [List.drop_eq_getElem_cons h, List.take_succ_cons, List.take_zero, List.getD_eq_getElem?_getD, List.getElem?_eq_getElem h]; rfl

set_option maxHeartbeats 4000000 in
theorem int2digits_ok (w : World) (a n : Int) (ta tn : Tok) (ha : 0 ≤ a) (ha2 : a < 2 ^ 200) (hn : 0 < n) (hn2 : n ≤ 64) :
    PureT w 59 250 2200 [.int a ta, .int n tn] (fun _ => True)
      (fun z v h => ∃ D vs ep k, v = .ref D ∧ z ≤ D ∧ h.get? D = some (W.listOf vs.toArray ep) ∧ IntsAre vs (digs n.toNat k a.toNat) ∧ a.toNat < 2 ^ (n.toNat * k) ∧ k ≤ 200) := by
  obtain ⟨X, rfl⟩ := Int.eq_ofNat_of_zero_le ha
  rw [Int.toNat_natCast]
  unfold PureT; k_fill; intro loose mean mg mb A s Q E g tl hA hdp hu XK T hg hsz hT hN _ hret
  obtain ⟨t1, t2, cs, rfl, hc, hT1, hT2⟩ := hT
  obtain ⟨g', hg1, hsz1, hN1, X1, T1, hb1⟩ := hide_ground hg hN XK T
  refine wpAny_call ?_
  have ho := (X1.keeps hg1) 59 _ (by k_is)
  refine' enterC (binds := [("a", .int X ta), ("n", .int n tn)]) hg1 hsz1 hN1 T1 ho rfl (codeRec_of (X1.keeps hg1) ?k7) ?k8 ?k9 ?kB ?kD ?_ ?c2 ?c3 ?c4
  case k7 => k_is
  case k8 => omega
  case k9 => exact BindsTo.of_eq rfl
  case kB => exact rfl
  case kD => decide +kernel
  case c2 => exact rfl
  case c3 => exact rfl
  case c4 => exact rfl
  intro L h₁ tk cells hL hk₁ F N Y
  have hlt : ∀ p ∈ (54, t1) :: (61, t2) :: cs, p.1 < L := fun p hp => hL ▸ Heap.lt_size (hN1 p hp).1
  have h54 : 54 < L := hlt _ (.head _)
  have h61 : 61 < L := hlt _ (.tail _ (.head _))
  have hltc : ∀ p ∈ cs, p.1 < L := fun p hp => hlt p (.tail _ (.tail _ hp))
  clear hlt
  obtain ⟨o1, o2, o3, rfl, d1, d2, d3⟩ := CellsAre.three Y
  clear Y
  (try simp only [List.cons_append, List.nil_append] at N)
  (try dsimp only)
  k_unmd
  (try k_fold)
  clear hg hN XK T hsz
  have hbits : Builtin.Int.intBits (X : Int) ≤ 200 := intBits_le_iff.mpr (by omega)
  (repeat' (first | (k_unfold; (try dsimp only)) | ((with_reducible refine isWp ?_); (fail_if_success (with_reducible first | refine halt 0 (by constructor) ?_)); (first | (walk1; (try dsimp only)) | (dsimp only; walk1))) | ((with_reducible show _ ∧ wpAny _ _ _ _ _ _); (refine And.intro (by first | k_in | exact FnAt_fr (by k_asm) (by assumption) | exact FnAt.of (by k_asm) (by k_mem)) ?_)) | ((fail_if_success (with_reducible refine isWp ?_)); dsimp only)))
  rename Fr _ _ _ _ => F2
  rename News _ _ _ _ => N2
  rename_i l1
  obtain ⟨kk, hkk, hk1, hk2⟩ := digit_count (Builtin.Int.intBits (X : Int)) n hn
  rw [hkk]
  obtain ⟨vs0, hvs0⟩ : ∃ vs0, (List.replicate (kk : Int).toNat [Value.int 0 tk]).flatten = vs0 := ⟨_, rfl⟩
  have hi0 : IntsAre vs0 (List.replicate kk 0) := by rw [← hvs0, Int.toNat_natCast]; exact flat_ints _ _
  refine KMa.mul (vs := [.int 0 tk]) (ws := vs0) F2 N2 (N2.isList (.head _)) (by omega) (by omega) (by simp only [List.length_cons, List.length_nil]; omega) hvs0 ?_
  intro D h3 F3 N3 hD
  have hD0 : L + 1 + 1 + 1 < D := hD _ (.tail _ (.head _))
  replace N3 : News _ _ _ _ := fun p hp => N3 p (by rcases List.mem_cons.mp hp with h | h; exact h ▸ .head _; exact .tail _ (.tail _ h))
  dsimp only
  refine storeX_C F3 N3 rfl (.tail (by show @Ne Nat _ _; first | (with_reducible first | assumption | exact Ne.symm (by assumption) | exact Apart.l (by assumption) | exact Apart.r (by assumption) | (refine Nat.ne_of_lt ?_; ((repeat (first | assumption | exact Nat.lt_add_one _ | exact Nat.lt_of_succ_lt (by assumption) | refine Nat.lt_add_one_of_lt ?_)); (first | done | fail "m"))) | (refine Nat.ne_of_gt ?_; ((repeat (first | assumption | exact Nat.lt_add_one _ | exact Nat.lt_of_succ_lt (by assumption) | refine Nat.lt_add_one_of_lt ?_)); (first | done | fail "m")))) | omega) (.tail (by show @Ne Nat _ _; first | (with_reducible first | assumption | exact Ne.symm (by assumption) | exact Apart.l (by assumption) | exact Apart.r (by assumption) | (refine Nat.ne_of_lt ?_; ((repeat (first | assumption | exact Nat.lt_add_one _ | exact Nat.lt_of_succ_lt (by assumption) | refine Nat.lt_add_one_of_lt ?_)); (first | done | fail "m"))) | (refine Nat.ne_of_gt ?_; ((repeat (first | assumption | exact Nat.lt_add_one _ | exact Nat.lt_of_succ_lt (by assumption) | refine Nat.lt_add_one_of_lt ?_)); (first | done | fail "m")))) | omega) (.head (by ((repeat (first | exact List.forall_mem_nil _ | assumption | (refine List.forall_mem_cons.mpr ⟨?_, ?_⟩; focus (show @Ne Nat _ _; first | (with_reducible first | assumption | exact Ne.symm (by assumption) | exact Apart.l (by assumption) | exact Apart.r (by assumption) | (refine Nat.ne_of_lt ?_; ((repeat (first | assumption | exact Nat.lt_add_one _ | exact Nat.lt_of_succ_lt (by assumption) | refine Nat.lt_add_one_of_lt ?_)); (first | done | fail "m"))) | (refine Nat.ne_of_gt ?_; ((repeat (first | assumption | exact Nat.lt_add_one _ | exact Nat.lt_of_succ_lt (by assumption) | refine Nat.lt_add_one_of_lt ?_)); (first | done | fail "m")))) | omega)) | exact ne_of_lts (by assumption) (by omega) | exact ne_of_gts (by assumption) (by omega))); (first | done | fail "m")))))) d2 ?_
  intro h4 o2' F4 N4 d2'
  (try k_fold)
  (repeat' (first | (k_unfold; (try dsimp only)) | ((with_reducible refine isWp ?_); (fail_if_success (with_reducible first | refine halt 0 (by constructor) ?_)); (first | (walk1; (try dsimp only)) | (dsimp only; walk1))) | ((with_reducible show _ ∧ wpAny _ _ _ _ _ _); (refine And.intro (by first | k_in | exact FnAt_fr (by k_asm) (by assumption) | exact FnAt.of (by k_asm) (by k_mem)) ?_)) | ((fail_if_success (with_reducible refine isWp ?_)); dsimp only)))
  have CH : CodeHd g' 58 54 := codeHd_of_K X1 (by kernel_rfl)
  refine nest_T (own := [(D, _), (L + 1 + 1 + 1, o1), (L + 1 + 1, o2'), (L + 1, o3)]) F4 N4 T1 CH rfl (by ((repeat (first | exact List.forall_mem_nil _ | assumption | (refine List.forall_mem_cons.mpr ⟨?_, ?_⟩; focus (show @Ne Nat _ _; first | (with_reducible first | assumption | exact Ne.symm (by assumption) | exact Apart.l (by assumption) | exact Apart.r (by assumption) | (refine Nat.ne_of_lt ?_; ((repeat (first | assumption | exact Nat.lt_add_one _ | exact Nat.lt_of_succ_lt (by assumption) | refine Nat.lt_add_one_of_lt ?_)); (first | done | fail "m"))) | (refine Nat.ne_of_gt ?_; ((repeat (first | assumption | exact Nat.lt_add_one _ | exact Nat.lt_of_succ_lt (by assumption) | refine Nat.lt_add_one_of_lt ?_)); (first | done | fail "m")))) | omega)) | exact ne_of_lts (by assumption) (by omega) | exact ne_of_gts (by assumption) (by omega))); (first | done | fail "m"))) (List.forall_mem_cons.mpr ⟨(by decide : (61 : Nat) ≠ 54), fun q hq => (hc q hq).1⟩) hT1 rfl ?_
  intro f c' oc vq tq t1' new ctv doc h5 tk5 F5 N5 hm5 hd5 hv5 hT1' lf ln _ hnF
  replace N5 := reorder5 N5
  have hf0 : L + 1 + 1 + 1 < f := lf _ (.tail _ (.head _))
  have hnD : ∀ p ∈ new, D < p.1 := fun p hp => ln _ (.head _) p hp
  have hnc : ∀ p ∈ new ++ cs, p.1 ≠ L + 1 + 1 + 1 := fun p hp => by
    rcases List.mem_append.mp hp with q | q
    · exact Nat.ne_of_gt (Nat.lt_trans hD0 (hnD p q))
    · exact Nat.ne_of_lt (Nat.lt_of_lt_of_le (hltc _ q) (by omega))
  refine storeX_C F5 N5 rfl (.head (by ((repeat (first | exact List.forall_mem_nil _ | assumption | (refine List.forall_mem_cons.mpr ⟨?_, ?_⟩; focus (show @Ne Nat _ _; first | (with_reducible first | assumption | exact Ne.symm (by assumption) | exact Apart.l (by assumption) | exact Apart.r (by assumption) | (refine Nat.ne_of_lt ?_; ((repeat (first | assumption | exact Nat.lt_add_one _ | exact Nat.lt_of_succ_lt (by assumption) | refine Nat.lt_add_one_of_lt ?_)); (first | done | fail "m"))) | (refine Nat.ne_of_gt ?_; ((repeat (first | assumption | exact Nat.lt_add_one _ | exact Nat.lt_of_succ_lt (by assumption) | refine Nat.lt_add_one_of_lt ?_)); (first | done | fail "m")))) | omega)) | exact ne_of_lts (by assumption) (by omega) | exact ne_of_gts (by assumption) (by omega))); (first | done | fail "m")))) d1 ?_
  intro h6 o1' F6 N6 d1'
  (try k_fold)
  have hcget : h6.get? c' = some oc := (N6 (c', oc) (.tail _ (.tail _ (.tail _ (.tail _ (.tail _ (.tail _ (.tail _ hm5)))))))).1
  have hcD : c' ≠ D := by
    rcases List.mem_append.mp hm5 with q | q
    · exact Nat.ne_of_gt (ln _ (.head _) _ q)
    · exact Nat.ne_of_lt (Nat.lt_of_lt_of_le (hltc _ q) (by omega))
  have fne : f ≠ D := Nat.ne_of_gt (lf _ (.head _))
  have hfget := (N6 _ (.tail _ (.tail _ (.tail _ (.tail _ (.head _)))))).1
  have hnget := (N6 _ (.tail _ (.tail _ (.tail _ (.head _))))).1
  have higet := (N6 _ (.head _)).1
  have haget := (N6 _ (.tail _ (.tail _ (.head _)))).1
  have hDg : g'.get? D = none := (N6 _ (.tail _ (.head _))).2.2
  dsimp only at hfget hnget higet haget
  have inner : ∀ (k : Nat) (x : Nat) (Lo : Int) (tx tl th : Tok) (vs : List Value) (ns : List Int) (e : Nat) (A' : Around) (s' : Shared) (Q' E' : Value → Shared → Prop), A'.handled = none → A'.depth + (k + 5) < recursionLimit → A'.units + 8 * (k + 5) < cLine →
      0 < k → x < 2 ^ (n.toNat * k) → 0 ≤ Lo → Lo + k ≤ ns.length → ns.length ≤ 256 → (∀ b o, b ≠ D → h6.get? b = some o → s'.heap.get? b = some o) → s'.heap.get? D = some (W.listOf vs.toArray e) → IntsAre vs ns →
      (∀ h' tk' vs', (∀ b o, b ≠ D → s'.heap.get? b = some o → h'.get? b = some o) → h'.get? D = some (W.listOf vs'.toArray e) → IntsAre vs' (ns.take Lo.toNat ++ digs n.toNat k x ++ ns.drop (Lo.toNat + k)) → Q' .none { s' with heap := h', toks := tk' }) →
      wpAny (model PySem.Challenge.rw_sh0054_01.row.prog w) A' (call (.ref f) [.int x tx, .int Lo tl, .int (Lo + k) th]) Q' E' s' := by
    intro k
    induction k using Nat.strongRecOn with
    | ind k ih =>
      intro x Lo tx tl th vs ns e A' s' Q' E' hA' hd' hu' hk0 hx hLo hLk hns hB hD' hi ret
      refine wpAny_call ?_
      have g3 : ∀ p ∈ [(D, W.listOf vs.toArray e)], s'.heap.get? p.1 = some p.2 ∧ g'.get? p.1 = none := fun p hp => by
        rw [List.mem_singleton.mp hp]; exact ⟨hD', hDg⟩
      have g4 : ∀ b o, g'.get? b = some o → s'.heap.get? b = some o := fun b o e => hB b o (fun q => by rw [q, hDg] at e; cases e) (F6.keep b o e)
      obtain ⟨g2, hg2, hsz2, hN2, X2, T2, hb2⟩ := hide_ground g4 g3 X1 T1
      have hB2 : ∀ b o, b ≠ D → h6.get? b = some o → g2.get? b = some o := fun b o hb e => hb2 b o (fun q => hb (List.mem_singleton.mp q)) (hB b o hb e)
      have c1 := hB2 _ _ (by show @Ne Nat _ _; first | (with_reducible first | assumption | exact Ne.symm (by assumption) | exact Apart.l (by assumption) | exact Apart.r (by assumption) | (refine Nat.ne_of_lt ?_; ((repeat (first | assumption | exact Nat.lt_add_one _ | exact Nat.lt_of_succ_lt (by assumption) | refine Nat.lt_add_one_of_lt ?_)); (first | done | fail "m"))) | (refine Nat.ne_of_gt ?_; ((repeat (first | assumption | exact Nat.lt_add_one _ | exact Nat.lt_of_succ_lt (by assumption) | refine Nat.lt_add_one_of_lt ?_)); (first | done | fail "m")))) | omega) hnget
      have c2 := hB2 _ _ (by show @Ne Nat _ _; first | (with_reducible first | assumption | exact Ne.symm (by assumption) | exact Apart.l (by assumption) | exact Apart.r (by assumption) | (refine Nat.ne_of_lt ?_; ((repeat (first | assumption | exact Nat.lt_add_one _ | exact Nat.lt_of_succ_lt (by assumption) | refine Nat.lt_add_one_of_lt ?_)); (first | done | fail "m"))) | (refine Nat.ne_of_gt ?_; ((repeat (first | assumption | exact Nat.lt_add_one _ | exact Nat.lt_of_succ_lt (by assumption) | refine Nat.lt_add_one_of_lt ?_)); (first | done | fail "m")))) | omega) higet
      have c3 := hB2 _ _ (by show @Ne Nat _ _; first | (with_reducible first | assumption | exact Ne.symm (by assumption) | exact Apart.l (by assumption) | exact Apart.r (by assumption) | (refine Nat.ne_of_lt ?_; ((repeat (first | assumption | exact Nat.lt_add_one _ | exact Nat.lt_of_succ_lt (by assumption) | refine Nat.lt_add_one_of_lt ?_)); (first | done | fail "m"))) | (refine Nat.ne_of_gt ?_; ((repeat (first | assumption | exact Nat.lt_add_one _ | exact Nat.lt_of_succ_lt (by assumption) | refine Nat.lt_add_one_of_lt ?_)); (first | done | fail "m")))) | omega) haget
      refine' enterG (binds := [("x", .int x tx), ("L", .int Lo tl), ("R", .int (Lo + k) th)]) hg2 hsz2 hN2 T2 (hB f _ fne hfget) rfl ⟨c', oc, vq, tq, rfl, hB c' oc hcD hcget, hd5, hv5⟩ ?k8 ?k9 ?kB ?_ ?c2 ?c3 ?c4 ?c5
      case k8 => omega
      case k9 => exact BindsTo.of_eq rfl
      case kB => exact locs rfl
      case c2 => exact rfl
      case c3 => exact rfl
      case c4 => exact rfl
      case c5 => decide
      intro L2 h7 hL2 hk7 F7 N7
      (try dsimp only)
      k_unmd
      k_fold
      clear hB hret ho
      (repeat' (first | (k_unfold; (try dsimp only)) | ((with_reducible refine isWp ?_); (fail_if_success (with_reducible first | refine halt 0 (by constructor) ?_)); (first | (walk1; (try dsimp only)) | (dsimp only; walk1))) | ((with_reducible show _ ∧ wpAny _ _ _ _ _ _); (refine And.intro (by first | k_in | exact FnAt_fr (by k_asm) (by assumption) | exact FnAt.of (by k_asm) (by k_mem)) ?_)) | ((fail_if_success (with_reducible refine isWp ?_)); dsimp only)))
      by_cases hk1 : k = 1
      · subst hk1
        rw [if_pos (by simp)]
        (repeat' (first | (k_unfold; (try dsimp only)) | ((with_reducible refine isWp ?_); (fail_if_success (with_reducible first | refine halt 0 (by constructor) ?_)); (first | (walk1; (try dsimp only)) | (dsimp only; walk1))) | ((with_reducible show _ ∧ wpAny _ _ _ _ _ _); (refine And.intro (by first | k_in | exact FnAt_fr (by k_asm) (by assumption) | exact FnAt.of (by k_asm) (by k_mem)) ?_)) | ((fail_if_success (with_reducible refine isWp ?_)); dsimp only)))
        rename Fr _ _ _ _ => F8
        rename News _ _ _ _ => N8
        have hlo : Lo.toNat < ns.length := by omega
        refine ret _ _ _ (fun b o hb e => ?_) (N8 _ (.head _)).1 ?_
        · exact F8.keep b o (hb2 b o (fun q => hb (List.mem_singleton.mp q)) e)
        · rw [digs_one _ _ (by rw [Nat.mul_one] at hx; exact hx), ← splice_one hlo]; exact ints_set hi _
      · rw [if_neg (by simp; omega)]
        have hFn : FnAt f g2 := ⟨_, _, _, _, hB2 _ _ fne hfget⟩
        (repeat' (first | (k_unfold; (try dsimp only)) | ((with_reducible refine isWp ?_); (fail_if_success (with_reducible first | refine halt 0 (by constructor) ?_)); (first | (walk1; (try dsimp only)) | (dsimp only; walk1))) | ((with_reducible show _ ∧ wpAny _ _ _ _ _ _); (refine And.intro (by first | k_in | exact FnAt_fr (by k_asm) (by assumption) | exact FnAt.of (by k_asm) (by k_mem)) ?_)) | ((fail_if_success (with_reducible refine isWp ?_)); dsimp only)))
        refine rshift_int (by decide) ?_
        dsimp only
        (repeat' (first | (k_unfold; (try dsimp only)) | ((with_reducible refine isWp ?_); (fail_if_success (with_reducible first | refine halt 0 (by constructor) ?_)); (first | (walk1; (try dsimp only)) | (dsimp only; walk1))) | ((with_reducible show _ ∧ wpAny _ _ _ _ _ _); (refine And.intro (by first | k_in | exact FnAt_fr (by k_asm) (by assumption) | exact FnAt.of (by k_asm) (by k_mem)) ?_)) | ((fail_if_success (with_reducible refine isWp ?_)); dsimp only)))
        obtain ⟨k1, k2, hk, hk1, hk2, hkh⟩ : ∃ k1 k2, k = k1 + k2 ∧ 0 < k1 ∧ 0 < k2 ∧ k / 2 = k1 := ⟨k / 2, k - k / 2, by omega, by omega, by omega, rfl⟩
        have hNk : n.toNat * k ≤ 64 * 256 := Nat.mul_le_mul (by omega) (by omega)
        have hNk1 : n.toNat * k1 ≤ n.toNat * k := Nat.mul_le_mul_left _ (by omega)
        rename Fr _ _ _ _ => F8
        simp only [half_mid, hkh, mul_nat k1 (Int.le_of_lt hn)] at F8 ⊢
        clear hkh
        refine rshift_int (by omega) ?_
        dsimp only
        rw [shr_nat]
        (repeat' (first | (k_unfold; (try dsimp only)) | ((with_reducible refine isWp ?_); (fail_if_success (with_reducible first | refine halt 0 (by constructor) ?_)); (first | (walk1; (try dsimp only)) | (dsimp only; walk1))) | ((with_reducible show _ ∧ wpAny _ _ _ _ _ _); (refine And.intro (by first | k_in | exact FnAt_fr (by k_asm) (by assumption) | exact FnAt.of (by k_asm) (by k_mem)) ?_)) | ((fail_if_success (with_reducible refine isWp ?_)); dsimp only)))
        refine lshift_int (by omega) ?_ ?_
        · have : Builtin.Int.intBits ((x / 2 ^ (n.toNat * k1) : Nat) : Int) ≤ n.toNat * k := intBits_le_iff.mpr (by
            rw [Int.natAbs_natCast]; exact Nat.lt_of_le_of_lt (Nat.div_le_self _ _) hx)
          omega
        dsimp only
        rw [shl_nat]
        refine xor_int ?_
        rw [xor_high]
        (repeat' (first | (k_unfold; (try dsimp only)) | ((with_reducible refine isWp ?_); (fail_if_success (with_reducible first | refine halt 0 (by constructor) ?_)); (first | (walk1; (try dsimp only)) | (dsimp only; walk1))) | ((with_reducible show _ ∧ wpAny _ _ _ _ _ _); (refine And.intro (by first | k_in | exact FnAt_fr (by k_asm) (by assumption) | exact FnAt.of (by k_asm) (by k_mem)) ?_)) | ((fail_if_success (with_reducible refine isWp ?_)); dsimp only)))
        rename Fr _ _ _ _ => F9
        rename News _ _ _ _ => N9
        have hDL : L2 ≠ D := Ne.symm (N9 _ (.head _)).2.1
        have hDg2 : g2.get? D = none := (N9 _ (.head _)).2.2
        refine ih k1 (by omega) (x % 2 ^ (n.toNat * k1)) Lo _ _ _ vs ns e _ _ _ _ hA' (by show A'.depth + 1 + _ < _; omega) (by show A'.units + 3 + _ < _; omega) hk1 (Nat.mod_lt _ (Nat.two_pow_pos _)) hLo (by omega) hns
          (fun b o hb e => F9.keep b o (hB2 b o hb e)) (N9 _ (.head _)).1 hi ?_
        intro h10 tk10 vs10 keep10 hD10 hi10
        replace F9 := Fr_but F9 keep10 hDL hDg2
        replace N9 := News_one hD10 (Ne.symm hDL) hDg2
        clear keep10 hD10
        dsimp only
        (repeat' (first | (k_unfold; (try dsimp only)) | ((with_reducible refine isWp ?_); (fail_if_success (with_reducible first | refine halt 0 (by constructor) ?_)); (first | (walk1; (try dsimp only)) | (dsimp only; walk1))) | ((with_reducible show _ ∧ wpAny _ _ _ _ _ _); (refine And.intro (by first | k_in | exact FnAt_fr (by k_asm) (by assumption) | exact FnAt.of (by k_asm) (by k_mem)) ?_)) | ((fail_if_success (with_reducible refine isWp ?_)); dsimp only)))
        rename Fr _ _ _ _ => F11
        rename News _ _ _ _ => N11
        have eR : Lo + ((k : Nat) : Int) = (Lo + (k1 : Int)) + ((k2 : Nat) : Int) := by omega
        rw [eR]
        have hl10 : (ns.take Lo.toNat ++ digs n.toNat k1 (x % 2 ^ (n.toNat * k1)) ++ ns.drop (Lo.toNat + k1)).length = ns.length := splice_len hLo (by omega) (digs_length _ _ _)
        refine ih k2 (by omega) (x / 2 ^ (n.toNat * k1)) (Lo + k1) _ _ _ vs10 _ e _ _ _ _ hA' (by show A'.depth + 1 + _ < _; omega) (by show A'.units + 3 + _ < _; omega) hk2
          (Nat.div_lt_of_lt_mul (by rw [← Nat.pow_add, ← Nat.mul_add, ← hk]; exact hx)) (by omega) (by rw [hl10]; omega) (by rw [hl10]; exact hns)
          (fun b o hb e => F11.keep b o (hB2 b o hb e)) (N11 _ (.head _)).1 hi10 ?_
        intro h12 tk12 vs12 keep12 hD12 hi12
        dsimp only
        (repeat' (first | (k_unfold; (try dsimp only)) | ((with_reducible refine isWp ?_); (fail_if_success (with_reducible first | refine halt 0 (by constructor) ?_)); (first | (walk1; (try dsimp only)) | (dsimp only; walk1))) | ((with_reducible show _ ∧ wpAny _ _ _ _ _ _); (refine And.intro (by first | k_in | exact FnAt_fr (by k_asm) (by assumption) | exact FnAt.of (by k_asm) (by k_mem)) ?_)) | ((fail_if_success (with_reducible refine isWp ?_)); dsimp only)))
        refine ret _ _ _ (fun b o hb e => ?_) hD12 ?_
        · exact keep12 b o hb (F11.keep b o (hb2 b o (fun q => hb (List.mem_singleton.mp q)) e))
        · have e2 : (Lo + (k1 : Int)).toNat = Lo.toNat + k1 := toNat_plus hLo
          rw [e2, splice_two (by omega) (digs_length _ _ _), ← digs_append, ← hk] at hi12
          exact hi12
  (repeat' (first | (k_unfold; (try dsimp only)) | ((with_reducible refine isWp ?_); (fail_if_success (with_reducible first | refine halt 0 (by constructor) ?_)); (first | (walk1; (try dsimp only)) | (dsimp only; walk1))) | ((with_reducible show _ ∧ wpAny _ _ _ _ _ _); (refine And.intro (by first | k_in | exact FnAt_fr (by k_asm) (by assumption) | exact FnAt.of (by k_asm) (by k_mem)) ?_)) | ((fail_if_success (with_reducible refine isWp ?_)); dsimp only)))
  have tabs' : Tabs ((54, t1') :: (61, t2) :: (new ++ cs)) := ⟨t1', t2, new ++ cs, rfl, fun p hp => by
    rcases List.mem_append.mp hp with q | q
    · exact ⟨Nat.ne_of_gt (Nat.lt_trans (show (54 : Nat) < D by omega) (hnD p q)), Nat.ne_of_gt (Nat.lt_trans (show (61 : Nat) < D by omega) (hnD p q)), hnF p q⟩
    · exact hc p q, hT1', hT2.mono fun p hp => List.mem_append_right _ hp⟩
  have taddr : ∀ p ∈ (54, t1') :: (61, t2) :: (new ++ cs), p.1 ∈ ((54, t1) :: (61, t2) :: cs).map (·.1) ∨ s.heap.objs.size ≤ p.1 := fun p hp => by
    rcases List.mem_cons.mp hp with rfl | hp
    · exact .inl (.head _)
    · rcases List.mem_cons.mp hp with rfl | hp
      · exact .inl (.tail _ (.head _))
      · rcases List.mem_append.mp hp with q | q
        · exact .inr (Nat.le_trans (show @LE.le Nat _ s.heap.objs.size D by omega) (Nat.le_of_lt (hnD p q)))
        · exact .inl (.tail _ (.tail _ (List.mem_map_of_mem q)))
  have hXk : X < 2 ^ (n.toNat * kk) := by
    have := intBits_le_iff.mp hk1
    rwa [Int.natAbs_natCast] at this
  by_cases ha0 : (X : Int) = 0
  · have : X = 0 := by omega
    subst this
    rw [if_neg (by decide)]
    (repeat' (first | (k_unfold; (try dsimp only)) | ((with_reducible refine isWp ?_); (fail_if_success (with_reducible first | refine halt 0 (by constructor) ?_)); (first | (walk1; (try dsimp only)) | (dsimp only; walk1))) | ((with_reducible show _ ∧ wpAny _ _ _ _ _ _); (refine And.intro (by first | k_in | exact FnAt_fr (by k_asm) (by assumption) | exact FnAt.of (by k_asm) (by k_mem)) ?_)) | ((fail_if_success (with_reducible refine isWp ?_)); dsimp only)))
    have hkk0 : kk = 0 := by
      have : Builtin.Int.intBits ((0 : Nat) : Int) = 0 := by decide
      omega
    subst hkk0
    refine hret _ _ _ _ (fun b o hb e => F6.keep b o (hb1 b o hb e)) tabs' (fun p hp => ⟨(N6 p (.tail _ (.tail _ (.tail _ (.tail _ (.tail _ hp)))))).1, taddr p hp⟩) ⟨D, vs0, 0, 0, rfl, by omega, (N6 _ (.tail _ (.head _))).1, hi0, by simp, by decide⟩
  · rw [if_pos (by simpa using ha0)]
    (repeat' (first | (k_unfold; (try dsimp only)) | ((with_reducible refine isWp ?_); (fail_if_success (with_reducible first | refine halt 0 (by constructor) ?_)); (first | (walk1; (try dsimp only)) | (dsimp only; walk1))) | ((with_reducible show _ ∧ wpAny _ _ _ _ _ _); (refine And.intro (by first | k_in | exact FnAt_fr (by k_asm) (by assumption) | exact FnAt.of (by k_asm) (by k_mem)) ?_)) | ((fail_if_success (with_reducible refine isWp ?_)); dsimp only)))
    refine len_ints_fit (N6.isList (.tail _ (.head _))) hi0 (by rw [List.length_replicate]; omega) ?_
    dsimp only
    have hkp : 0 < kk := Nat.pos_of_ne_zero fun q => by subst q; rw [Nat.mul_zero] at hXk; omega
    have e3 : (((List.replicate kk (0 : Int)).length : Nat) : Int) = 0 + (kk : Int) := by rw [List.length_replicate]; omega
    rw [e3]
    (repeat' (first | (k_unfold; (try dsimp only)) | ((with_reducible refine isWp ?_); (fail_if_success (with_reducible first | refine halt 0 (by constructor) ?_)); (first | (walk1; (try dsimp only)) | (dsimp only; walk1))) | ((with_reducible show _ ∧ wpAny _ _ _ _ _ _); (refine And.intro (by first | k_in | exact FnAt_fr (by k_asm) (by assumption) | exact FnAt.of (by k_asm) (by k_mem)) ?_)) | ((fail_if_success (with_reducible refine isWp ?_)); dsimp only)))
    refine inner kk X 0 _ _ _ vs0 _ 0 _ _ _ _ hA (by show A.depth + 1 + _ < _; omega) (by show A.units + 3 + _ < _; omega) hkp hXk (by omega) (by rw [List.length_replicate]; omega) (by rw [List.length_replicate]; omega)
      (fun b o _ e => e) (N6 _ (.tail _ (.head _))).1 hi0 ?_
    intro h12 tk12 vs12 keep12 hD12 hi12
    have F12 := Fr_but F6 keep12 (Ne.symm (N6 _ (.tail _ (.head _))).2.1) hDg
    have N12 : News g' L h12 ((D, W.listOf vs12.toArray 0) :: (L + 1 + 1, o2') :: (54, t1') :: (61, t2) :: (new ++ cs)) :=
      News_but (newsSub N6 (fun p hp => by
        rcases List.mem_cons.mp hp with rfl | hp
        · exact .tail _ (.tail _ (.head _))
        · exact .tail _ (.tail _ (.tail _ (.tail _ (.tail _ hp)))))) keep12 (List.forall_mem_cons.mpr ⟨by show @Ne Nat _ _; first | (with_reducible first | assumption | exact Ne.symm (by assumption) | exact Apart.l (by assumption) | exact Apart.r (by assumption) | (refine Nat.ne_of_lt ?_; ((repeat (first | assumption | exact Nat.lt_add_one _ | exact Nat.lt_of_succ_lt (by assumption) | refine Nat.lt_add_one_of_lt ?_)); (first | done | fail "m"))) | (refine Nat.ne_of_gt ?_; ((repeat (first | assumption | exact Nat.lt_add_one _ | exact Nat.lt_of_succ_lt (by assumption) | refine Nat.lt_add_one_of_lt ?_)); (first | done | fail "m")))) | omega, List.forall_mem_cons.mpr ⟨by show @Ne Nat _ _; first | (with_reducible first | assumption | exact Ne.symm (by assumption) | exact Apart.l (by assumption) | exact Apart.r (by assumption) | (refine Nat.ne_of_lt ?_; ((repeat (first | assumption | exact Nat.lt_add_one _ | exact Nat.lt_of_succ_lt (by assumption) | refine Nat.lt_add_one_of_lt ?_)); (first | done | fail "m"))) | (refine Nat.ne_of_gt ?_; ((repeat (first | assumption | exact Nat.lt_add_one _ | exact Nat.lt_of_succ_lt (by assumption) | refine Nat.lt_add_one_of_lt ?_)); (first | done | fail "m")))) | omega, List.forall_mem_cons.mpr ⟨by show @Ne Nat _ _; first | (with_reducible first | assumption | exact Ne.symm (by assumption) | exact Apart.l (by assumption) | exact Apart.r (by assumption) | (refine Nat.ne_of_lt ?_; ((repeat (first | assumption | exact Nat.lt_add_one _ | exact Nat.lt_of_succ_lt (by assumption) | refine Nat.lt_add_one_of_lt ?_)); (first | done | fail "m"))) | (refine Nat.ne_of_gt ?_; ((repeat (first | assumption | exact Nat.lt_add_one _ | exact Nat.lt_of_succ_lt (by assumption) | refine Nat.lt_add_one_of_lt ?_)); (first | done | fail "m")))) | omega, fun p hp => by
          rcases List.mem_append.mp hp with q | q
          · exact Nat.ne_of_gt (hnD p q)
          · exact Nat.ne_of_lt (Nat.lt_trans (hltc p q) (by omega))⟩⟩⟩) hD12 (N6 _ (.tail _ (.head _))).2.1 hDg
    clear N6 F6 inner
    dsimp only
    (repeat' (first | (k_unfold; (try dsimp only)) | ((with_reducible refine isWp ?_); (fail_if_success (with_reducible first | refine halt 0 (by constructor) ?_)); (first | (walk1; (try dsimp only)) | (dsimp only; walk1))) | ((with_reducible show _ ∧ wpAny _ _ _ _ _ _); (refine And.intro (by first | k_in | exact FnAt_fr (by k_asm) (by assumption) | exact FnAt.of (by k_asm) (by k_mem)) ?_)) | ((fail_if_success (with_reducible refine isWp ?_)); dsimp only)))
    refine hret _ _ _ _ (fun b o hb e => F12.keep b o (hb1 b o hb e)) tabs' (fun p hp => ⟨(N12 p (.tail _ (.tail _ hp))).1, taddr p hp⟩) ⟨D, vs12, 0, kk, rfl, by omega, hD12, ?_, hXk, by omega⟩
    have e5 := splice_all (ns := List.replicate kk (0 : Int)) (a := digs n.toNat kk X) (by rw [digs_length, List.length_replicate])
    rw [List.length_replicate] at e5
    rw [show (0 : Int).toNat = 0 from rfl, e5] at hi12
    exact hi12

set_option maxHeartbeats 4000000 in
theorem digits2int_ok (w : World) (l : Addr) (vs : List Value) (ns : List Int) (ep : Nat) (n : Int) (tn : Tok) (hi : IntsAre vs ns) (hl : ns.length ≤ 200) (hb : ∀ d ∈ ns, 0 ≤ d ∧ d < 2 ^ n.toNat) (hn : 0 < n) (hn2 : n ≤ 64) :
    PureT w 66 250 2200 [.ref l, .int n tn] (fun h => h.get? l = some (W.listOf vs.toArray ep))
      (fun _ v _ => ∃ t, v = .int (undig n.toNat ns) t) := by
  unfold PureT; k_fill; intro loose mean mg mb A s Q E g tl hA hdp hu XK T hg hsz hT hN hpre hret
  have hlt := hT.off (fun p hp => (hN p hp).1) hpre rfl
  obtain ⟨t1, t2, cs, rfl, hc, hT1, hT2⟩ := hT
  obtain ⟨g', hg1, hsz1, hN1, X1, T1, hb1⟩ := hide_ground hg hN XK T
  have hlg : g'.get? l = _ := hb1 l _ hlt hpre
  clear hlt
  refine wpAny_call ?_
  have ho := (X1.keeps hg1) 66 _ (by k_is)
  refine' enterC (binds := [("digits", .ref l), ("n", .int n tn)]) hg1 hsz1 hN1 T1 ho rfl (codeRec_of (X1.keeps hg1) ?k7) ?k8 ?k9 ?kB ?kD ?_ ?c2 ?c3 ?c4
  case k7 => k_is
  case k8 => omega
  case k9 => exact BindsTo.of_eq rfl
  case kB => exact rfl
  case kD => decide +kernel
  case c2 => exact rfl
  case c3 => exact rfl
  case c4 => exact rfl
  intro L h₁ tk cells hL hk₁ F N Y
  have hlt : ∀ p ∈ (54, t1) :: (61, t2) :: cs, p.1 < L := fun p hp => hL ▸ Heap.lt_size (hN1 p hp).1
  have h54 : 54 < L := hlt _ (.head _)
  have h61 : 61 < L := hlt _ (.tail _ (.head _))
  have hltc : ∀ p ∈ cs, p.1 < L := fun p hp => hlt p (.tail _ (.tail _ hp))
  clear hlt
  obtain ⟨o1, o2, o3, rfl, d1, d2, d3⟩ := CellsAre.three Y
  clear Y
  (try simp only [List.cons_append, List.nil_append] at N)
  (try dsimp only)
  k_unmd
  k_fold
  clear hg hN XK T hsz ho
  (repeat' (first | (k_unfold; (try dsimp only)) | ((with_reducible refine isWp ?_); (fail_if_success (with_reducible first | refine halt 0 (by constructor) ?_)); (first | (walk1; (try dsimp only)) | (dsimp only; walk1))) | ((with_reducible show _ ∧ wpAny _ _ _ _ _ _); (refine And.intro (by first | k_in | exact FnAt_fr (by k_asm) (by assumption) | exact FnAt.of (by k_asm) (by k_mem)) ?_)) | ((fail_if_success (with_reducible refine isWp ?_)); dsimp only)))
  have CH : CodeHd g' 65 61 := codeHd_of_K X1 (by kernel_rfl)
  refine nest_T (own := [(L + 1 + 1 + 1, o1), (L + 1 + 1, o2), (L + 1, o3), (54, t1)]) F N T1 CH rfl (by ((repeat (first | exact List.forall_mem_nil _ | assumption | (refine List.forall_mem_cons.mpr ⟨?_, ?_⟩; focus (show @Ne Nat _ _; first | (with_reducible first | assumption | exact Ne.symm (by assumption) | exact Apart.l (by assumption) | exact Apart.r (by assumption) | (refine Nat.ne_of_lt ?_; ((repeat (first | assumption | exact Nat.lt_add_one _ | exact Nat.lt_of_succ_lt (by assumption) | refine Nat.lt_add_one_of_lt ?_)); (first | done | fail "m"))) | (refine Nat.ne_of_gt ?_; ((repeat (first | assumption | exact Nat.lt_add_one _ | exact Nat.lt_of_succ_lt (by assumption) | refine Nat.lt_add_one_of_lt ?_)); (first | done | fail "m")))) | omega)) | exact ne_of_lts (by assumption) (by omega) | exact ne_of_gts (by assumption) (by omega))); (first | done | fail "m"))) (fun q hq => (hc q hq).2.1) hT2 rfl ?_
  intro f c' oc vq tq t2' new ctv doc h5 tk5 F5 N5 hm5 hd5 hv5 hT2' lf ln _ hnF
  replace N5 := reorder3 N5
  have hf0 : L + 1 + 1 + 1 < f := lf _ (.head _)
  have hnD : ∀ p ∈ new, L + 1 + 1 + 1 < p.1 := fun p hp => ln _ (.head _) p hp
  have hnc : ∀ p ∈ new ++ cs, p.1 ≠ L + 1 + 1 + 1 := fun p hp => by
    rcases List.mem_append.mp hp with q | q
    · exact Nat.ne_of_gt (hnD p q)
    · exact Nat.ne_of_lt (Nat.lt_of_lt_of_le (hltc _ q) (by omega))
  refine storeX_C F5 N5 rfl (.head (by ((repeat (first | exact List.forall_mem_nil _ | assumption | (refine List.forall_mem_cons.mpr ⟨?_, ?_⟩; focus (show @Ne Nat _ _; first | (with_reducible first | assumption | exact Ne.symm (by assumption) | exact Apart.l (by assumption) | exact Apart.r (by assumption) | (refine Nat.ne_of_lt ?_; ((repeat (first | assumption | exact Nat.lt_add_one _ | exact Nat.lt_of_succ_lt (by assumption) | refine Nat.lt_add_one_of_lt ?_)); (first | done | fail "m"))) | (refine Nat.ne_of_gt ?_; ((repeat (first | assumption | exact Nat.lt_add_one _ | exact Nat.lt_of_succ_lt (by assumption) | refine Nat.lt_add_one_of_lt ?_)); (first | done | fail "m")))) | omega)) | exact ne_of_lts (by assumption) (by omega) | exact ne_of_gts (by assumption) (by omega))); (first | done | fail "m")))) d1 ?_
  intro h6 o1' F6 N6 d1'
  (try k_fold)
  have hcget : h6.get? c' = some oc := (N6 (c', oc) (.tail _ (.tail _ (.tail _ (.tail _ (.tail _ (.tail _ hm5))))))).1
  have hfget := (N6 _ (.tail _ (.tail _ (.tail _ (.head _))))).1
  have hdget := (N6 _ (.tail _ (.tail _ (.head _)))).1
  have hnget := (N6 _ (.tail _ (.head _))).1
  have higet := (N6 _ (.head _)).1
  dsimp only at hfget hnget higet hdget
  have hlget := F6.keep _ _ hlg
  have inner : ∀ (k : Nat) (Lo : Int) (tl th : Tok) (A' : Around) (s' : Shared) (Q' E' : Value → Shared → Prop), A'.handled = none → A'.depth + (k + 5) < recursionLimit → A'.units + 8 * (k + 5) < cLine →
      0 < k → 0 ≤ Lo → Lo + k ≤ ns.length → (∀ b o, h6.get? b = some o → s'.heap.get? b = some o) →
      (∀ t h' tk', (∀ b o, s'.heap.get? b = some o → h'.get? b = some o) → Q' (.int (undig n.toNat ((ns.drop Lo.toNat).take k)) t) { s' with heap := h', toks := tk' }) →
      wpAny (model PySem.Challenge.rw_sh0054_01.row.prog w) A' (call (.ref f) [.int Lo tl, .int (Lo + k) th]) Q' E' s' := by
    intro k
    induction k using Nat.strongRecOn with
    | ind k ih =>
      intro Lo tl th A' s' Q' E' hA' hd' hu' hk0 hLo hLk hB ret
      refine wpAny_call ?_
      have g4 : ∀ b o, g'.get? b = some o → s'.heap.get? b = some o := fun b o e => hB b o (F6.keep b o e)
      have c1 := hB _ _ hnget
      have c2 := hB _ _ higet
      have c3 := hB _ _ hdget
      have c4 := hB _ _ hlget
      have hFn : FnAt f s'.heap := ⟨_, _, _, _, hB _ _ hfget⟩
      have T2 := T1.keeps g4
      have X2 := X1.keeps g4
      refine' enterG (g := s'.heap) (news0 := []) (binds := [("L", .int Lo tl), ("R", .int (Lo + k) th)]) (fun _ _ e => e) (Nat.le_refl _) (fun _ h => nomatch h) T2 (hB f _ hfget) rfl ⟨c', oc, vq, tq, rfl, hB c' oc hcget, hd5, hv5⟩ ?k8 ?k9 ?kB ?_ ?c2 ?c3 ?c4 ?c5
      case k8 => omega
      case k9 => exact BindsTo.of_eq rfl
      case kB => exact locs rfl
      case c2 => exact rfl
      case c3 => exact rfl
      case c4 => exact rfl
      case c5 => decide
      intro L2 h7 hL2 hk7 F7 N7
      (try dsimp only)
      k_unmd
      k_fold
      clear hret g4
      (repeat' (first | (k_unfold; (try dsimp only)) | ((with_reducible refine isWp ?_); (fail_if_success (with_reducible first | refine halt 0 (by constructor) ?_)); (first | (walk1; (try dsimp only)) | (dsimp only; walk1))) | ((with_reducible show _ ∧ wpAny _ _ _ _ _ _); (refine And.intro (by first | k_in | exact FnAt_fr (by k_asm) (by assumption) | exact FnAt.of (by k_asm) (by k_mem)) ?_)) | ((fail_if_success (with_reducible refine isWp ?_)); dsimp only)))
      by_cases hk1 : k = 1
      · subst hk1
        rw [if_pos (by simp)]
        (repeat' (first | (k_unfold; (try dsimp only)) | ((with_reducible refine isWp ?_); (fail_if_success (with_reducible first | refine halt 0 (by constructor) ?_)); (first | (walk1; (try dsimp only)) | (dsimp only; walk1))) | ((with_reducible show _ ∧ wpAny _ _ _ _ _ _); (refine And.intro (by first | k_in | exact FnAt_fr (by k_asm) (by assumption) | exact FnAt.of (by k_asm) (by k_mem)) ?_)) | ((fail_if_success (with_reducible refine isWp ?_)); dsimp only)))
        rename Fr _ _ _ _ => F8
        have hL8 := PySem.IsL.isList (F8.keep _ _ c4)
        refine item_anyK hL8 hi (by omega) (by omega) (by omega) (fun t => ?_)
        (try dsimp only)
        (repeat' (first | (k_unfold; (try dsimp only)) | ((with_reducible refine isWp ?_); (fail_if_success (with_reducible first | refine halt 0 (by constructor) ?_)); (first | (walk1; (try dsimp only)) | (dsimp only; walk1))) | ((with_reducible show _ ∧ wpAny _ _ _ _ _ _); (refine And.intro (by first | k_in | exact FnAt_fr (by k_asm) (by assumption) | exact FnAt.of (by k_asm) (by k_mem)) ?_)) | ((fail_if_success (with_reducible refine isWp ?_)); dsimp only)))
        rw [show ns.getD Lo.toNat 0 = undig n.toNat ((ns.drop Lo.toNat).take 1) by rw [seg_one (by omega)]; simp [undig]]
        exact ret _ _ _ F8.keep
      · rw [if_neg (by simp; omega)]
        (repeat' (first | (k_unfold; (try dsimp only)) | ((with_reducible refine isWp ?_); (fail_if_success (with_reducible first | refine halt 0 (by constructor) ?_)); (first | (walk1; (try dsimp only)) | (dsimp only; walk1))) | ((with_reducible show _ ∧ wpAny _ _ _ _ _ _); (refine And.intro (by first | k_in | exact FnAt_fr (by k_asm) (by assumption) | exact FnAt.of (by k_asm) (by k_mem)) ?_)) | ((fail_if_success (with_reducible refine isWp ?_)); dsimp only)))
        refine rshift_int (by decide) ?_
        dsimp only
        (repeat' (first | (k_unfold; (try dsimp only)) | ((with_reducible refine isWp ?_); (fail_if_success (with_reducible first | refine halt 0 (by constructor) ?_)); (first | (walk1; (try dsimp only)) | (dsimp only; walk1))) | ((with_reducible show _ ∧ wpAny _ _ _ _ _ _); (refine And.intro (by first | k_in | exact FnAt_fr (by k_asm) (by assumption) | exact FnAt.of (by k_asm) (by k_mem)) ?_)) | ((fail_if_success (with_reducible refine isWp ?_)); dsimp only)))
        obtain ⟨k1, k2, hk, hk1, hk2, hkh⟩ : ∃ k1 k2, k = k1 + k2 ∧ 0 < k1 ∧ 0 < k2 ∧ k / 2 = k1 := ⟨k / 2, k - k / 2, by omega, by omega, by omega, rfl⟩
        rename Fr _ _ _ _ => F8
        simp only [half_mid, hkh, mul_nat k1 (Int.le_of_lt hn)] at F8 ⊢
        clear hkh
        have eR : Lo + ((k : Nat) : Int) = (Lo + (k1 : Int)) + ((k2 : Nat) : Int) := by omega
        rw [eR]
        have hseg := undig_bound n.toNat ((ns.drop (Lo + (k1 : Int)).toNat).take k2) (fun d hd => hb d (List.mem_of_mem_drop (List.mem_of_mem_take hd)))
        have hlen2 : ((ns.drop (Lo + (k1 : Int)).toNat).take k2).length = k2 := seg_len (by omega) (by omega)
        rw [hlen2] at hseg
        have hNk2 : n.toNat * k2 ≤ 64 * 200 := Nat.mul_le_mul (by omega) (by omega)
        have hNk1 : n.toNat * k1 ≤ 64 * 200 := Nat.mul_le_mul (by omega) (by omega)
        refine ih k2 (by omega) (Lo + k1) _ _ _ _ _ _ hA' (by show A'.depth + 1 + _ < _; omega) (by show A'.units + 3 + _ < _; omega) hk2 (by omega) (by omega) (fun b o e => F8.keep b o (hB b o e)) ?_
        intro t10 h10 tk10 keep10
        replace F8 := F8.keeps keep10
        have N10 : News s'.heap L2 h10 [] := News.nil
        clear keep10
        dsimp only
        (repeat' (first | (k_unfold; (try dsimp only)) | ((with_reducible refine isWp ?_); (fail_if_success (with_reducible first | refine halt 0 (by constructor) ?_)); (first | (walk1; (try dsimp only)) | (dsimp only; walk1))) | ((with_reducible show _ ∧ wpAny _ _ _ _ _ _); (refine And.intro (by first | k_in | exact FnAt_fr (by k_asm) (by assumption) | exact FnAt.of (by k_asm) (by k_mem)) ?_)) | ((fail_if_success (with_reducible refine isWp ?_)); dsimp only)))
        refine lshift_int (by omega) ?_ ?_
        · have : Builtin.Int.intBits (undig n.toNat ((ns.drop (Lo + (k1 : Int)).toNat).take k2)) ≤ n.toNat * k2 := intBits_le_iff.mpr (by
            have h2 : ((2 ^ (n.toNat * k2) : Nat) : Int) = 2 ^ (n.toNat * k2) := by simp
            rw [← h2] at hseg
            omega)
          omega
        dsimp only
        (repeat' (first | (k_unfold; (try dsimp only)) | ((with_reducible refine isWp ?_); (fail_if_success (with_reducible first | refine halt 0 (by constructor) ?_)); (first | (walk1; (try dsimp only)) | (dsimp only; walk1))) | ((with_reducible show _ ∧ wpAny _ _ _ _ _ _); (refine And.intro (by first | k_in | exact FnAt_fr (by k_asm) (by assumption) | exact FnAt.of (by k_asm) (by k_mem)) ?_)) | ((fail_if_success (with_reducible refine isWp ?_)); dsimp only)))
        refine ih k1 (by omega) Lo _ _ _ _ _ _ hA' (by show A'.depth + 1 + _ < _; omega) (by show A'.units + 3 + _ < _; omega) hk1 (by omega) (by omega) (fun b o e => F8.keep b o (hB b o e)) ?_
        intro t11 h11 tk11 keep11
        dsimp only
        (repeat' (first | (k_unfold; (try dsimp only)) | ((with_reducible refine isWp ?_); (fail_if_success (with_reducible first | refine halt 0 (by constructor) ?_)); (first | (walk1; (try dsimp only)) | (dsimp only; walk1))) | ((with_reducible show _ ∧ wpAny _ _ _ _ _ _); (refine And.intro (by first | k_in | exact FnAt_fr (by k_asm) (by assumption) | exact FnAt.of (by k_asm) (by k_mem)) ?_)) | ((fail_if_success (with_reducible refine isWp ?_)); dsimp only)))
        have hlen1 : ((ns.drop Lo.toNat).take k1).length = k1 := seg_len hLo (by omega)
        have ev : undig n.toNat ((ns.drop Lo.toNat).take k) = undig n.toNat ((ns.drop (Lo + (k1 : Int)).toNat).take k2) * 2 ^ ((n.toNat * k1 : Nat) : Int).toNat + undig n.toNat ((ns.drop Lo.toNat).take k1) := by
          rw [hk, seg_split, undig_append, hlen1, Int.toNat_natCast, toNat_plus (n := k1) hLo, Int.mul_comm, Int.add_comm]
        rw [ev] at ret
        exact ret _ _ _ fun b o e => keep11 b o (F8.keep b o e)
  (repeat' (first | (k_unfold; (try dsimp only)) | ((with_reducible refine isWp ?_); (fail_if_success (with_reducible first | refine halt 0 (by constructor) ?_)); (first | (walk1; (try dsimp only)) | (dsimp only; walk1))) | ((with_reducible show _ ∧ wpAny _ _ _ _ _ _); (refine And.intro (by first | k_in | exact FnAt_fr (by k_asm) (by assumption) | exact FnAt.of (by k_asm) (by k_mem)) ?_)) | ((fail_if_success (with_reducible refine isWp ?_)); dsimp only)))
  have hl6 := PySem.IsL.isList hlget
  refine truthy_ints_fit hl6 hi (by omega) ?_
  dsimp only
  have tabs' : Tabs ((54, t1) :: (61, t2') :: (new ++ cs)) := ⟨t1, t2', new ++ cs, rfl, fun p hp => by
    rcases List.mem_append.mp hp with q | q
    · exact ⟨Nat.ne_of_gt (Nat.lt_trans (show (54 : Nat) < L + 1 + 1 + 1 by omega) (hnD p q)), Nat.ne_of_gt (Nat.lt_trans (show (61 : Nat) < L + 1 + 1 + 1 by omega) (hnD p q)), hnF p q⟩
    · exact hc p q, hT1.mono fun p hp => List.mem_append_right _ hp, hT2'⟩
  have taddr : ∀ p ∈ (54, t1) :: (61, t2') :: (new ++ cs), p.1 ∈ ((54, t1) :: (61, t2) :: cs).map (·.1) ∨ s.heap.objs.size ≤ p.1 := fun p hp => by
    rcases List.mem_cons.mp hp with rfl | hp
    · exact .inl (.head _)
    · rcases List.mem_cons.mp hp with rfl | hp
      · exact .inl (.tail _ (.head _))
      · rcases List.mem_append.mp hp with q | q
        · exact .inr (Nat.le_trans (show @LE.le Nat _ s.heap.objs.size (L + 1 + 1 + 1) by omega) (Nat.le_of_lt (hnD p q)))
        · exact .inl (.tail _ (.tail _ (List.mem_map_of_mem q)))
  by_cases h0 : ns = []
  · subst h0
    rw [if_neg (by simp)]
    (repeat' (first | (k_unfold; (try dsimp only)) | ((with_reducible refine isWp ?_); (fail_if_success (with_reducible first | refine halt 0 (by constructor) ?_)); (first | (walk1; (try dsimp only)) | (dsimp only; walk1))) | ((with_reducible show _ ∧ wpAny _ _ _ _ _ _); (refine And.intro (by first | k_in | exact FnAt_fr (by k_asm) (by assumption) | exact FnAt.of (by k_asm) (by k_mem)) ?_)) | ((fail_if_success (with_reducible refine isWp ?_)); dsimp only)))
    exact hret _ _ _ _ (fun b o hb e => F6.keep b o (hb1 b o hb e)) tabs' (fun p hp => ⟨(N6 p (.tail _ (.tail _ (.tail _ (.tail _ hp))))).1, taddr p hp⟩) ⟨_, rfl⟩
  · have hpos : 0 < ns.length := List.length_pos_iff.mpr h0
    rw [if_pos (by simpa using hpos)]
    (repeat' (first | (k_unfold; (try dsimp only)) | ((with_reducible refine isWp ?_); (fail_if_success (with_reducible first | refine halt 0 (by constructor) ?_)); (first | (walk1; (try dsimp only)) | (dsimp only; walk1))) | ((with_reducible show _ ∧ wpAny _ _ _ _ _ _); (refine And.intro (by first | k_in | exact FnAt_fr (by k_asm) (by assumption) | exact FnAt.of (by k_asm) (by k_mem)) ?_)) | ((fail_if_success (with_reducible refine isWp ?_)); dsimp only)))
    refine len_ints_fit hl6 hi (by omega) ?_
    dsimp only
    have e3 : ((ns.length : Nat) : Int) = 0 + (ns.length : Int) := by omega
    rw [e3]
    (repeat' (first | (k_unfold; (try dsimp only)) | ((with_reducible refine isWp ?_); (fail_if_success (with_reducible first | refine halt 0 (by constructor) ?_)); (first | (walk1; (try dsimp only)) | (dsimp only; walk1))) | ((with_reducible show _ ∧ wpAny _ _ _ _ _ _); (refine And.intro (by first | k_in | exact FnAt_fr (by k_asm) (by assumption) | exact FnAt.of (by k_asm) (by k_mem)) ?_)) | ((fail_if_success (with_reducible refine isWp ?_)); dsimp only)))
    refine inner ns.length 0 _ _ _ _ _ _ hA (by show A.depth + 1 + _ < _; omega) (by show A.units + 3 + _ < _; omega) hpos (by omega) (by omega) (fun b o e => e) ?_
    intro t12 h12 tk12 keep12
    dsimp only
    rw [show (0 : Int).toNat = 0 from rfl, List.drop_zero, List.take_length]
    (repeat' (first | (k_unfold; (try dsimp only)) | ((with_reducible refine isWp ?_); (fail_if_success (with_reducible first | refine halt 0 (by constructor) ?_)); (first | (walk1; (try dsimp only)) | (dsimp only; walk1))) | ((with_reducible show _ ∧ wpAny _ _ _ _ _ _); (refine And.intro (by first | k_in | exact FnAt_fr (by k_asm) (by assumption) | exact FnAt.of (by k_asm) (by k_mem)) ?_)) | ((fail_if_success (with_reducible refine isWp ?_)); dsimp only)))
    exact hret _ _ _ _ (fun b o hb e => keep12 b o (F6.keep b o (hb1 b o hb e))) tabs' (fun p hp => ⟨keep12 _ _ (N6 p (.tail _ (.tail _ (.tail _ (.tail _ hp))))).1, taddr p hp⟩) ⟨_, rfl⟩

section
variable {prog : Program} {w : World} {A : Around} {E : Value → Shared → Prop} {s : Shared} {env : Env} {h₀ : Heap} {x : Str} {body : List Stmt} {Q : Flow → Shared → Prop}
theorem LEnd.own {L I : Addr} {own own' : List (Addr × Obj)} {J : (Str → Option Value) → List (Addr × Obj) → Prop} {s₁ : Shared} {f : Flow} {s₂ : Shared} (hs : ∀ m news', J m news' → ∀ p ∈ own', p ∈ own ∨ p ∈ news') (h : LEnd h₀ L I own J s₁ Q f s₂) : LEnd h₀ L I own' J s₁ Q f s₂ := by
  have key : (∃ h' tk m' news', s₂ = { s₁ with heap := h', toks := tk } ∧ Fr h₀ L h' m' ∧ News h₀ L h' (own ++ news') ∧ (∀ p ∈ news', p.1 ≠ I) ∧ J m' news') → (∃ h' tk m' news', s₂ = { s₁ with heap := h', toks := tk } ∧ Fr h₀ L h' m' ∧ News h₀ L h' (own' ++ news') ∧ (∀ p ∈ news', p.1 ≠ I) ∧ J m' news') := by
    rintro ⟨h', tk, m', news', e, F, N, a, b⟩
    refine ⟨h', tk, m', news', e, F, fun p hp => N p ?_, a, b⟩
    rcases List.mem_append.mp hp with q | q
    · exact List.mem_append.mpr (hs _ _ b p q)
    · exact List.mem_append_right _ q
  cases f with
  | ret v => exact h
  | brk => exact h
  | next => exact key h
  | cont => exact key h
theorem iter_rev {I D : Addr} {lo : Obj} {items : Array Value} {n : Nat} {j : Int} {m₀ : Str → Option Value} {news : List (Addr × Obj)} (J : (Str → Option Value) → Nat → (Str → Option Value) → List (Addr × Obj) → Prop)
    (hh : A.handled = none) (F : Fr h₀ env.locals s.heap m₀) (N : News h₀ env.locals s.heap ((I, revObj D j) :: news)) (hj0 : j = (items.size : Int) - 1) (hDI : D < I) (hnI : ∀ p ∈ news, p.1 ≠ I) (hc : lo.cls = .type "list") (hd : lo.data = .seq items n) (hj : J m₀ 0 m₀ news)
    (hJ : ∀ i m₁ news₁, J m₀ i m₁ news₁ → (D, lo) ∈ news₁)
    (turn : ∀ i v m₁ news₁ h tk it, i < items.size → items[items.size - 1 - i]? = some v → J m₀ i m₁ news₁ → (∀ p ∈ news₁, p.1 ≠ I) →
      Fr h₀ env.locals h (fun y => if y = x then some v else m₁ y) → News h₀ env.locals h ((I, it) :: news₁) →
      wpAny (model prog w) A (execs body env) (LEnd h₀ env.locals I [(I, it)] (J m₀ (i + 1)) { s with heap := h, toks := tk } Q) E { s with heap := h, toks := tk })
    (done : ∀ m₁ news₁ h tk, J m₀ items.size m₁ news₁ → Fr h₀ env.locals h m₁ → News h₀ env.locals h news₁ → Q .next { s with heap := h, toks := tk }) :
    wpAny (model prog w) A (pyIter (.ref I)) (fun it s₂ => LoopAtV prog w A h₀ env x body Q E it s₂) E s := by
  have hI := N _ (.head _)
  have hD := N _ (.tail _ (hJ _ _ _ hj))
  have hl : s.heap.IsList D items := ⟨lo, hD.1, hc, n, hd⟩
  have hne : D ≠ I := Nat.ne_of_lt hDI
  have hit : s.heap.IsRevIter I D ((items.size : Int) - 1) := ⟨_, hI.1, rfl, by subst hj0; exact rfl⟩
  refine wpAny_pyIter_revIter hit ?_
  refine loop_gen J (Walks.listRev hh I D hne items) ?_ hI.2.2 hnI ⟨Nat.zero_le _, ?_, hl⟩ F (fun p hp => N p (.tail _ hp)) hj ?_ done
  · intro hm
    rcases List.mem_cons.mp hm with e | hm
    · exact hI.2.1 e.symm
    · exact hD.2.1 (List.mem_singleton.mp hm).symm
  · have e : (items.size : Int) - 1 - ((0 : Nat) : Int) = (items.size : Int) - 1 := by omega
    rw [e]; exact hit
  · intro i v m₁ news₁ h tk own hi hP hJ1 hofs hown hst F₁ N₁
    obtain ⟨it, hit, _, _⟩ := hst.2.1
    have N2 : News h₀ env.locals h ((I, it) :: news₁) := fun p hp => by
      rcases List.mem_cons.mp hp with rfl | hp
      · exact ⟨hit, hI.2⟩
      · exact N₁ p (List.mem_append_right _ hp)
    refine wpAny_mono (turn i v m₁ news₁ h tk it hi hP hJ1 hofs F₁ N2) (fun f s₂ e => LEnd.own (fun m' news' j' p hp => ?_) e) fun _ _ e => e
    have hp1 := (N₁ p (List.mem_append_left _ hp)).1
    rcases List.mem_cons.mp (hown p hp) with e | e
    · left
      rw [e, hit] at hp1
      exact List.mem_singleton.mpr (Prod.ext e (Option.some.inj hp1).symm)
    · right
      have e' := List.mem_singleton.mp e
      have h3 := (N₁ _ (List.mem_append_right _ (hJ _ _ _ hJ1))).1
      rw [e', h3] at hp1
      have : p = (D, lo) := Prod.ext e' (Option.some.inj hp1).symm
      rw [this]; exact hJ _ _ _ j'
end
theorem digs_bound (N : Nat) : ∀ k x : Nat, ∀ d ∈ digs N k x, 0 ≤ d ∧ d < 2 ^ N
  | 0, _, d, h => nomatch h
  | k + 1, x, d, h => by
    rcases List.mem_cons.mp h with rfl | h
    · have h1 := Nat.mod_lt x (Nat.pow_pos (n := N) (show 0 < 2 by decide))
      have h2 : ((2 ^ N : Nat) : Int) = 2 ^ N := by simp
      omega
    · exact digs_bound N k _ d h
theorem drop_step {ds : List Int} {k i : Nat} {d : Int} (h : ds.length = k) (hi : i < k) (hd : ds[k - 1 - i]? = some d) : ds.drop (k - (i + 1)) = d :: ds.drop (k - i) := by
  have e : k - (i + 1) = k - 1 - i := by rw [Nat.sub_sub, Nat.add_comm]
  have hl : k - 1 - i < ds.length := by omega
  rw [e, List.drop_eq_getElem_cons hl, show k - 1 - i + 1 = k - i by rw [← e, ← Nat.sub_sub, Nat.sub_add_cancel (Nat.sub_pos_of_lt hi)]]
  congr 1
  exact Option.some.inj ((List.getElem?_eq_getElem hl).symm.trans hd)
theorem step_arith (N : Nat) (b r d U : Int) (hr0 : 0 ≤ r) (hrb : r < b) (hd0 : 0 ≤ d) (hd : d < 2 ^ N) :
    0 ≤ (r * 2 ^ N + d).fdiv b ∧ (r * 2 ^ N + d).fdiv b < 2 ^ N ∧ 0 ≤ (r * 2 ^ N + d).fmod b ∧ (r * 2 ^ N + d).fmod b < b ∧
      ((r * 2 ^ N + d).fdiv b + 2 ^ N * U) * b + (r * 2 ^ N + d).fmod b = d + 2 ^ N * (U * b + r) := by
  have hb : 0 < b := by omega
  have hpos : (0 : Int) < 2 ^ N := Int.pow_pos (by decide)
  generalize (2 : Int) ^ N = P at *
  have h0 : 0 ≤ r * P := Int.mul_nonneg hr0 (Int.le_of_lt hpos)
  rw [Int.fdiv_eq_ediv_of_nonneg _ (Int.le_of_lt hb), Int.fmod_eq_emod_of_nonneg _ (Int.le_of_lt hb)]
  refine ⟨Int.ediv_nonneg (by omega) (Int.le_of_lt hb), Int.ediv_lt_of_lt_mul hb ?_, Int.emod_nonneg _ (by omega), Int.emod_lt_of_pos _ hb, ?_⟩
  · have h1 : (r + 1) * P ≤ b * P := Int.mul_le_mul_of_nonneg_right (by omega) (Int.le_of_lt hpos)
    rw [Int.add_mul, Int.one_mul] at h1
    rw [Int.mul_comm P b]; omega
  · have h1 := Int.mul_ediv_add_emod (r * P + d) b
    grind
theorem fdiv_fmod_of {a b q r : Int} (h : q * b + r = a) (h0 : 0 ≤ r) (h1 : r < b) : a.fdiv b = q ∧ a.fmod b = r := by
  have hb : 0 < b := by omega
  rw [Int.fdiv_eq_ediv_of_nonneg _ (Int.le_of_lt hb), Int.fmod_eq_emod_of_nonneg _ (Int.le_of_lt hb)]
  exact (Int.ediv_emod_unique hb).mpr ⟨by rw [Int.mul_comm] at h; omega, h0, h1⟩
theorem fresh_news {g h h' : Heap} {L D : Addr} {o : Obj} {m : Str → Option Value} (F : Fr g L h m) (hz : h.objs.size ≤ D) (e : h'.get? D = some o) : h'.get? D = some o ∧ D ≠ L ∧ g.get? D = none :=
  have hL : L < D := Nat.lt_of_lt_of_le F.ns.lt hz
  ⟨e, Nat.ne_of_gt hL, Heap.get?_none_of_le (Nat.le_trans F.above (Nat.le_of_lt hL))⟩
theorem news_cons {g h : Heap} {L : Addr} {p : Addr × Obj} {l : List (Addr × Obj)} (a : h.get? p.1 = some p.2 ∧ p.1 ≠ L ∧ g.get? p.1 = none) (N : News g L h l) : News g L h (p :: l) := fun q hq => by
  rcases List.mem_cons.mp hq with rfl | hq
  · exact a
  · exact N q hq
set_option maxHeartbeats 4000000 in
theorem divmodpos_ok (w : World) (a b : Int) (ta tb : Tok) (ha : 0 ≤ a) (ha2 : a < 2 ^ 200) (hb : 0 < b) (hb2 : b < 1073741824) :
    PureT w 73 260 2300 [.int a ta, .int b tb] (fun _ => True)
      (fun z v h => ∃ T t1 t2, v = .ref T ∧ z ≤ T ∧ h.get? T = some { cls := .type "tuple", data := .seq #[.int (a.fdiv b) t1, .int (a.fmod b) t2] }) := by
  unfold PureT; k_fill; intro loose mean mg mb A s Q E g tl hA hdp hu XK T hg hsz hT hN _ hret
  obtain ⟨g', hg1, hsz1, hN1, X1, T1, hb1⟩ := hide_ground hg hN XK T
  refine wpAny_call ?_
  have XS := X1.keeps hg1
  have ho := XS 73 _ (by k_is)
  refine' enterG (binds := [("a", .int a ta), ("b", .int b tb)]) hg1 hsz1 hN1 T1 ho rfl (codeRec_of XS ?k7) ?k8 ?k9 ?kB ?_ ?c2 ?c3 ?c4 ?c5
  case k7 => k_is
  case k8 => omega
  case k9 => exact BindsTo.of_eq rfl
  case kB => exact locs rfl
  case c2 => exact rfl
  case c3 => exact rfl
  case c4 => exact rfl
  case c5 => decide
  intro L h₁ hL hk₁ F N
  have hlt : ∀ p ∈ tl, p.1 < L := fun p hp => hL ▸ Heap.lt_size (hN1 p hp).1
  (try dsimp only)
  k_unmd
  (try k_fold)
  clear hg hN XK T hsz ho XS
  (repeat' (first | (k_unfold; (try dsimp only)) | ((with_reducible refine isWp ?_); (fail_if_success (with_reducible first | refine halt 0 (by constructor) ?_)); (first | (walk1; (try dsimp only)) | (dsimp only; walk1))) | ((with_reducible show _ ∧ wpAny _ _ _ _ _ _); (refine And.intro (by first | k_in | exact FnAt_fr (by k_asm) (by assumption) | exact FnAt.of (by k_asm) (by k_mem)) ?_)) | ((fail_if_success (with_reducible refine isWp ?_)); dsimp only)))
  rename Fr _ _ _ _ => F2
  rename News _ _ _ _ => N2
  have hbits : Builtin.Int.intBits b ≤ 64 := intBits_le_iff.mpr (by omega)
  have hbits0 : 0 < Builtin.Int.intBits b := Nat.pos_of_ne_zero fun e => by
    have := intBits_le_iff.mp (Nat.le_of_eq e)
    simp at this; omega
  refine (int2digits_ok w a _ ta _ ha ha2 (by omega) (by omega)).use (news := []) hA (by show A.depth + 1 + _ < _; exact room2 ‹_› (by with_unfolding_all exact rfl)) (by show A.units + 3 + _ < _; exact room2 ‹_› (by with_unfolding_all exact rfl)) X1 T1 F2 (by rw [List.append_nil]; exact N2) hT (fun _ h => nomatch h) trivial ?_
  rintro _ h3 tk3 tl3 F3 N3 hT3 _ hk3 ha3 ⟨D, vs, ep, k, rfl, hzD, hD, hiD, hak, hk200⟩
  rw [List.append_nil] at N3
  replace N3 := news_cons (p := (D, _)) (fresh_news F2 hzD hD) N3
  have hLD : L < D := Nat.lt_of_lt_of_le F2.ns.lt hzD
  have hLz := F2.ns.lt
  have offD : D ∉ tl3.map (·.1) := hT3.off (fun p hp => (N3 p (.tail _ hp)).1) hD rfl
  dsimp only
  (repeat' (first | (k_unfold; (try dsimp only)) | ((with_reducible refine isWp ?_); (fail_if_success (with_reducible first | refine halt 0 (by constructor) ?_)); (first | (walk1; (try dsimp only)) | (dsimp only; walk1))) | ((with_reducible show _ ∧ wpAny _ _ _ _ _ _); (refine And.intro (by first | k_in | exact FnAt_fr (by k_asm) (by assumption) | exact FnAt.of (by k_asm) (by k_mem)) ?_)) | ((fail_if_success (with_reducible refine isWp ?_)); dsimp only)))
  rename Fr _ _ _ _ => F4
  rename News _ _ _ _ => N4
  rename_i Qd _ lq _ I _ l4
  have N5 : News g' L _ ((I, revObj D ((vs.length : Int) - 1)) :: (D, { cls := .type "list", data := .seq vs.toArray ep }) :: (Qd, W.listOf #[] 0) :: tl3) := newsSub N4 fun p hp => by
    revert p; ((repeat (first | exact List.forall_mem_nil _ | (refine List.forall_mem_cons.mpr ⟨?_, ?_⟩; focus ((with_reducible ((repeat (first | exact List.mem_cons_self | refine List.mem_cons_of_mem _ ?_ | (refine List.mem_append_left _ ?_; ((repeat (first | exact List.mem_cons_self | refine List.mem_cons_of_mem _ ?_ | assumption)); (first | done | fail "m"))) | refine List.mem_append_right _ ?_ | assumption)); (first | done | fail "m"))))) | (refine List.forall_mem_append.mpr ⟨?_, ?_⟩; focus (intro p hp; (with_reducible ((repeat (first | exact List.mem_cons_self | refine List.mem_cons_of_mem _ ?_ | (refine List.mem_append_left _ ?_; ((repeat (first | exact List.mem_cons_self | refine List.mem_cons_of_mem _ ?_ | assumption)); (first | done | fail "m"))) | refine List.mem_append_right _ ?_ | assumption)); (first | done | fail "m"))))) | (refine List.forall_mem_append.mpr ⟨?_, ?_⟩; focus ((repeat (first | exact List.forall_mem_nil _ | (refine List.forall_mem_cons.mpr ⟨?_, ?_⟩; focus ((with_reducible ((repeat (first | exact List.mem_cons_self | refine List.mem_cons_of_mem _ ?_ | (refine List.mem_append_left _ ?_; ((repeat (first | exact List.mem_cons_self | refine List.mem_cons_of_mem _ ?_ | assumption)); (first | done | fail "m"))) | refine List.mem_append_right _ ?_ | assumption)); (first | done | fail "m"))))))); (first | done | fail "m"))) | (intro p hp; (with_reducible ((repeat (first | exact List.mem_cons_self | refine List.mem_cons_of_mem _ ?_ | (refine List.mem_append_left _ ?_; ((repeat (first | exact List.mem_cons_self | refine List.mem_cons_of_mem _ ?_ | assumption)); (first | done | fail "m"))) | refine List.mem_append_right _ ?_ | assumption)); (first | done | fail "m")))))); (first | done | fail "m"))
  obtain ⟨N0, hN0⟩ : ∃ N0, N0 = Builtin.Int.intBits b := ⟨_, rfl⟩
  rw [Int.toNat_natCast, ← hN0] at hiD hak
  have hbN : b < 2 ^ N0 := by
    have := intBits_le_iff.mp (Nat.le_of_eq hN0.symm)
    have h2 : ((2 ^ N0 : Nat) : Int) = 2 ^ N0 := by simp
    omega
  refine iter_rev (env := envX _ _ L _ _ _) (lo := { cls := .type "list", data := .seq vs.toArray ep }) (fun m₀ i m news => ∃ qvs e qs r tr, news = (D, { cls := .type "list", data := .seq vs.toArray ep }) :: (Qd, W.listOf qvs.toArray e) :: tl3 ∧
    (∀ y, y ≠ Str.ofString "a_digit" → y ≠ Str.ofString "q_digit" → y ≠ Str.ofString "r" → m y = m₀ y) ∧ m (Str.ofString "r") = some (.int r tr) ∧ IntsAre qvs qs ∧ qs.length = i ∧ (∀ q ∈ qs, 0 ≤ q ∧ q < 2 ^ N0) ∧ 0 ≤ r ∧ r < b ∧
      undig N0 qs.reverse * b + r = undig N0 ((digs N0 k a.toNat).drop (k - i))) hA F4 N5 (by simp) l4.2.1 ?_ rfl rfl ?_ ?_ ?_ ?_
  · intro p hp
    rcases List.mem_cons.mp hp with rfl | hp
    · exact Nat.ne_of_lt l4.2.1
    · rcases List.mem_cons.mp hp with rfl | hp
      · exact Nat.ne_of_lt l4.1
      · exact tbn_neAll l4.2.2 p hp
  · refine ⟨[], 0, [], 0, _, rfl, fun y _ _ _ => rfl, rfl, .nil, rfl, (fun q h => nomatch h), by decide, hb, ?_⟩
    rw [Nat.sub_zero, List.drop_of_length_le (by rw [digs_length]; exact Nat.le_refl _)]
    simp [undig]
  · rintro i m₁ news₁ ⟨qvs, e, qs, r, tr, rfl, _⟩
    exact .head _
  · rintro i v m₁ news₁ h tk it hi hv ⟨qvs, e, qs, r, tr, rfl, hm, hr, hiq, hlq, hbq, hr0, hrb, hU⟩ hnI1 F6 N6
    refine cutQ fun Qr hQr => ?_
    have hlen : vs.length = k := by rw [hiD.length, digs_length]
    rw [List.size_toArray, hlen] at hi hv
    obtain ⟨d, td, rfl, hdd⟩ := hiD.at _ v (by simpa using hv)
    rw [map3 hm, hr] at F6
    generalize m₁ (Str.ofString "a_digit") = u1 at F6
    generalize m₁ (Str.ofString "q_digit") = u2 at F6
    clear hm hr m₁ F4 N4 N5 hret
    replace F6 : Fr g' L h _ := F6
    replace N6 : News g' L h _ := N6
    dsimp only at F6
    (try k_fold)
    (repeat' (first | (k_unfold; (try dsimp only)) | ((with_reducible refine isWp ?_); (fail_if_success (with_reducible first | refine halt 0 (by constructor) ?_)); (first | (walk1; (try dsimp only)) | (dsimp only; walk1))) | ((with_reducible show _ ∧ wpAny _ _ _ _ _ _); (refine And.intro (by first | k_in | exact FnAt_fr (by k_asm) (by assumption) | exact FnAt.of (by k_asm) (by k_mem)) ?_)) | ((fail_if_success (with_reducible refine isWp ?_)); dsimp only)))
    have hdN0 : 0 ≤ d ∧ d < 2 ^ N0 := digs_bound N0 k a.toNat d (List.mem_of_getElem? hdd)
    have hs := step_arith N0 b r d (undig N0 qs.reverse) hr0 hrb hdN0.1 hdN0.2
    have hrN : r < 2 ^ 30 := by omega
    have hN30 : N0 ≤ 30 := by rw [hN0]; exact intBits_le_iff.mpr (by omega)
    have hpow : (2 : Int) ^ N0 ≤ 2 ^ 30 := by
      have h1 : (2 : Nat) ^ N0 ≤ 2 ^ 30 := Nat.pow_le_pow_right (by decide) hN30
      have h2 : ((2 ^ N0 : Nat) : Int) = 2 ^ N0 := by simp
      omega
    have hpos : (0 : Int) < 2 ^ N0 := Int.pow_pos (by decide)
    have hrp : r * 2 ^ N0 ≤ 2 ^ 30 * 2 ^ 30 := Int.mul_le_mul (Int.le_of_lt hrN) hpow (Int.le_of_lt hpos) (by decide)
    have hrp0 : 0 ≤ r * 2 ^ N0 := Int.mul_nonneg hr0 (Int.le_of_lt hpos)
    rw [← hN0]
    refine lshift_int (by omega) ?_ ?_
    · have : Builtin.Int.intBits r ≤ 30 := intBits_le_iff.mpr (by omega)
      omega
    dsimp only
    rw [Int.toNat_natCast]
    (repeat' (first | (k_unfold; (try dsimp only)) | ((with_reducible refine isWp ?_); (fail_if_success (with_reducible first | refine halt 0 (by constructor) ?_)); (first | (walk1; (try dsimp only)) | (dsimp only; walk1))) | ((with_reducible show _ ∧ wpAny _ _ _ _ _ _); (refine And.intro (by first | k_in | exact FnAt_fr (by k_asm) (by assumption) | exact FnAt.of (by k_asm) (by k_mem)) ?_)) | ((fail_if_success (with_reducible refine isWp ?_)); dsimp only)))
    rename Fr _ _ _ _ => F7
    rename News _ _ _ _ => N7
    refine (div2n1n_ok w _ b _ _ _ _ (by omega) (by omega) hb hb2 (by omega)).use hA (by show A.depth + 1 + _ < _; exact room2 ‹_› (by with_unfolding_all exact rfl)) (by show A.units + 3 + _ < _; exact room2 ‹_› (by with_unfolding_all exact rfl)) X1 T1 F7 N7 trivial ?_
    rintro _ h8 tk8 F8 N8 _ ⟨T, t1, t2, rfl, hzT, hTg⟩
    replace N8 := news_cons (p := (T, _)) (fresh_news F7 hzT hTg) N8
    dsimp only
    (repeat' (first | (k_unfold; (try dsimp only)) | ((with_reducible refine isWp ?_); (fail_if_success (with_reducible first | refine halt 0 (by constructor) ?_)); (first | (walk1; (try dsimp only)) | (dsimp only; walk1))) | ((with_reducible show _ ∧ wpAny _ _ _ _ _ _); (refine And.intro (by first | k_in | exact FnAt_fr (by k_asm) (by assumption) | exact FnAt.of (by k_asm) (by k_mem)) ?_)) | ((fail_if_success (with_reducible refine isWp ?_)); dsimp only)))
    rename Fr _ _ _ _ => F9
    rename News _ _ _ _ => N9
    have N10 : News g' L _ ((Qd, W.listOf qvs.toArray e) :: (I, it) :: (D, { cls := .type "list", data := .seq vs.toArray ep }) :: tl3) := newsSub N9 fun p hp => by
      revert p; ((repeat (first | exact List.forall_mem_nil _ | (refine List.forall_mem_cons.mpr ⟨?_, ?_⟩; focus ((with_reducible ((repeat (first | exact List.mem_cons_self | refine List.mem_cons_of_mem _ ?_ | (refine List.mem_append_left _ ?_; ((repeat (first | exact List.mem_cons_self | refine List.mem_cons_of_mem _ ?_ | assumption)); (first | done | fail "m"))) | refine List.mem_append_right _ ?_ | assumption)); (first | done | fail "m"))))) | (refine List.forall_mem_append.mpr ⟨?_, ?_⟩; focus (intro p hp; (with_reducible ((repeat (first | exact List.mem_cons_self | refine List.mem_cons_of_mem _ ?_ | (refine List.mem_append_left _ ?_; ((repeat (first | exact List.mem_cons_self | refine List.mem_cons_of_mem _ ?_ | assumption)); (first | done | fail "m"))) | refine List.mem_append_right _ ?_ | assumption)); (first | done | fail "m"))))) | (refine List.forall_mem_append.mpr ⟨?_, ?_⟩; focus ((repeat (first | exact List.forall_mem_nil _ | (refine List.forall_mem_cons.mpr ⟨?_, ?_⟩; focus ((with_reducible ((repeat (first | exact List.mem_cons_self | refine List.mem_cons_of_mem _ ?_ | (refine List.mem_append_left _ ?_; ((repeat (first | exact List.mem_cons_self | refine List.mem_cons_of_mem _ ?_ | assumption)); (first | done | fail "m"))) | refine List.mem_append_right _ ?_ | assumption)); (first | done | fail "m"))))))); (first | done | fail "m"))) | (intro p hp; (with_reducible ((repeat (first | exact List.mem_cons_self | refine List.mem_cons_of_mem _ ?_ | (refine List.mem_append_left _ ?_; ((repeat (first | exact List.mem_cons_self | refine List.mem_cons_of_mem _ ?_ | assumption)); (first | done | fail "m"))) | refine List.mem_append_right _ ?_ | assumption)); (first | done | fail "m")))))); (first | done | fail "m"))
    have hQk : qvs.length ≤ 200 := by rw [hiq.length]; omega
    refine append_head F9 N10 ?_ ?_ (by rw [List.size_toArray]; unfold sizeLine; omega)
    · exact List.forall_mem_cons.mpr ⟨Nat.ne_of_gt l4.1, List.forall_mem_cons.mpr ⟨Nat.ne_of_lt lq.1, fun p hp => tbn_neAll lq.2 p hp⟩⟩
    intro h11 F11 N11
    dsimp only
    (repeat' (first | (k_unfold; (try dsimp only)) | ((with_reducible refine isWp ?_); (fail_if_success (with_reducible first | refine halt 0 (by constructor) ?_)); (first | (walk1; (try dsimp only)) | (dsimp only; walk1))) | ((with_reducible show _ ∧ wpAny _ _ _ _ _ _); (refine And.intro (by first | k_in | exact FnAt_fr (by k_asm) (by assumption) | exact FnAt.of (by k_asm) (by k_mem)) ?_)) | ((fail_if_success (with_reducible refine isWp ?_)); dsimp only)))
    rw [List.push_toArray] at N11
    refine hQr _ _ ?_
    refine ⟨_, _, _, _, rfl, F11, newsSub N11 (l' := (I, it) :: (D, { cls := .type "list", data := .seq vs.toArray ep }) :: (Qd, W.listOf (qvs ++ [Value.int ((r * 2 ^ N0 + d).fdiv b) t1]).toArray (e + 1)) :: tl3) ?_, ?_, _, _, _, _, _, rfl, ?_, rfl, hiq.append (.cons _ _ .nil), ?_, ?_, ?_, ?_, ?_⟩
    · intro p hp
      simp only [List.mem_cons] at hp ⊢
      rcases hp with h | h | h | h <;> simp [h, W.listOf]
    · exact List.forall_mem_cons.mpr ⟨Nat.ne_of_lt l4.2.1, List.forall_mem_cons.mpr ⟨Nat.ne_of_lt l4.1, fun p hp => tbn_neAll l4.2.2 p hp⟩⟩
    · intro y h1 h2 h3; simp [h1, h2, h3]; (try rw [hN0])
    · rw [List.length_append, hlq]; rfl
    · intro q hq
      rcases List.mem_append.mp hq with hq | hq
      · exact hbq q hq
      · rw [List.mem_singleton.mp hq]; exact ⟨hs.1, hs.2.1⟩
    · exact hs.2.2.1
    · exact hs.2.2.2.1
    · rw [List.reverse_append, List.reverse_singleton, List.singleton_append, undig, hs.2.2.2.2, hU, drop_step (digs_length _ _ _) hi hdd, undig]
  · rintro m₁ news₁ h tk ⟨qvs, e, qs, r, tr, rfl, hm, hr, hiq, hlq, hbq, hr0, hrb, hU⟩ F6 N6
    have hlen : vs.length = k := by rw [hiD.length, digs_length]
    rw [List.size_toArray, hlen] at hlq hU
    rw [Nat.sub_self, List.drop_zero, undig_digs N0 k a.toNat hak, Int.toNat_of_nonneg ha] at hU
    rw [map3 hm, hr] at F6
    generalize m₁ (Str.ofString "a_digit") = u1 at F6
    generalize m₁ (Str.ofString "q_digit") = u2 at F6
    clear hm hr m₁ F4 N4 N5
    replace F6 : Fr g' L h _ := F6
    replace N6 : News g' L h _ := N6
    (try dsimp only at F6)
    (try dsimp only)
    (repeat' (first | (k_unfold; (try dsimp only)) | ((with_reducible refine isWp ?_); (fail_if_success (with_reducible first | refine halt 0 (by constructor) ?_)); (first | (walk1; (try dsimp only)) | (dsimp only; walk1))) | ((with_reducible show _ ∧ wpAny _ _ _ _ _ _); (refine And.intro (by first | k_in | exact FnAt_fr (by k_asm) (by assumption) | exact FnAt.of (by k_asm) (by k_mem)) ?_)) | ((fail_if_success (with_reducible refine isWp ?_)); dsimp only)))
    have hQk : qvs.length ≤ 200 := by rw [hiq.length]; omega
    refine kl_reverse F6 N6 (l := qvs.reverse) (by simp) (.tail (by show @Ne Nat _ _; exact Nat.ne_of_lt lq.1) (.head (tbn_neAll lq.2))) (by simp; unfold sizeLine; omega) ?_
    intro h7 F7 N7
    dsimp only
    (repeat' (first | (k_unfold; (try dsimp only)) | ((with_reducible refine isWp ?_); (fail_if_success (with_reducible first | refine halt 0 (by constructor) ?_)); (first | (walk1; (try dsimp only)) | (dsimp only; walk1))) | ((with_reducible show _ ∧ wpAny _ _ _ _ _ _); (refine And.intro (by first | k_in | exact FnAt_fr (by k_asm) (by assumption) | exact FnAt.of (by k_asm) (by k_mem)) ?_)) | ((fail_if_success (with_reducible refine isWp ?_)); dsimp only)))
    have F8 := F7
    rename Fr _ _ _ _ => F8
    rename News _ _ _ _ => N8
    refine (digits2int_ok w Qd qvs.reverse qs.reverse e _ _ hiq.reverse (by rw [List.length_reverse]; omega) ?_ (by omega) (by omega)).use (news := [(D, { cls := .type "list", data := .seq vs.toArray ep }), (Qd, W.listOf qvs.reverse.toArray e)]) hA (by show A.depth + 1 + _ < _; exact room2 ‹_› (by with_unfolding_all exact rfl)) (by show A.units + 3 + _ < _; exact room2 ‹_› (by with_unfolding_all exact rfl)) X1 T1 F8 (newsSub N8 ?_) hT3 ?_ ?_ ?_
    · rw [Int.toNat_natCast, ← hN0]
      exact fun q hq => hbq q (List.mem_reverse.mp hq)
    · intro p hp
      simp only [List.mem_cons, List.mem_append] at hp ⊢
      rcases hp with h | h | h | h
      · simp [h]
      · simp [h]
      · simp [h]
      · cases h
    · exact List.forall_mem_cons.mpr ⟨fun q hq e => offD (List.mem_map.mpr ⟨q, hq, e.symm⟩), List.forall_mem_cons.mpr ⟨fun q hq e => tbn_neAll lq.2 q hq e.symm, fun _ h => nomatch h⟩⟩
    · exact (N8 _ (.tail _ (.head _))).1
    have hLz8 := F8.ns.lt
    rintro _ h9 tk9 tl9 F9 N9 hT9 off9 hk9 ha9 ⟨t9, rfl⟩
    rw [Int.toNat_natCast, ← hN0]
    have N10 : News g' L h9 ((Qd, W.listOf qvs.reverse.toArray e) :: tl9) := newsSub N9 fun p hp => by
      rcases List.mem_cons.mp hp with rfl | hp
      · exact List.mem_append_right _ (.tail _ (.head _))
      · exact List.mem_append_left _ hp
    dsimp only
    (repeat' (first | (k_unfold; (try dsimp only)) | ((with_reducible refine isWp ?_); (fail_if_success (with_reducible first | refine halt 0 (by constructor) ?_)); (first | (walk1; (try dsimp only)) | (dsimp only; walk1))) | ((with_reducible show _ ∧ wpAny _ _ _ _ _ _); (refine And.intro (by first | k_in | exact FnAt_fr (by k_asm) (by assumption) | exact FnAt.of (by k_asm) (by k_mem)) ?_)) | ((fail_if_success (with_reducible refine isWp ?_)); dsimp only)))
    rename Fr _ _ _ _ => F11
    rename News _ _ _ _ => N11
    rename_i l11
    obtain ⟨e1, e2⟩ := fdiv_fmod_of hU hr0 hrb
    refine hret _ _ _ tl9 (fun b o hb e => F11.keep b o (hb1 b o hb e)) hT9 (fun p hp => ⟨(N11 p (.tail _ (.tail _ hp))).1, ?_⟩) ⟨_, t9, tr, rfl, ?_, by rw [e1, e2]; exact (N11 _ (.head _)).1⟩
    · rcases ha9 p hp with q | q
      · obtain ⟨r, hr, e⟩ := List.mem_map.mp q
        rcases ha3 r hr with q | q
        · exact .inl (e ▸ q)
        · exact .inr (e ▸ (Nat.le_trans (Nat.le_of_lt (hL ▸ hLz)) q))
      · exact .inr (Nat.le_trans (Nat.le_of_lt (hL ▸ hLz8)) q)
    · exact hL ▸ Nat.le_of_lt (Nat.lt_trans hLD (Nat.lt_trans lq.1 (by exact l11.1)))

theorem notdiv_arith (a b : Int) (hb : 0 < b) : Builtin.bitNot ((Builtin.bitNot a).fdiv b) = a.fdiv b ∧ b + Builtin.bitNot ((Builtin.bitNot a).fmod b) = a.fmod b := by
  have h1 := Int.mul_ediv_add_emod (-a - 1) b
  have h2 := Int.emod_nonneg (-a - 1) (show b ≠ 0 by omega)
  have h3 := Int.emod_lt_of_pos (-a - 1) hb
  show -((-a - 1).fdiv b) - 1 = _ ∧ b + (-((-a - 1).fmod b) - 1) = _
  rw [Int.fdiv_eq_ediv_of_nonneg (-a - 1) (Int.le_of_lt hb), Int.fmod_eq_emod_of_nonneg (-a - 1) (Int.le_of_lt hb)]
  obtain ⟨e1, e2⟩ := fdiv_fmod_of (a := a) (b := b) (q := -((-a - 1) / b) - 1) (r := b + (-((-a - 1) % b) - 1)) (by grind) (by omega) (by omega)
  exact ⟨e1.symm, e2.symm⟩
set_option maxHeartbeats 4000000 in
theorem intdivmod_nonneg (w : World) (a b : Int) (ta tb : Tok) (ha : 0 ≤ a) (ha2 : a < 2 ^ 200) (hb : 0 < b) (hb2 : b < 1073741824) :
    PureT w 80 270 2400 [.int a ta, .int b tb] (fun _ => True)
      (fun z v h => ∃ T t1 t2, v = .ref T ∧ z ≤ T ∧ h.get? T = some { cls := .type "tuple", data := .seq #[.int (a.fdiv b) t1, .int (a.fmod b) t2] }) := by
  unfold PureT; k_fill; intro loose mean mg mb A s Q E g tl hA hdp hu XK T hg hsz hT hN _ hret
  obtain ⟨g', hg1, hsz1, hN1, X1, T1, hb1⟩ := hide_ground hg hN XK T
  refine wpAny_call ?_
  have XS := X1.keeps hg1
  have ho := XS 80 _ (by k_is)
  refine' enterG (binds := [("a", .int a ta), ("b", .int b tb)]) hg1 hsz1 hN1 T1 ho rfl (codeRec_of XS ?k7) ?k8 ?k9 ?kB ?_ ?c2 ?c3 ?c4 ?c5
  case k7 => k_is
  case k8 => omega
  case k9 => exact BindsTo.of_eq rfl
  case kB => exact locs rfl
  case c2 => exact rfl
  case c3 => exact rfl
  case c4 => exact rfl
  case c5 => decide
  intro L h₁ hL hk₁ F N
  (try dsimp only)
  k_unmd
  (try k_fold)
  clear hg hN XK T hsz ho XS
  (repeat' (first | (k_unfold; (try dsimp only)) | ((with_reducible refine isWp ?_); (fail_if_success (with_reducible first | refine halt 0 (by constructor) ?_)); (first | (walk1; (try dsimp only)) | (dsimp only; walk1))) | ((with_reducible show _ ∧ wpAny _ _ _ _ _ _); (refine And.intro (by first | k_in | exact FnAt_fr (by k_asm) (by assumption) | exact FnAt.of (by k_asm) (by k_mem)) ?_)) | ((fail_if_success (with_reducible refine isWp ?_)); dsimp only)))
  rw [if_neg (by simp; omega)]
  (repeat' (first | (k_unfold; (try dsimp only)) | ((with_reducible refine isWp ?_); (fail_if_success (with_reducible first | refine halt 0 (by constructor) ?_)); (first | (walk1; (try dsimp only)) | (dsimp only; walk1))) | ((with_reducible show _ ∧ wpAny _ _ _ _ _ _); (refine And.intro (by first | k_in | exact FnAt_fr (by k_asm) (by assumption) | exact FnAt.of (by k_asm) (by k_mem)) ?_)) | ((fail_if_success (with_reducible refine isWp ?_)); dsimp only)))
  rw [if_neg (by simp; omega)]
  (repeat' (first | (k_unfold; (try dsimp only)) | ((with_reducible refine isWp ?_); (fail_if_success (with_reducible first | refine halt 0 (by constructor) ?_)); (first | (walk1; (try dsimp only)) | (dsimp only; walk1))) | ((with_reducible show _ ∧ wpAny _ _ _ _ _ _); (refine And.intro (by first | k_in | exact FnAt_fr (by k_asm) (by assumption) | exact FnAt.of (by k_asm) (by k_mem)) ?_)) | ((fail_if_success (with_reducible refine isWp ?_)); dsimp only)))
  rw [if_neg (by simp; omega)]
  (repeat' (first | (k_unfold; (try dsimp only)) | ((with_reducible refine isWp ?_); (fail_if_success (with_reducible first | refine halt 0 (by constructor) ?_)); (first | (walk1; (try dsimp only)) | (dsimp only; walk1))) | ((with_reducible show _ ∧ wpAny _ _ _ _ _ _); (refine And.intro (by first | k_in | exact FnAt_fr (by k_asm) (by assumption) | exact FnAt.of (by k_asm) (by k_mem)) ?_)) | ((fail_if_success (with_reducible refine isWp ?_)); dsimp only)))
  rename Fr _ _ _ _ => F2
  rename News _ _ _ _ => N2
  have hLz := F2.ns.lt
  refine (divmodpos_ok w a b ta tb ha ha2 hb hb2).use (news := []) hA (by show A.depth + 1 + _ < _; exact room2 ‹_› (by with_unfolding_all exact rfl)) (by show A.units + 3 + _ < _; exact room2 ‹_› (by with_unfolding_all exact rfl)) X1 T1 F2 (by rw [List.append_nil]; exact N2) hT (fun _ h => nomatch h) trivial ?_
  rintro _ h3 tk3 tl3 F3 N3 hT3 _ hk3 ha3 ⟨T, t1, t2, rfl, hzT, hTg⟩
  rw [List.append_nil] at N3
  dsimp only
  (repeat' (first | (k_unfold; (try dsimp only)) | ((with_reducible refine isWp ?_); (fail_if_success (with_reducible first | refine halt 0 (by constructor) ?_)); (first | (walk1; (try dsimp only)) | (dsimp only; walk1))) | ((with_reducible show _ ∧ wpAny _ _ _ _ _ _); (refine And.intro (by first | k_in | exact FnAt_fr (by k_asm) (by assumption) | exact FnAt.of (by k_asm) (by k_mem)) ?_)) | ((fail_if_success (with_reducible refine isWp ?_)); dsimp only)))
  refine hret _ _ _ tl3 (fun b o hb e => F3.keep b o (hb1 b o hb e)) hT3 (fun p hp => ⟨(N3 p hp).1, (ha3 p hp).imp id fun q => Nat.le_trans (Nat.le_of_lt (hL ▸ hLz)) q⟩) ⟨T, t1, t2, rfl, Nat.le_trans (Nat.le_of_lt (hL ▸ hLz)) hzT, hTg⟩
set_option maxHeartbeats 4000000 in
theorem intdivmod_neg (w : World) (a b : Int) (ta tb : Tok) (ha : a < 0) (ha2 : -2 ^ 200 ≤ a) (hb : 0 < b) (hb2 : b < 1073741824) :
    PureT w 80 280 2500 [.int a ta, .int b tb] (fun _ => True)
      (fun z v h => ∃ T t1 t2, v = .ref T ∧ z ≤ T ∧ h.get? T = some { cls := .type "tuple", data := .seq #[.int (a.fdiv b) t1, .int (a.fmod b) t2] }) := by
  unfold PureT; k_fill; intro loose mean mg mb A s Q E g tl hA hdp hu XK T hg hsz hT hN _ hret
  obtain ⟨g', hg1, hsz1, hN1, X1, T1, hb1⟩ := hide_ground hg hN XK T
  refine wpAny_call ?_
  have XS := X1.keeps hg1
  have ho := XS 80 _ (by k_is)
  refine' enterG (binds := [("a", .int a ta), ("b", .int b tb)]) hg1 hsz1 hN1 T1 ho rfl (codeRec_of XS ?k7) ?k8 ?k9 ?kB ?_ ?c2 ?c3 ?c4 ?c5
  case k7 => k_is
  case k8 => omega
  case k9 => exact BindsTo.of_eq rfl
  case kB => exact locs rfl
  case c2 => exact rfl
  case c3 => exact rfl
  case c4 => exact rfl
  case c5 => decide
  intro L h₁ hL hk₁ F N
  (try dsimp only)
  k_unmd
  (try k_fold)
  clear hg hN XK T hsz ho XS
  (repeat' (first | (k_unfold; (try dsimp only)) | ((with_reducible refine isWp ?_); (fail_if_success (with_reducible first | refine halt 0 (by constructor) ?_)); (first | (walk1; (try dsimp only)) | (dsimp only; walk1))) | ((with_reducible show _ ∧ wpAny _ _ _ _ _ _); (refine And.intro (by first | k_in | exact FnAt_fr (by k_asm) (by assumption) | exact FnAt.of (by k_asm) (by k_mem)) ?_)) | ((fail_if_success (with_reducible refine isWp ?_)); dsimp only)))
  rw [if_neg (by simp; omega)]
  (repeat' (first | (k_unfold; (try dsimp only)) | ((with_reducible refine isWp ?_); (fail_if_success (with_reducible first | refine halt 0 (by constructor) ?_)); (first | (walk1; (try dsimp only)) | (dsimp only; walk1))) | ((with_reducible show _ ∧ wpAny _ _ _ _ _ _); (refine And.intro (by first | k_in | exact FnAt_fr (by k_asm) (by assumption) | exact FnAt.of (by k_asm) (by k_mem)) ?_)) | ((fail_if_success (with_reducible refine isWp ?_)); dsimp only)))
  rw [if_neg (by simp; omega)]
  (repeat' (first | (k_unfold; (try dsimp only)) | ((with_reducible refine isWp ?_); (fail_if_success (with_reducible first | refine halt 0 (by constructor) ?_)); (first | (walk1; (try dsimp only)) | (dsimp only; walk1))) | ((with_reducible show _ ∧ wpAny _ _ _ _ _ _); (refine And.intro (by first | k_in | exact FnAt_fr (by k_asm) (by assumption) | exact FnAt.of (by k_asm) (by k_mem)) ?_)) | ((fail_if_success (with_reducible refine isWp ?_)); dsimp only)))
  rw [if_pos (by simp; omega)]
  (repeat' (first | (k_unfold; (try dsimp only)) | ((with_reducible refine isWp ?_); (fail_if_success (with_reducible first | refine halt 0 (by constructor) ?_)); (first | (walk1; (try dsimp only)) | (dsimp only; walk1))) | ((with_reducible show _ ∧ wpAny _ _ _ _ _ _); (refine And.intro (by first | k_in | exact FnAt_fr (by k_asm) (by assumption) | exact FnAt.of (by k_asm) (by k_mem)) ?_)) | ((fail_if_success (with_reducible refine isWp ?_)); dsimp only)))
  rename Fr _ _ _ _ => F2
  rename News _ _ _ _ => N2
  have hLz := F2.ns.lt
  have hna : Builtin.bitNot a = -a - 1 := rfl
  refine (intdivmod_nonneg w (Builtin.bitNot a) b _ tb (by rw [hna]; omega) (by rw [hna]; omega) hb hb2).use (news := []) hA (by show A.depth + 1 + _ < _; exact room2 ‹_› (by with_unfolding_all exact rfl)) (by show A.units + 3 + _ < _; exact room2 ‹_› (by with_unfolding_all exact rfl)) X1 T1 F2 (by rw [List.append_nil]; exact N2) hT (fun _ h => nomatch h) trivial ?_
  rintro _ h3 tk3 tl3 F3 N3 hT3 _ hk3 ha3 ⟨T, t1, t2, rfl, hzT, hTg⟩
  rw [List.append_nil] at N3
  replace N3 := news_cons (p := (T, _)) (fresh_news F2 hzT hTg) N3
  dsimp only
  (repeat' (first | (k_unfold; (try dsimp only)) | ((with_reducible refine isWp ?_); (fail_if_success (with_reducible first | refine halt 0 (by constructor) ?_)); (first | (walk1; (try dsimp only)) | (dsimp only; walk1))) | ((with_reducible show _ ∧ wpAny _ _ _ _ _ _); (refine And.intro (by first | k_in | exact FnAt_fr (by k_asm) (by assumption) | exact FnAt.of (by k_asm) (by k_mem)) ?_)) | ((fail_if_success (with_reducible refine isWp ?_)); dsimp only)))
  rename Fr _ _ _ _ => F4
  rename News _ _ _ _ => N4
  rename_i l4
  have hq := notdiv_arith a b hb
  have z := (N4 _ (.head _)).1
  rw [hq.1, hq.2] at z
  exact hret _ _ _ tl3 (fun b o hb e => F4.keep b o (hb1 b o hb e)) hT3 (fun p hp => ⟨(N4 p (.tail _ (.tail _ hp))).1, (ha3 p hp).imp id fun q => Nat.le_trans (Nat.le_of_lt (hL ▸ hLz)) q⟩) ⟨_, _, _, rfl, Nat.le_trans (Nat.le_trans (Nat.le_of_lt (hL ▸ hLz)) hzT) (Nat.le_of_lt l4.1), z⟩
theorem intdivmod_ok (w : World) (a b : Int) (ta tb : Tok) (ha1 : -2 ^ 200 ≤ a) (ha2 : a < 2 ^ 200) (hb : 0 < b) (hb2 : b < 1073741824) :
    PureT w 80 280 2500 [.int a ta, .int b tb] (fun _ => True)
      (fun z v h => ∃ T t1 t2, v = .ref T ∧ z ≤ T ∧ h.get? T = some { cls := .type "tuple", data := .seq #[.int (a.fdiv b) t1, .int (a.fmod b) t2] }) := by
  by_cases ha : a < 0
  · exact intdivmod_neg w a b ta tb ha ha1 hb hb2
  · intro loose mean mg mb A s Q E g tl hA hdp hu
    exact intdivmod_nonneg w a b ta tb (by omega) ha2 hb hb2 loose mean mg mb A s Q E g tl hA (by omega) (by omega)

theorem runFor_done {m : Sre.M} (h : m.outcome.isSome = true) : ∀ n, Sre.M.runFor n m = m
  | 0 => rfl
  | n + 1 => by unfold Sre.M.runFor; rw [if_pos h]
theorem runFor_step {m : Sre.M} (h : m.outcome.isSome = false) (n : Nat) : Sre.M.runFor (n + 1) m = Sre.M.runFor n m.step := by
  rw [Sre.M.runFor, h]; rfl
theorem runFor_add : ∀ (a b : Nat) (m : Sre.M), Sre.M.runFor (a + b) m = Sre.M.runFor b (Sre.M.runFor a m)
  | 0, b, m => by rw [Nat.zero_add]; rfl
  | a + 1, b, m => by
    cases h : m.outcome.isSome with
    | true => rw [runFor_done h, runFor_done h, runFor_done h]
    | false => rw [Nat.succ_add, runFor_step h, runFor_step h, runFor_add a b]
/-- f comes to g in at most n steps, whatever has been seen -/
def Gets (n : Nat) (f g : Sre.Seen → Sre.M) : Prop := ∀ sn, ∃ k sn', k ≤ n ∧ Sre.M.runFor k (f sn) = g sn'
theorem Gets.trans {a b : Nat} {f g h : Sre.Seen → Sre.M} (x : Gets a f g) (y : Gets b g h) : Gets (a + b) f h := fun sn => by
  obtain ⟨k, sn', hk, e⟩ := x sn; obtain ⟨l, sn'', hl, e'⟩ := y sn'
  exact ⟨k + l, sn'', by omega, by rw [runFor_add, e, e']⟩
theorem Gets.mono {a b : Nat} {f g : Sre.Seen → Sre.M} (x : Gets a f g) (hab : a ≤ b) : Gets b f g := fun sn => let ⟨k, sn', hk, e⟩ := x sn; ⟨k, sn', Nat.le_trans hk hab, e⟩
theorem Gets.step {f g : Sre.Seen → Sre.M} (h : ∀ sn, (f sn).outcome.isSome = false) (e : ∀ sn, ∃ sn', (f sn).step = g sn') : Gets 1 f g := fun sn => let ⟨sn', e⟩ := e sn; ⟨1, sn', Nat.le_refl _, by rw [runFor_step (h sn), e]; rfl⟩

noncomputable def mm (code text : Array Nat) (lim p handed pc pos : Nat) (om : Bool) (frames : List Sre.Frame) (wt : Nat) (ans : Option Bool) (sn : Sre.Seen) : Sre.M :=
  { code, text, lim, start := p, lastStart := lim, pc, pos, handed, outermost := om, marks := #[], frames, weight := wt, answer := ans, seen := sn }
section
variable {code text : Array Nat} {lim p handed pc pos wt : Nat} {om : Bool} {frames : List Sre.Frame}
theorem lit_yes (hpc : pc < code.size) (ho : code.getD (pc + 0) 0 = 16) (hl : pos < lim) (hc : text.getD pos 0 = code.getD (pc + 1) 0) :
    Gets 1 (mm code text lim p handed pc pos om frames wt none) (mm code text lim p handed (pc + 2) (pos + 1) om frames wt none) := by
  refine Gets.step (fun _ => rfl) fun sn => ?_
  show ∃ sn', (if pc < code.size then Sre.M.exec (mm code text lim p handed pc pos om frames wt none sn) else _) = _
  rw [if_pos hpc]
  have hw : (mm code text lim p handed pc pos om frames wt none sn).word 0 = 16 := ho
  unfold Sre.M.exec
  rw [hw]
  show ∃ sn', (if pos ≥ lim then _ else _) = _
  rw [if_neg (Nat.not_le.mpr hl)]
  unfold Sre.accepts Sre.itemWidth mm
  dsimp only
  rw [show code.getD pc 0 = 16 from ho]
  rw [hc]
  dsimp only [Sre.ops]
  rw [show (code.getD (pc + 1) 0 == code.getD (pc + 1) 0) = true from beq_self_eq_true _]
  exact ⟨_, rfl⟩
theorem lit_no (hpc : pc < code.size) (ho : code.getD (pc + 0) 0 = 16) (hc : pos < lim → text.getD pos 0 ≠ code.getD (pc + 1) 0) :
    Gets 1 (mm code text lim p handed pc pos om frames wt none) (mm code text lim p handed pc pos om frames wt (some false)) := by
  refine Gets.step (fun _ => rfl) fun sn => ?_
  show ∃ sn', (if pc < code.size then Sre.M.exec (mm code text lim p handed pc pos om frames wt none sn) else _) = _
  rw [if_pos hpc]
  have hw : (mm code text lim p handed pc pos om frames wt none sn).word 0 = 16 := ho
  unfold Sre.M.exec
  rw [hw]
  show ∃ sn', (if pos ≥ lim then _ else _) = _
  by_cases hl : pos < lim
  · rw [if_neg (Nat.not_le.mpr hl)]
    unfold Sre.accepts mm
    dsimp only
    rw [show code.getD pc 0 = 16 from ho]
    dsimp only [Sre.ops]
    have hc' : (text.getD pos 0 == code.getD (pc + 1) 0) = false := by simpa using hc hl
    rw [hc']
    exact ⟨_, rfl⟩
  · rw [if_pos (Nat.not_lt.mp hl)]
    exact ⟨_, rfl⟩
theorem jump_ok (hpc : pc < code.size) (ho : code.getD (pc + 0) 0 = 15) :
    Gets 1 (mm code text lim p handed pc pos om frames wt none) (mm code text lim p handed (pc + 1 + code.getD (pc + 1) 0) pos om frames wt none) := by
  refine Gets.step (fun _ => rfl) fun sn => ?_
  show ∃ sn', (if pc < code.size then Sre.M.exec (mm code text lim p handed pc pos om frames wt none sn) else _) = _
  rw [if_pos hpc]
  have hw : (mm code text lim p handed pc pos om frames wt none sn).word 0 = 15 := ho
  unfold Sre.M.exec
  rw [hw]
  exact ⟨_, rfl⟩
theorem success_ok (hpc : pc < code.size) (ho : code.getD (pc + 0) 0 = 1) :
    Gets 1 (mm code text lim p handed pc pos om frames wt none) (mm code text lim p pos pc pos om frames wt (some true)) := by
  refine Gets.step (fun _ => rfl) fun sn => ?_
  show ∃ sn', (if pc < code.size then Sre.M.exec (mm code text lim p handed pc pos om frames wt none sn) else _) = _
  rw [if_pos hpc]
  have hw : (mm code text lim p handed pc pos om frames wt none sn).word 0 = 1 := ho
  unfold Sre.M.exec
  rw [hw]
  cases om <;> exact ⟨_, rfl⟩
/-- what the end says -/
def Ends (m : Sre.M) (n : Nat) : Option (Nat × Nat) → Prop
  | some (b, e) => ∃ k, k ≤ n ∧ (Sre.M.runFor k m).outcome = some .matched ∧ (Sre.M.runFor k m).start = b ∧ (Sre.M.runFor k m).handed = e
  | none => ∃ k, k ≤ n ∧ (Sre.M.runFor k m).outcome = some .failed
theorem Gets.ends {a b : Nat} {f g : Sre.Seen → Sre.M} {r : Option (Nat × Nat)} (x : Gets a f g) (y : ∀ sn, Ends (g sn) b r) (sn : Sre.Seen) : Ends (f sn) (a + b) r := by
  obtain ⟨k, sn', hk, e⟩ := x sn
  cases r with
  | none => obtain ⟨l, hl, h⟩ := y sn'; exact ⟨k + l, by omega, by rw [runFor_add, e]; exact h⟩
  | some r => obtain ⟨l, hl, h⟩ := y sn'; exact ⟨k + l, by omega, by rw [runFor_add, e]; exact h⟩
noncomputable def fr0 (p pc : Nat) (om : Bool) : Sre.Frame := { wait := .nextStart, pc, pos := p, outermost := om }
theorem hit_end (p0 pc0 : Nat) (om0 : Bool) (sn : Sre.Seen) : Ends (mm code text lim p handed pc pos om [fr0 p0 pc0 om0] 1 (some true) sn) 2 (some (p, handed)) := ⟨2, by decide, rfl, rfl, rfl⟩
theorem miss_end (p0 pc0 : Nat) (om0 : Bool) (h : ¬ p0 < lim) (sn : Sre.Seen) : Ends (mm code text lim p handed pc pos om [fr0 p0 pc0 om0] 1 (some false) sn) 2 none := by
  refine ⟨2, by decide, ?_⟩
  show (Sre.M.runFor 1 (if p0 < lim then _ else _)).outcome = _
  rw [if_neg h]; rfl
end

/-- the code of (?m)^\. -/
noncomputable def code1 : Array Nat := #[14, 4, 0, 1, 1, 6, 1, 16, 46, 1]
section
variable {text : Array Nat} {lim p handed : Nat} {om : Bool}
/-- at the place p the search of code1 starts -/
noncomputable def at1 (text : Array Nat) (lim p : Nat) (om : Bool) : Sre.Seen → Sre.M := mm code1 text lim p p 5 p om [fr0 p 5 om] 1 none
noncomputable def hit1 (text : Array Nat) (p : Nat) : Bool := (p == 0 || text.getD (p - 1) 0 == 10) && text.getD p 0 == 46
theorem at1_bol (h : (p == 0 || text.getD (p - 1) 0 == 10) = true) : Gets 1 (at1 text lim p om) (mm code1 text lim p p 7 p om [fr0 p 5 om] 1 none) := by
  refine Gets.step (fun _ => rfl) fun sn => ?_
  have e : ∃ sn', (at1 text lim p om sn).step = if (p == 0 || text.getD (p - 1) 0 == 10) = true then mm code1 text lim p p 7 p om [fr0 p 5 om] 1 none sn' else mm code1 text lim p p 5 p om [fr0 p 5 om] 1 (some false) sn' := ⟨_, rfl⟩
  obtain ⟨sn', e⟩ := e; exact ⟨sn', e.trans (if_pos h)⟩
theorem at1_nobol (h : ¬ (p == 0 || text.getD (p - 1) 0 == 10) = true) : Gets 1 (at1 text lim p om) (mm code1 text lim p p 5 p om [fr0 p 5 om] 1 (some false)) := by
  refine Gets.step (fun _ => rfl) fun sn => ?_
  have e : ∃ sn', (at1 text lim p om sn).step = if (p == 0 || text.getD (p - 1) 0 == 10) = true then mm code1 text lim p p 7 p om [fr0 p 5 om] 1 none sn' else mm code1 text lim p p 5 p om [fr0 p 5 om] 1 (some false) sn' := ⟨_, rfl⟩
  obtain ⟨sn', e⟩ := e; exact ⟨sn', e.trans (if_neg h)⟩
theorem at1_hit (h : hit1 text p = true) (hl : p < lim) (sn : Sre.Seen) : Ends (at1 text lim p om sn) 5 (some (p, p + 1)) := by
  unfold hit1 at h
  rw [Bool.and_eq_true] at h
  exact (((at1_bol h.1).trans (lit_yes (by decide) rfl hl (by simpa [code1] using h.2))).trans (success_ok (by decide) rfl)).ends (hit_end p 5 om) sn
theorem at1_no (h : p < lim → hit1 text p = false) : ∃ pc, Gets 2 (at1 text lim p om) (mm code1 text lim p p pc p om [fr0 p 5 om] 1 (some false)) := by
  by_cases hb : (p == 0 || text.getD (p - 1) 0 == 10) = true
  · refine ⟨7, (at1_bol hb).trans (lit_no (by decide) rfl fun hl => ?_)⟩
    have := h hl
    unfold hit1 at this
    rw [hb] at this
    simpa [code1] using this
  · exact ⟨5, (at1_nobol hb).mono (by decide)⟩
theorem at1_next {pc : Nat} (hl : p < lim) : Gets 1 (mm code1 text lim p handed pc p om [fr0 p 5 om] 1 (some false)) (at1 text lim (p + 1) false) := by
  refine Gets.step (fun _ => rfl) fun sn => ?_
  have e : ∃ sn', (mm code1 text lim p handed pc p om [fr0 p 5 om] 1 (some false) sn).step = if p < lim then at1 text lim (p + 1) false sn' else (mm code1 text lim p handed 5 p om [] 0 (some false) sn') := ⟨_, rfl⟩
  obtain ⟨sn', e⟩ := e; exact ⟨sn', e.trans (if_pos hl)⟩
end
section
variable {text : Array Nat} {lim : Nat}
theorem ends_mono {m : Sre.M} {a b : Nat} (hab : a ≤ b) : ∀ {r : Option (Nat × Nat)}, Ends m a r → Ends m b r
  | none, ⟨k, hk, h⟩ => ⟨k, Nat.le_trans hk hab, h⟩
  | some _, ⟨k, hk, h⟩ => ⟨k, Nat.le_trans hk hab, h⟩
theorem find1_some {b : Nat} (hb : b < lim) (hh : hit1 text b = true) : ∀ (n s : Nat) (om : Bool) (sn : Sre.Seen), b = s + n → (∀ q, s ≤ q → q < b → hit1 text q = false) → Ends (at1 text lim s om sn) (3 * n + 5) (some (b, b + 1))
  | 0, s, om, sn, e, _ => by
    obtain rfl : b = s := e
    exact at1_hit hh hb sn
  | n + 1, s, om, sn, e, h => by
    obtain ⟨pc, g⟩ := at1_no (text := text) (lim := lim) (p := s) (om := om) fun _ => h s (Nat.le_refl _) (by omega)
    exact ends_mono (by omega) ((g.trans (at1_next (by omega))).ends (fun sn' => find1_some hb hh n (s + 1) false sn' (by omega) fun q h1 h2 => h q (by omega) h2) sn)
theorem find1_none : ∀ (n s : Nat) (om : Bool) (sn : Sre.Seen), lim = s + n → (∀ q, s ≤ q → q < lim → hit1 text q = false) → Ends (at1 text lim s om sn) (3 * n + 5) none
  | 0, s, om, sn, e, _ => by
    obtain ⟨pc, g⟩ := at1_no (text := text) (lim := lim) (p := s) (om := om) fun h => absurd h (by omega)
    exact ends_mono (by omega) (g.ends (miss_end s 5 om (by omega)) sn)
  | n + 1, s, om, sn, e, h => by
    obtain ⟨pc, g⟩ := at1_no (text := text) (lim := lim) (p := s) (om := om) fun _ => h s (Nat.le_refl _) (by omega)
    exact ends_mono (by omega) ((g.trans (at1_next (by omega))).ends (fun sn' => find1_none n (s + 1) false sn' (by omega) fun q h1 h2 => h q (by omega) h2) sn)

/-- a search by the code finds the first place where hit holds -/
def Searches (code text : Array Nat) (hit : Nat → Option Nat) : Prop :=
  (∀ b e, hit b = some e → b < e ∧ e ≤ text.size) ∧
  (∀ s, (∀ q, s ≤ q → q < text.size → hit q = none) → Ends (Sre.forSearch code text 0 s text.size false) 2000 none) ∧
  ∀ s b e, s ≤ b → (∀ q, s ≤ q → q < b → hit q = none) → hit b = some e → Ends (Sre.forSearch code text 0 s text.size false) 2000 (some (b, e))
theorem search_end {code text : Array Nat} {s : Nat} (hc : (Sre.header code).1 = 1) (hs : text.size ≤ s) : Ends (Sre.forSearch code text 0 s text.size false) 2000 none := by
  unfold Sre.forSearch
  dsimp only
  rw [hc, if_pos (by simp; omega)]
  exact ⟨1, by decide, rfl⟩
noncomputable def hitA (text : Array Nat) (p : Nat) : Option Nat := if p < text.size ∧ hit1 text p = true then some (p + 1) else none
theorem hitA_some {text : Array Nat} {b e : Nat} (h : hitA text b = some e) : b < text.size ∧ hit1 text b = true ∧ e = b + 1 := by
  unfold hitA at h
  split at h
  · rename_i x; exact ⟨x.1, x.2, (Option.some.inj h).symm⟩
  · cases h
theorem hitA_none {text : Array Nat} {b : Nat} (h : hitA text b = none) (hb : b < text.size) : hit1 text b = false := by
  unfold hitA at h
  split at h
  · cases h
  · rename_i x
    cases e : hit1 text b with
    | false => rfl
    | true => exact absurd ⟨hb, e⟩ x
theorem search1 (text : Array Nat) (hz : text.size ≤ 300) : Searches code1 text (hitA text) := by
  have start : ∀ s, s < text.size → ∃ sn, Sre.forSearch code1 text 0 s text.size false = at1 text text.size s true sn := fun s hs => by
    have e : ∃ sn, Sre.forSearch code1 text 0 s text.size false = if (decide (s > text.size) || decide (text.size - s < 1)) = true then _ else at1 text text.size s true sn := ⟨_, rfl⟩
    obtain ⟨sn, e⟩ := e
    exact ⟨sn, e.trans (if_neg (by simp; omega))⟩
  refine ⟨fun b e h => ?_, fun s h => ?_, fun s b e hsb h hb => ?_⟩
  · obtain ⟨h1, _, rfl⟩ := hitA_some h; omega
  · by_cases hs : s < text.size
    · obtain ⟨sn, e⟩ := start s hs
      rw [e]
      exact ends_mono (by omega) (find1_none (text.size - s) s true sn (by omega) fun q h1 h2 => hitA_none (h q h1 h2) h2)
    · exact search_end rfl (by omega)
  · obtain ⟨h1, h2, rfl⟩ := hitA_some hb
    obtain ⟨sn, e⟩ := start s (by omega)
    rw [e]
    exact ends_mono (by omega) (find1_some h1 h2 (b - s) s true sn (by omega) fun q a c => hitA_none (h q a c) (by omega))
end

/-- the code of (?:\\r\\n|\\n|\\r(?!\\n)) -/
noncomputable def code2 : Array Nat := #[14, 9, 4, 1, 2, 16, 10, 16, 13, 0, 7, 7, 16, 13, 16, 10, 15, 18, 5, 16, 10, 15, 13, 11, 16, 13, 5, 5, 0, 16, 10, 1, 15, 2, 0, 1]
noncomputable def hitB (text : Array Nat) (p : Nat) : Option Nat :=
  if p < text.size ∧ text.getD p 0 = 13 then (if p + 1 < text.size ∧ text.getD (p + 1) 0 = 10 then some (p + 2) else some (p + 1))
  else if p < text.size ∧ text.getD p 0 = 10 then some (p + 1) else none
section
variable {text : Array Nat} {lim p handed pc pos : Nat} {om om' : Bool}
noncomputable def frB (p alt : Nat) (om : Bool) : Sre.Frame := { wait := .nextBranch, pc := alt, pos := p, outermost := om, kept := { lastmark := -1, lastindex := -1, whole := false, marks := #[] } }
noncomputable def frL (p : Nat) (om : Bool) : Sre.Frame := { wait := .lookNot, pc := 26, pos := p, outermost := om, kept := { lastmark := -1, lastindex := -1, whole := false, marks := #[] } }
noncomputable def at2 (text : Array Nat) (lim p : Nat) (om : Bool) : Sre.Seen → Sre.M := mm code2 text lim p p 10 p om [fr0 p 10 om] 1 none
theorem br1 : Gets 1 (at2 text lim p om) (mm code2 text lim p p 12 p om [frB p 11 om, fr0 p 10 om] 2 none) := Gets.step (fun _ => rfl) fun _ => ⟨_, rfl⟩
theorem br2 : Gets 1 (mm code2 text lim p handed pc pos om' [frB p 11 om, fr0 p 10 om] 2 (some false)) (mm code2 text lim p p 19 p om [frB p 18 om, fr0 p 10 om] 2 none) := Gets.step (fun _ => rfl) fun _ => ⟨_, rfl⟩
theorem br3 : Gets 1 (mm code2 text lim p handed pc pos om' [frB p 18 om, fr0 p 10 om] 2 (some false)) (mm code2 text lim p p 24 p om [frB p 23 om, fr0 p 10 om] 2 none) := Gets.step (fun _ => rfl) fun _ => ⟨_, rfl⟩
theorem brYes {alt : Nat} : Gets 1 (mm code2 text lim p handed pc pos om' [frB p alt om, fr0 p 10 om] 2 (some true)) (mm code2 text lim p handed alt p om [fr0 p 10 om] 1 (some true)) := Gets.step (fun _ => rfl) fun _ => ⟨_, rfl⟩
theorem look1 : Gets 1 (mm code2 text lim p handed 26 (p + 1) om [frB p 23 om, fr0 p 10 om] 2 none) (mm code2 text lim p (p + 1) 29 (p + 1) false [frL (p + 1) om, frB p 23 om, fr0 p 10 om] 3 none) := Gets.step (fun _ => rfl) fun _ => ⟨_, rfl⟩
theorem lookNo : Gets 1 (mm code2 text lim p handed pc pos om' [frL (p + 1) om, frB p 23 om, fr0 p 10 om] 3 (some false)) (mm code2 text lim p handed 32 (p + 1) om [frB p 23 om, fr0 p 10 om] 2 none) := Gets.step (fun _ => rfl) fun _ => ⟨_, rfl⟩
theorem jumpEnd {alt q : Nat} (hpc : pc < code2.size) (ho : code2.getD (pc + 0) 0 = 15) (hj : pc + 1 + code2.getD (pc + 1) 0 = 35) (sn : Sre.Seen) : Ends (mm code2 text lim p handed pc q om [frB p alt om, fr0 p 10 om] 2 none sn) 5 (some (p, q)) := by
  have j := jump_ok (code := code2) (text := text) (lim := lim) (p := p) (handed := handed) (pos := q) (om := om) (frames := [frB p alt om, fr0 p 10 om]) (wt := 2) hpc ho
  rw [hj] at j
  exact ((j.trans (success_ok (by decide) rfl)).trans brYes).ends (hit_end p 10 om) sn
theorem at2_crlf (h0 : text.getD p 0 = 13) (hl : p < lim) (h1 : text.getD (p + 1) 0 = 10) (hl1 : p + 1 < lim) (sn : Sre.Seen) : Ends (at2 text lim p om sn) 20 (some (p, p + 2)) :=
  ends_mono (by decide) (((br1.trans (lit_yes (by decide) rfl hl h0)).trans (lit_yes (by decide) rfl hl1 h1)).ends (jumpEnd (by decide) rfl rfl) sn)
theorem at2_lf (h0 : text.getD p 0 = 10) (hl : p < lim) (sn : Sre.Seen) : Ends (at2 text lim p om sn) 20 (some (p, p + 1)) :=
  ends_mono (by decide) ((((br1.trans (lit_no (by decide) rfl fun _ => by rw [h0]; decide)).trans br2).trans (lit_yes (by decide) rfl hl h0)).ends (jumpEnd (by decide) rfl rfl) sn)
theorem at2_cr (h0 : text.getD p 0 = 13) (hl : p < lim) (h1 : p + 1 < lim → text.getD (p + 1) 0 ≠ 10) (sn : Sre.Seen) : Ends (at2 text lim p om sn) 20 (some (p, p + 1)) :=
  ends_mono (by decide) ((((((((((br1.trans (lit_yes (by decide) rfl hl h0)).trans (lit_no (by decide) rfl h1)).trans br2).trans (lit_no (by decide) rfl fun _ => by rw [h0]; decide)).trans br3).trans (lit_yes (by decide) rfl hl h0)).trans look1).trans
    (lit_no (by decide) rfl h1)).trans lookNo).ends (jumpEnd (by decide) rfl rfl) sn)
end
theorem inSet2 (c : Nat) (sn : Sre.Seen) : ∃ sn', Sre.inSet code2 c 36 5 true sn = .ok ((c == 10) || (c == 13), sn') := by
  have e : ∃ a b d, Sre.inSet code2 c 36 5 true sn = if (c == 10) = true then .ok (true, a) else if (c == 13) = true then .ok (true, b) else .ok (false, d) := ⟨_, _, _, rfl⟩
  obtain ⟨a, b, d, e⟩ := e
  rw [e]
  cases (c == 10) with
  | true => exact ⟨_, rfl⟩
  | false => cases (c == 13) with
    | true => exact ⟨_, rfl⟩
    | false => exact ⟨_, rfl⟩
theorem admitted_some {m : Sre.M} {b : Nat} (hc : m.code = code2) (hb : b < m.lim) (hh : ((m.text.getD b 0 == 10) || (m.text.getD b 0 == 13)) = true) :
    ∀ (n s fuel : Nat) (sn : Sre.Seen), b = s + n → n < fuel → (∀ q, s ≤ q → q < b → ((m.text.getD q 0 == 10) || (m.text.getD q 0 == 13)) = false) → ∃ sn', Sre.M.admitted m fuel s sn = .ok (some b, sn')
  | n, s, 0, sn, e, hf, h => absurd hf (Nat.not_lt_zero _)
  | 0, s, fuel + 1, sn, e, hf, h => by
    obtain rfl : b = s := e
    unfold Sre.M.admitted
    rw [if_neg (Nat.not_le.mpr hb), hc]
    obtain ⟨sn', e'⟩ := inSet2 (m.text.getD b 0) sn
    rw [show code2.size = 36 from rfl, e', hh]
    exact ⟨_, rfl⟩
  | n + 1, s, fuel + 1, sn, e, hf, h => by
    unfold Sre.M.admitted
    rw [if_neg (Nat.not_le.mpr (by omega)), hc]
    obtain ⟨sn', e'⟩ := inSet2 (m.text.getD s 0) sn
    rw [show code2.size = 36 from rfl, e', h s (Nat.le_refl _) (by omega)]
    exact admitted_some hc hb hh n (s + 1) fuel sn' (by omega) (by omega) fun q h1 h2 => h q (by omega) h2
theorem admitted_none {m : Sre.M} (hc : m.code = code2) :
    ∀ (fuel s : Nat) (sn : Sre.Seen), (∀ q, s ≤ q → q < m.lim → ((m.text.getD q 0 == 10) || (m.text.getD q 0 == 13)) = false) → ∃ sn', Sre.M.admitted m fuel s sn = .ok (none, sn')
  | 0, s, sn, h => ⟨_, rfl⟩
  | fuel + 1, s, sn, h => by
    unfold Sre.M.admitted
    by_cases hs : s ≥ m.lim
    · rw [if_pos hs]; exact ⟨_, rfl⟩
    · rw [if_neg hs, hc]
      obtain ⟨sn', e'⟩ := inSet2 (m.text.getD s 0) sn
      rw [show code2.size = 36 from rfl, e', h s (Nat.le_refl _) (Nat.not_le.mp hs)]
      exact admitted_none hc fuel (s + 1) sn' fun q h1 h2 => h q (by omega) h2
theorem hitB_none {text : Array Nat} {q : Nat} (h : hitB text q = none) (hq : q < text.size) : ((text.getD q 0 == 10) || (text.getD q 0 == 13)) = false := by
  unfold hitB at h
  by_cases a : text.getD q 0 = 13
  · rw [if_pos ⟨hq, a⟩] at h; split at h <;> cases h
  · rw [if_neg (fun x => a x.2)] at h
    by_cases b : text.getD q 0 = 10
    · rw [if_pos ⟨hq, b⟩] at h; cases h
    · rw [Bool.or_eq_false_iff]; exact ⟨beq_false_of_ne b, beq_false_of_ne a⟩
theorem hitB_cases {text : Array Nat} {b e : Nat} (h : hitB text b = some e) : b < text.size ∧ ((text.getD b 0 = 13 ∧ b + 1 < text.size ∧ text.getD (b + 1) 0 = 10 ∧ e = b + 2) ∨
    (text.getD b 0 = 13 ∧ (b + 1 < text.size → text.getD (b + 1) 0 ≠ 10) ∧ e = b + 1) ∨ (text.getD b 0 = 10 ∧ e = b + 1)) := by
  unfold hitB at h
  by_cases a : b < text.size ∧ text.getD b 0 = 13
  · rw [if_pos a] at h
    by_cases c : b + 1 < text.size ∧ text.getD (b + 1) 0 = 10
    · rw [if_pos c] at h; exact ⟨a.1, .inl ⟨a.2, c.1, c.2, (Option.some.inj h).symm⟩⟩
    · rw [if_neg c] at h; exact ⟨a.1, .inr (.inl ⟨a.2, fun x y => c ⟨x, y⟩, (Option.some.inj h).symm⟩)⟩
  · rw [if_neg a] at h
    by_cases c : b < text.size ∧ text.getD b 0 = 10
    · rw [if_pos c] at h; exact ⟨c.1, .inr (.inr ⟨c.2, (Option.some.inj h).symm⟩)⟩
    · rw [if_neg c] at h; cases h
theorem search2 (text : Array Nat) (hz : text.size ≤ 300) : Searches code2 text (hitB text) := by
  have start : ∀ s, s < text.size → ∃ sn, ∃ m : Sre.M, m.code = code2 ∧ m.text = text ∧ m.lim = text.size ∧ (∀ p sn, p = p → ({ m with mustAdvance := false, seen := sn }.attemptAt p true) = at2 text text.size p true sn) ∧ (∀ sn, (Sre.M.runFor 1 ({ m with seen := sn }.say false)).outcome = some .failed) ∧
      Sre.forSearch code2 text 0 s text.size false = match Sre.M.admitted m (m.lim + 1 - s) s sn with | .ok (some s, seen) => { m with mustAdvance := false, seen }.attemptAt s true | .ok (none, seen) => { m with seen }.say false | .error why => m.stick why := fun s hs =>
    ⟨_, { code := code2, text, lim := text.size, start := s, pc := 10, pos := s, handed := s, marks := #[], lastStart := text.size, seen := _ }, rfl, rfl, rfl, fun _ _ _ => rfl, fun _ => rfl,
      if_neg (c := (decide (s > text.size) || decide (text.size - s < 1)) = true) (by simp; omega)⟩
  refine ⟨fun b e h => ?_, fun s h => ?_, fun s b e hsb h hb => ?_⟩
  · obtain ⟨h1, h2⟩ := hitB_cases h; omega
  · by_cases hs : s < text.size
    · obtain ⟨sn, m, h1, h2, h3, h4, h5, e⟩ := start s hs
      rw [e]
      obtain ⟨sn', e'⟩ := admitted_none h1 (m.lim + 1 - s) s sn fun q a c => by rw [h2]; exact hitB_none (h q a (h3 ▸ c)) (h3 ▸ c)
      rw [e']
      exact ⟨1, by decide, h5 sn'⟩
    · exact search_end rfl (by omega)
  · obtain ⟨hbl, hc⟩ := hitB_cases hb
    obtain ⟨sn, m, h1, h2, h3, h4, h5, e'⟩ := start s (by omega)
    rw [e']
    have hh : ((m.text.getD b 0 == 10) || (m.text.getD b 0 == 13)) = true := by
      rw [h2]
      rcases hc with c | c | c <;> rw [c.1] <;> decide
    obtain ⟨sn', e2⟩ := admitted_some h1 (h3 ▸ hbl) hh (b - s) s (m.lim + 1 - s) sn (by omega) (by rw [h3]; omega) fun q a c => by rw [h2]; exact hitB_none (h q a c) (by omega)
    rw [e2]
    show Ends ({ m with mustAdvance := false, seen := sn' }.attemptAt b true) 2000 _
    rw [h4 b sn' rfl]
    rcases hc with ⟨c1, c2, c3, rfl⟩ | ⟨c1, c2, rfl⟩ | ⟨c1, rfl⟩
    · exact ends_mono (by decide) (at2_crlf c1 hbl c3 c2 sn')
    · exact ends_mono (by decide) (at2_cr c1 hbl c2 sn')
    · exact ends_mono (by decide) (at2_lf c1 hbl sn')

theorem slot_sub : Slot "re.Pattern" "sub" "re.Pattern.sub" :=
  .of (owner := "re.Pattern") (n := "sub") (by rw [typeLookup_type, builtinLookup_eq_fast]; kernel_rfl) (by decide +kernel) (by decide +kernel) (by decide +kernel)
    (by first | exact .inl (by decide +kernel) | exact .inr (by decide +kernel)) (by rw [isSubtype_type]; kernel_rfl)
theorem type_sub : typeOf (.builtin "re.Pattern.sub") = pure (.type "method_descriptor") := by show builtinType _ = _; rw [builtinType_eq_fast]; kernel_rfl
theorem entry_sub : entryFor table "re.Pattern.sub" = some Builtin.«re.Pattern.sub» := entryFor_of_tree (by kernel_rfl)
theorem entry_loop : entryFor table "re.Pattern.sub.loop" = some Builtin.«re.Pattern.sub.loop» := entryFor_of_tree (by kernel_rfl)
theorem pat_getattribute : typeLookup (.type "re.Pattern") "__getattribute__" = pure (some (.builtin "object.__getattribute__")) := by rw [typeLookup_type, builtinLookup_eq_fast]; kernel_rfl
theorem pat_canon : (Manifest.canonical "object.__getattribute__" != "object.__getattribute__") = false := by decide +kernel
theorem pat_getattr : typeLookup (.type "re.Pattern") "__getattr__" = pure none := by rw [typeLookup_type, builtinLookup_eq_fast]; kernel_rfl
theorem owner_pat : Manifest.owners.lookup (String.ofList ['n', 'r', 'e', 't', 't', 'a', 'P', '.', 'e', 'r'].reverse) = some Manifest.sig_re_Pattern := by kernel_rfl
theorem args_sub (a b c : Value) : argsOk "re.Pattern.sub" ⟨[a, b, c], []⟩ := by
  unfold argsOk; rw [signature?_of (id := "re.Pattern.sub") (n := ['b', 'u', 's']) (o := ['n', 'r', 'e', 't', 't', 'a', 'P', '.', 'e', 'r']) (by kernel_rfl) owner_pat]; kernel_rfl
theorem plain_loop : plainId "re.Pattern.sub.loop" = true := by decide +kernel

theorem drive_ok {M : Model} {A : Around} {E : Value → Shared → Prop} {s : Shared} {Q : Sre.M → Shared → Prop} : ∀ (k turns : Nat) (m : Sre.M), k + 1 ≤ turns → (Sre.M.runFor (4 * (k + 1)) m).outcome.isSome = true → Q (Sre.M.runFor (4 * (k + 1)) m) s →
    wpAny M A (Builtin.Re.reDrive turns m) Q E s
  | k, 0, m, h, _, _ => absurd h (Nat.not_succ_le_zero _)
  | 0, turns + 1, m, _, ho, hq => by
    show wpAny M A (if (Sre.M.runFor 4 m).outcome.isSome = true then pure (Sre.M.runFor 4 m) else _) Q E s
    rw [if_pos ho]; exact wpAny_pure hq
  | k + 1, turns + 1, m, h, ho, hq => by
    show wpAny M A (if (Sre.M.runFor 4 m).outcome.isSome = true then pure (Sre.M.runFor 4 m) else (rule "sre.turn" >>= fun _ => Builtin.Re.reDrive turns (Sre.M.runFor 4 m))) Q E s
    have e : Sre.M.runFor (4 * (k + 1 + 1)) m = Sre.M.runFor (4 * (k + 1)) (Sre.M.runFor 4 m) := by rw [← runFor_add]; congr 1; omega
    rw [e] at ho hq
    by_cases x : (Sre.M.runFor 4 m).outcome.isSome = true
    · rw [if_pos x]; rw [runFor_done x] at hq; exact wpAny_pure hq
    · rw [if_neg x]
      exact wpAny_bind (wpAny_rule (drive_ok k turns _ (by omega) ho hq))
theorem runTo_ok {M : Model} {A : Around} {E : Value → Shared → Prop} {s : Shared} {Q : Option Sre.M → Shared → Prop} {m : Sre.M} {r : Option (Nat × Nat)} (h : Ends m 2000 r) (hn : r = none → Q none s)
    (hs : ∀ b e m', r = some (b, e) → m'.start = b → m'.handed = e → Q (some m') s) : wpAny M A (Builtin.Re.reRunToEnd m) Q E s := by
  have far : ∀ k, k ≤ 2000 → (Sre.M.runFor k m).outcome.isSome = true → Sre.M.runFor (4 * (500 + 1)) m = Sre.M.runFor k m := fun k hk ho => by
    have : 4 * (500 + 1) = k + (2004 - k) := by omega
    rw [this, runFor_add, runFor_done ho]
  unfold Builtin.Re.reRunToEnd
  refine wpAny_bind ?_
  cases r with
  | none =>
    obtain ⟨k, hk, ho⟩ := h
    refine drive_ok 500 _ m (by decide) ?_ ?_
    · rw [far k hk (by rw [ho]; rfl), ho]; rfl
    · rw [far k hk (by rw [ho]; rfl)]
      refine wpAny_bind (wpAny_forIn_list _ (fun _ _ s' => s' = s) _ (fun x rest b s' e => ?_) (fun _ s' e => ?_) _ _ rfl)
      · subst e
        split
        · exact wpAny_bind (wpAny_rule (wpAny_pure rfl))
        · exact wpAny_pure rfl
      subst e
      rw [ho]
      exact wpAny_pure (hn rfl)
  | some r =>
    obtain ⟨b, e⟩ := r
    obtain ⟨k, hk, ho, h1, h2⟩ := h
    refine drive_ok 500 _ m (by decide) ?_ ?_
    · rw [far k hk (by rw [ho]; rfl), ho]; rfl
    · rw [far k hk (by rw [ho]; rfl)]
      refine wpAny_bind (wpAny_forIn_list _ (fun _ _ s' => s' = s) _ (fun x rest b s' e => ?_) (fun _ s' e => ?_) _ _ rfl)
      · subst e
        split
        · exact wpAny_bind (wpAny_rule (wpAny_pure rfl))
        · exact wpAny_pure rfl
      subst e
      rw [ho]
      exact wpAny_pure (hs b e _ rfl h1 h2)

/-- a compiled pattern of the program's top -/
def IsPat (h : Heap) (a : Addr) (code : List Int) : Prop :=
  ∃ o c p f tp tf, h.get? a = some o ∧ o.cls = .type "re.Pattern" ∧ o.dict = none ∧ o.data = .fields #[.str p tp, .int f tf, .int 0 0, .none, .none, .ref c, .int 0 0] ∧ ∃ oc n, h.get? c = some oc ∧ oc.data = .seq (code.map fun i => Value.int i 0).toArray n
theorem IsPat.at {h h' : Heap} {a : Addr} {code : List Int} (x : IsPat h a code) (k : ∀ b o, h.get? b = some o → h'.get? b = some o) : IsPat h' a code := by
  obtain ⟨o, c, p, f, tp, tf, h1, h2, h3, h4, oc, n, h5, h6⟩ := x
  exact ⟨o, c, p, f, tp, tf, k _ _ h1, h2, h3, h4, oc, n, k _ _ h5, h6⟩
theorem wholeTarget_ok {M : Model} {A : Around} {E : Value → Shared → Prop} {s : Shared} {Q : Builtin.Re.ReTarget → Shared → Prop} {a : Addr} {code : List Int} {x : Str} {tx : Tok} (hp : IsPat s.heap a code)
    (h : Q { pattern := .ref a, string := .str x tx, code := (code.map Int.toNat).toArray, text := x.cps, kind := 0, groups := 0, pos := 0, lim := x.cps.size } s) :
    wpAny M A (Builtin.Re.reWholeTarget (.ref a) (.str x tx)) Q E s := by
  obtain ⟨o, c, p, f, tp, tf, h1, h2, h3, h4, oc, n, h5, h6⟩ := hp
  unfold Builtin.Re.reWholeTarget
  refine wpAny_bind (wpAny_fieldsOf h1 h4 ?_)
  refine wpAny_bind (wpAny_of_eq (a := (x.cps, 0)) rfl ?_)
  show wpAny M A (Builtin.Re.reRawItems (.ref c) >>= _) _ _ _
  unfold Builtin.Re.reRawItems
  refine wpAny_bind (wpAny_bind (wpAny_seqItems h5 h6 (wpAny_pure ?_)))
  show wpAny M A (pure _) _ _ _
  have e : (((some (code.map fun i => Value.int i 0).toArray).getD #[]).map Builtin.Re.reRawOf).map (·.toNat) = (code.map Int.toNat).toArray := by
    simp [Function.comp_def, Builtin.Re.reRawOf]
  rw [e]
  exact wpAny_pure h
theorem push_ok {M : Model} {A : Around} {E : Value → Shared → Prop} {s : Shared} {Q : Unit → Shared → Prop} {D : Addr} {vs : List Value} {n : Nat} {x : Value}
    (ho : s.heap.get? D = some { cls := .type "list", data := .seq vs.toArray n }) (hz : vs.length ≤ 1000)
    (h : ∀ h', (∀ b o, b ≠ D → s.heap.get? b = some o → h'.get? b = some o) → h'.get? D = some { cls := .type "list", data := .seq (vs ++ [x]).toArray (n + 1) } → Q () { s with heap := h' }) :
    wpAny M A (updateSeq D (·.push x)) Q E s := by
  refine wpAny_updateSeq ho rfl (h _ (fun b o hb e => (Heap.get?_update_other _ _ (Ne.symm hb)).trans e) ?_) (by rw [List.size_toArray]; unfold sizeLine; omega) (by rw [Array.size_push, List.size_toArray]; unfold sizeLine; omega)
  rw [Heap.get?_update_self _ ho (by rw [mapSeq_push]; rfl), mapSeq_push, List.push_toArray]

theorem first_hit (hit : Nat → Option Nat) : ∀ n d : Nat, (∀ q, d ≤ q → q < d + n → hit q = none) ∨ ∃ b e, d ≤ b ∧ b < d + n ∧ hit b = some e ∧ ∀ q, d ≤ q → q < b → hit q = none
  | 0, d => .inl fun q h1 h2 => absurd h2 (by omega)
  | n + 1, d => by
    cases h : hit d with
    | some e => exact .inr ⟨d, e, Nat.le_refl _, by omega, h, fun q a b => absurd b (by omega)⟩
    | none =>
      rcases first_hit hit n (d + 1) with x | ⟨b, e, h1, h2, h3, h4⟩
      · refine .inl fun q a c => ?_
        by_cases hq : q = d
        · rw [hq]; exact h
        · exact x q (by omega) (by omega)
      · refine .inr ⟨b, e, by omega, by omega, h3, fun q a c => ?_⟩
        by_cases hq : q = d
        · rw [hq]; exact h
        · exact h4 q (by omega) c
/-- the pieces that the substitution lays, from the place d on -/
inductive Pieces (text : Array Nat) (hit : Nat → Option Nat) (r : Str) : Nat → List Str → Prop
  | stop {d : Nat} : (∀ q, d ≤ q → q < text.size → hit q = none) → Pieces text hit r d (if d < text.size then [⟨text.extract d text.size⟩] else [])
  | more {d b e : Nat} {rest : List Str} : d ≤ b → (∀ q, d ≤ q → q < b → hit q = none) → hit b = some e → Pieces text hit r e rest → Pieces text hit r d ((if d < b then [⟨text.extract d b⟩] else []) ++ r :: rest)
noncomputable def listO (vs : List Value) (n : Nat) : Obj := { cls := .type "list", data := .seq vs.toArray n }
theorem StrsAre.app : ∀ {vs ws : List Value} {ys zs : List Str}, StrsAre vs ys → StrsAre ws zs → StrsAre (vs ++ ws) (ys ++ zs)
  | _, _, _, _, .nil, h => h
  | _, _, _, _, .cons y t a, h => .cons y t (StrsAre.app a h)
theorem slice_then {M : Model} {A : Around} {E : Value → Shared → Prop} {s : Shared} {β : Type} {rest : Sem β} {Q : β → Shared → Prop} {D : Addr} {vs : List Value} {ys : List Str} {n : Nat} {text : Array Nat} {b e : Nat} (hz : vs.length ≤ 900) (ht : text.size ≤ 300)
    (ho : s.heap.get? D = some (listO vs n)) (hi : StrsAre vs ys)
    (h : ∀ h' tk vs' n', (∀ b o, b ≠ D → s.heap.get? b = some o → h'.get? b = some o) → h'.get? D = some (listO vs' n') → StrsAre vs' (ys ++ if b < e then [⟨text.extract b e⟩] else []) → vs'.length ≤ vs.length + 1 → wpAny M A rest Q E { s with heap := h', toks := tk }) :
    wpAny M A (if b < e then (Builtin.Re.reSlice text 0 b e >>= fun x => updateSeq D (·.push x) >>= fun _ => rest) else rest) Q E s := by
  by_cases hb : b < e
  · rw [if_pos hb]
    refine wpAny_bind ?_
    show wpAny M A (mkStr ⟨text.extract b e⟩) _ _ _
    refine wpAny_mkStr (wpAny_bind (push_ok (vs := vs) (n := n) ho (by omega) fun h' hk hD => ?_)) (by show (text.extract b e).size ≤ _; rw [Array.size_extract]; unfold sizeLine; omega)
    refine h h' _ (vs ++ [Value.str ⟨text.extract b e⟩ s.toks]) (n + 1) hk hD ?_ (by simp)
    rw [if_pos hb]
    exact StrsAre.app hi (.cons _ _ .nil)
  · rw [if_neg hb]
    refine h s.heap s.toks vs n (fun _ _ _ e => e) ho ?_ (by omega)
    rw [if_neg hb, List.append_nil]; exact hi
theorem strs_len : ∀ {vs : List Value} {ys : List Str}, StrsAre vs ys → vs.length = ys.length
  | _, _, .nil => rfl
  | _, _, .cons _ _ h => congrArg (· + 1) (strs_len h)
theorem sum_le {K : Nat} : ∀ {ys : List Str}, (∀ y ∈ ys, y.length ≤ K) → (ys.map (·.length)).sum ≤ K * ys.length
  | [], _ => by simp
  | y :: r, h => by
    have h1 := h y (.head _)
    have h2 := sum_le (ys := r) fun z hz => h z (.tail _ hz)
    rw [List.map_cons, List.sum_cons, List.length_cons, Nat.mul_succ]; omega
theorem join_end {prog : Program} {w : World} {A : Around} {E : Value → Shared → Prop} {s : Shared} {D : Addr} {vs : List Value} {ys : List Str} {n : Nat} {text : Array Nat} {k : Int} {Q : Fin → Shared → Prop} (ho : s.heap.get? D = some (listO vs n)) (hi : StrsAre vs ys) (hz : vs.length ≤ 1000) (hy : ∀ y ∈ ys, y.length ≤ 300)
    (h : ∀ tk t, Q (.done (.ret (.str (Txt.join Str.empty ys) t))) { s with toks := tk }) :
    wpAny (model prog w) A (do
      let joiner ← Builtin.Re.reSlice text 0 0 0
      let __do_lift ← seqItems? (Value.ref D)
      if (__do_lift.getD #[]).isEmpty = true then do
          let text ← pure joiner
          if false = true then do
              let __do_lift ←
                holding [text] do
                    let __do_lift ← mkInt k
                    newTuple [text, __do_lift]
              PySem.ret __do_lift
            else PySem.ret text
        else do
          let text ← call (Value.builtin (if ((0 : Nat) == 0) = true then "str.join" else "bytes.join")) [joiner, Value.ref D]
          if false = true then do
              let __do_lift ←
                holding [text] do
                    let __do_lift ← mkInt k
                    newTuple [text, __do_lift]
              PySem.ret __do_lift
            else PySem.ret text) Q E s := by
  have e0 : (⟨text.extract 0 0⟩ : Str) = Str.empty := by
    have : text.extract 0 0 = #[] := by simp
    rw [this]; rfl
  refine wpAny_bind ?_
  show wpAny _ _ (mkStr ⟨text.extract 0 0⟩) _ _ _
  rw [e0]
  refine wpAny_mkStr (wpAny_bind (wpAny_seqItems ho rfl ?_)) (by decide)
  show wpAny _ _ (if vs.toArray.isEmpty = true then _ else _) _ _ _
  cases hi with
  | nil =>
    rw [if_pos (show ([] : List Value).toArray.isEmpty = true from rfl)]
    refine wpAny_bind (wpAny_pure ?_)
    rw [if_neg (by decide)]
    exact wpAny_pure (h _ _)
  | cons y t hi =>
    rename_i vs ys
    rw [if_neg (by simp)]
    refine wpAny_bind ?_
    show wpAny _ _ (call (Value.builtin "str.join") _) _ _ _
    have hl := strs_len hi
    refine join_list (items := (.str y t :: vs).toArray) (ys := y :: ys) ⟨_, ho, rfl, n, rfl⟩ (.cons y t hi) ?_ ?_
    · have := sum_le hy
      show _ + _ * 0 ≤ _
      simp only [List.length_cons] at this hz ⊢
      omega
    · intro t' k
      rw [if_neg (by decide)]
      exact wpAny_pure (h _ _)
set_option maxHeartbeats 4000000 in
theorem sub_loop {prog : Program} {w : World} {A : Around} {pat D : Addr} {code : List Int} {x r : Str} {tx tr : Tok} {hit : Nat → Option Nat} (S : Searches (code.map Int.toNat).toArray x.cps hit) (hx : x.cps.size ≤ 300) (hr : r.cps.size ≤ 10) :
    ∀ (fuel : Nat) (d : Nat) (k : Int) (s : Shared) (vs : List Value) (ys : List Str) (n : Nat) (R : Result → Shared → Prop) (h0 : Heap), x.cps.size + 1 ≤ d + fuel → d ≤ x.cps.size → IsPat h0 pat code → h0.get? D = none → (∀ b o, h0.get? b = some o → s.heap.get? b = some o) → s.heap.get? D = some (listO vs n) → StrsAre vs ys → vs.length ≤ 2 * d → (∀ y ∈ ys, y.length ≤ 300) →
      (∀ h' tk t ps, Pieces x.cps hit r d ps → (∀ b o, h0.get? b = some o → h'.get? b = some o) → R (.ok (.ret (.str (Txt.join Str.empty (ys ++ ps)) t))) { s with heap := h', toks := tk }) →
      codeAny (model prog w) A (.builtin "re.Pattern.sub.loop" ⟨[.ref pat, .str x tx, .str r tr, rawInt 0, rawInt 0, rawInt k, rawInt d, rawInt d, .bool false, .ref D, .bool false], []⟩) R s := by
  intro fuel
  induction fuel with
  | zero => intro d k s vs ys n R h0 h1 h2; omega
  | succ fuel ih =>
    intro d k s vs ys n R h0 h1 h2 hp hDn hk hD hi hlen hy ret
    refine codeAny_builtin entry_loop ?_
    rw [Around.under_plainId plain_loop _]
    have keepD : ∀ {h' : Heap}, (∀ b o, b ≠ D → s.heap.get? b = some o → h'.get? b = some o) → ∀ b o, h0.get? b = some o → h'.get? b = some o := fun h b o e => h b o (fun q => by rw [q, hDn] at e; cases e) (hk b o e)
    unfold Builtin.«re.Pattern.sub.loop»
    refine wpAny_bind (wholeTarget_ok (hp.at hk) ?_)
    refine wpAny_bind (wpAny_of_eq (a := ()) rfl ?_)
    refine wpAny_bind (m := Builtin.Re.reRunToEnd (Sre.forSearch (code.map Int.toNat).toArray x.cps 0 (d : Int).toNat x.cps.size false)) ?_
    rw [Int.toNat_natCast]
    rcases first_hit hit (x.cps.size - d) d with hall | ⟨b, e, hdb, hbz, hbe, hbn⟩
    · refine runTo_ok (S.2.1 d fun q a c => hall q a (by omega)) (fun _ => ?_) (fun _ _ _ h => nomatch h)
      dsimp only
      refine slice_then (by omega) (by omega) hD hi fun h' tk vs' n' hk' hD' hi' hl' => ?_
      refine join_end hD' hi' (by omega) (fun y hy' => ?_) fun tk t => ret h' tk t _ (.stop fun q a c => hall q a (by omega)) (keepD hk')
      rcases List.mem_append.mp hy' with q | q
      · exact hy y q
      · split at q
        · rw [List.mem_singleton.mp q]; show (x.cps.extract d x.cps.size).size ≤ _; rw [Array.size_extract]; omega
        · cases q
    · refine runTo_ok (S.2.2 d b e hdb hbn hbe) (fun h => nomatch h) (fun b' e' m' h hms hmh => ?_)
      cases h
      dsimp only
      rw [hms, hmh]
      refine slice_then (by omega) (by omega) hD hi fun h' tk vs' n' hk' hD' hi' hl' => ?_
      obtain ⟨hbe1, hez⟩ := S.1 b e hbe
      rw [if_pos (show ((0 : Int) == 0) = true from rfl)]
      refine wpAny_bind (wpAny_pure ?_)
      rw [if_pos (show (Value.str r tr != Value.none) = true from rfl), show (e == b) = false from beq_false_of_ne (by omega)]
      have hy2 : ∀ y ∈ (ys ++ if d < b then [⟨x.cps.extract d b⟩] else []) ++ [r], y.length ≤ 300 := fun y hy' => by
        rcases List.mem_append.mp hy' with q | q
        · rcases List.mem_append.mp q with q | q
          · exact hy y q
          · split at q
            · rw [List.mem_singleton.mp q]; show (x.cps.extract d b).size ≤ _; rw [Array.size_extract]; omega
            · cases q
        · rw [List.mem_singleton.mp q]; show r.cps.size ≤ _; omega
      refine wpAny_bind (push_ok hD' (by omega) fun h2 hk2 hD2 => wpAny_pure ⟨plainId_quiet plain_loop _, ?_⟩)
      refine ih e (k + 1) { s with heap := h2, toks := tk } (vs' ++ [Value.str r tr]) _ (n' + 1) R h0 (by omega) hez hp hDn (fun b o q => hk2 b o (fun z => by rw [z, hDn] at q; cases q) (keepD hk' b o q)) hD2 (StrsAre.app hi' (.cons _ _ .nil)) (by rw [List.length_append]; simp only [List.length_cons, List.length_nil]; omega) hy2 ?_
      intro h3 tk3 t3 ps hps hk3
      have := ret h3 tk3 t3 _ (.more hdb hbn hbe hps) hk3
      simpa [List.append_assoc] using this

theorem str_call : typeLookup (.type "str") "__call__" = pure none := by rw [typeLookup_type, builtinLookup_eq_fast]; kernel_rfl
set_option maxHeartbeats 4000000 in
theorem call_sub {prog : Program} {w : World} {A : Around} {E : Value → Shared → Prop} {s : Shared} {Q : Value → Shared → Prop} {pat : Addr} {code : List Int} {x r : Str} {tx tr : Tok} {hit : Nat → Option Nat} (S : Searches (code.map Int.toNat).toArray x.cps hit) (hx : x.cps.size ≤ 300) (hr : r.cps.size ≤ 10)
    (hp : IsPat s.heap pat code) (hb : r.cps.contains 92 = false)
    (h : ∀ h' tk t ps, Pieces x.cps hit r 0 ps → (∀ b o, s.heap.get? b = some o → h'.get? b = some o) → Q (.str (Txt.join Str.empty ps) t) { s with heap := h', toks := tk }) :
    wpAny (model prog w) A (call (.builtin "re.Pattern.sub") [.ref pat, .str r tr, .str x tx]) Q E s := by
  have hT : s.TypeIs (.ref pat) "re.Pattern" := by
    obtain ⟨o, c, p, f, tp, tf, h1, h2, _⟩ := hp
    exact ⟨o, h1, h2⟩
  refine wpAny_call (codeAny_call_builtin slot_sub.plain entry_sub (slot_sub.check _ _ _ _ _ _ _ _ hT (args_sub _ _ _) ?_))
  unfold Builtin.«re.Pattern.sub» Builtin.Re.reSubstitute
  dsimp only
  refine wpAny_bind (wpAny_of_eq (a := [some (.str r tr), some (.str x tx), none]) rfl ?_)
  dsimp only
  refine wpAny_bind (wpAny_pure ?_)
  refine wpAny_bind (wpAny_specialOf (typeIs_str s r tr) str_call ?_)
  rw [if_neg (show ¬ ((none : Option Value).isSome = true) from Bool.false_ne_true)]
  refine wpAny_bind (wpAny_of_eq (a := some r) rfl ?_)
  dsimp only
  rw [hb]
  refine wpAny_bind (wpAny_pure ?_)
  rw [if_neg (show ¬ ((none : Option Value).isSome = true) from Bool.false_ne_true), if_pos (show (!false) = true from rfl)]
  refine wpAny_bind (wpAny_pure ?_)
  refine wpAny_bind (wpAny_holding (wholeTarget_ok hp ?_))
  dsimp only
  refine wpAny_ite_false rfl ?_
  refine wpAny_bind (wpAny_newList (wpAny_pure ⟨plainId_quiet plain_loop _, ?_⟩) (by decide))
  refine sub_loop S hx hr (x.cps.size + 1) 0 0 _ [] [] 0 _ s.heap (by omega) (Nat.zero_le _) hp (Heap.get?_none_of_le (Nat.le_refl _)) (fun b o e => Heap.get?_push_of_some _ e) (Heap.get?_push_size _ rfl) .nil (Nat.zero_le _) (fun y h => nomatch h) ?_
  intro h' tk t ps hps hk
  exact h h' tk t ps hps hk
theorem getMethod_sub {M : Model} {A : Around} {E : Value → Shared → Prop} {s : Shared} {a : Addr} {code : List Int} {pl : Sem Bool} {Q : Value × List Value → Shared → Prop} (hp : IsPat s.heap a code)
    (h : Q (.builtin "re.Pattern.sub", [.ref a]) s) : wpAny M A (getMethod (.ref a) "sub" pl) Q E s := by
  obtain ⟨o, c, p, f, tp, tf, h1, h2, h3, h4, oc, n, h5, h6⟩ := hp
  have hT : s.TypeIs (.ref a) "re.Pattern" := ⟨o, h1, h2⟩
  unfold getMethod
  refine wpAny_bind (wpAny_specialOf hT pat_getattribute ?_)
  show wpAny M A (if (Manifest.canonical "object.__getattribute__" != "object.__getattribute__") = true then _ else _) Q E s
  rw [pat_canon, if_neg Bool.false_ne_true]
  refine wpAny_bind (wpAny_specialOf hT pat_getattr ?_)
  refine wpAny_bind (wpAny_specialOf hT slot_sub.lookup ?_)
  refine wpAny_bind (wpAny_of_eq type_sub ?_)
  refine wpAny_bind (wpAny_load h1 ?_)
  rw [h3]
  exact wpAny_bind (wpAny_rule (wpAny_pure h))

noncomputable def subOut (text : Array Nat) (hit : Nat → Option Nat) (r : List Nat) : Nat → Nat → List Nat
  | 0, _ => []
  | f + 1, d => if d < text.size then (match hit d with | some e => r ++ subOut text hit r f e | none => text.getD d 0 :: subOut text hit r f (d + 1)) else []
theorem subOut_run {text : Array Nat} {hit : Nat → Option Nat} {r : List Nat} : ∀ (n f d : Nat), n ≤ f → d + n ≤ text.size → (∀ q, d ≤ q → q < d + n → hit q = none) → subOut text hit r f d = (text.extract d (d + n)).toList ++ subOut text hit r (f - n) (d + n)
  | 0, f, d, _, _, _ => by simp
  | n + 1, 0, d, h, _, _ => absurd h (by omega)
  | n + 1, f + 1, d, h, hz, hn => by
    rw [subOut, if_pos (by omega), hn d (Nat.le_refl _) (by omega)]
    dsimp only
    rw [subOut_run n f (d + 1) (by omega) (by omega) fun q a b => hn q (by omega) (by omega)]
    have e : (text.extract d (d + (n + 1))).toList = text.getD d 0 :: (text.extract (d + 1) (d + 1 + n)).toList := by
      apply List.ext_getElem?
      intro i
      cases i with
      | zero =>
        rw [List.getElem?_cons_zero, Array.getElem?_toList, Array.getElem?_extract, if_pos (by omega)]
        simp [Array.getD_eq_getD_getElem?, Array.getElem?_eq_getElem (show d < text.size by omega)]
      | succ i =>
        rw [List.getElem?_cons_succ, Array.getElem?_toList, Array.getElem?_toList, Array.getElem?_extract, Array.getElem?_extract]
        have h1 : min (d + (n + 1)) text.size - d = n + 1 := by rw [Nat.min_eq_left (by assumption), Nat.add_sub_cancel_left]
        have h2 : min (d + 1 + n) text.size - (d + 1) = n := by rw [Nat.min_eq_left (by omega), Nat.add_sub_cancel_left]
        rw [h1, h2]
        by_cases hi : i < n
        · rw [if_pos (by omega), if_pos hi]; congr 1; omega
        · rw [if_neg (by omega), if_neg hi]
    rw [e, Nat.add_sub_add_right, show d + 1 + n = d + (n + 1) by omega]; rfl

theorem join_cps : ∀ ps : List Str, (Txt.join Str.empty ps).cps.toList = ps.flatMap (·.cps.toList) := fun ps => by
  have e : Txt.join Str.empty ps = Str.join Str.empty ps := StrLaws.glued_eq_join _ _
  rw [e]
  have key : ∀ ps : List Str, (Str.join Str.empty ps).cps.toList = ps.flatMap (·.cps.toList) := by
    intro ps
    induction ps with
    | nil => rfl
    | cons x r ih =>
      cases r with
      | nil => show x.cps.toList = _; simp
      | cons y r =>
        show (x ++ Str.empty ++ Str.join Str.empty (y :: r)).cps.toList = _
        rw [Str.cps_append, Str.cps_append, Array.toList_append, Array.toList_append, ih]
        show x.cps.toList ++ [] ++ _ = x.cps.toList ++ _
        rw [List.append_nil]; rfl
  exact key ps
theorem pieces_out {text : Array Nat} {hit : Nat → Option Nat} {r : Str} (hh : ∀ b e, hit b = some e → b < e ∧ e ≤ text.size) {d : Nat} {ps : List Str} (h : Pieces text hit r d ps) :
    ∀ f, text.size + 1 ≤ d + f → d ≤ text.size → ps.flatMap (·.cps.toList) = subOut text hit r.cps.toList f d := by
  induction h with
  | stop hn =>
    rename_i d
    intro f hf hd
    rw [subOut_run (text.size - d) f d (by omega) (by omega) fun q a b => hn q a (by omega), show d + (text.size - d) = text.size by omega]
    have e : subOut text hit r.cps.toList (f - (text.size - d)) text.size = [] := by
      cases f - (text.size - d) with
      | zero => rfl
      | succ k => rw [subOut, if_neg (Nat.lt_irrefl _)]
    rw [e, List.append_nil]
    by_cases hd : d < text.size
    · rw [if_pos hd]; simp
    · rw [if_neg hd]
      have : text.extract d text.size = #[] := by simp; omega
      rw [this]; rfl
  | more hdb hn hb _ ih =>
    rename_i d b e rest _
    intro f hf hd
    obtain ⟨h1, h2⟩ := hh _ _ hb
    rw [subOut_run (b - d) f d (by omega) (by omega) fun q x y => hn q x (by omega), show d + (b - d) = b by omega]
    obtain ⟨g, hg⟩ : ∃ g, f - (b - d) = g + 1 := ⟨f - (b - d) - 1, (Nat.sub_add_cancel (Nat.sub_pos_of_lt (by omega))).symm⟩
    have e2 : subOut text hit r.cps.toList (g + 1) b = r.cps.toList ++ subOut text hit r.cps.toList g e := by
      rw [subOut, if_pos (by omega), hb]
    have e3 : (r :: rest).flatMap (fun x => x.cps.toList) = r.cps.toList ++ rest.flatMap (fun x => x.cps.toList) := List.flatMap_cons
    rw [hg, e2, List.flatMap_append, e3, ih g (by omega) h2]
    by_cases hdb' : d < b
    · rw [if_pos hdb']; simp
    · rw [if_neg hdb']
      have : text.extract d b = #[] := by simp; omega
      rw [this]; rfl
/-- what the two substitutions make of a text -/
noncomputable def crlfOut (l : List Nat) : List Nat := subOut l.toArray (hitB l.toArray) [13, 10] (l.length + 1) 0
noncomputable def dotsOut (l : List Nat) : List Nat := subOut l.toArray (hitA l.toArray) [46, 46] (l.length + 1) 0
theorem str_eq_of {x : Str} {l : List Nat} (h : x.cps.toList = l) : x = ⟨l.toArray⟩ := by
  subst h; rfl

noncomputable def q1 (x : Str) : Str := ⟨(crlfOut x.cps.toList).toArray⟩
noncomputable def quoted (x : Str) : Str := ⟨(dotsOut (q1 x).cps.toList).toArray⟩
theorem pieces_crlf {x : Str} {ps : List Str} (hz : x.cps.size ≤ 300) (h : Pieces x.cps (hitB x.cps) (Str.ofString "\r\n") 0 ps) : Txt.join Str.empty ps = q1 x :=
  str_eq_of (by rw [join_cps, pieces_out (search2 x.cps hz).1 h (x.cps.size + 1) (by omega) (by omega)]; unfold crlfOut; simp; rfl)
theorem pieces_dots {x : Str} {ps : List Str} (hz : (q1 x).cps.size ≤ 300) (h : Pieces (q1 x).cps (hitA (q1 x).cps) (Str.ofString "..") 0 ps) : Txt.join Str.empty ps = quoted x :=
  str_eq_of (by rw [join_cps, pieces_out (search1 (q1 x).cps hz).1 h ((q1 x).cps.size + 1) (by omega) (by omega)]; unfold dotsOut; simp; rfl)
noncomputable def code1I : List Int := [14, 4, 0, 1, 1, 6, 1, 16, 46, 1]
noncomputable def code2I : List Int := [14, 9, 4, 1, 2, 16, 10, 16, 13, 0, 7, 7, 16, 13, 16, 10, 15, 18, 5, 16, 10, 15, 13, 11, 16, 13, 5, 5, 0, 16, 10, 1, 15, 2, 0, 1]
theorem search1I (text : Array Nat) (hz : text.size ≤ 300) : Searches (code1I.map Int.toNat).toArray text (hitA text) := search1 text hz
theorem search2I (text : Array Nat) (hz : text.size ≤ 300) : Searches (code2I.map Int.toNat).toArray text (hitB text) := search2 text hz
theorem crlf_plain : (Str.ofString "\r\n").cps.contains 92 = false := by decide +kernel
theorem dots_plain : (Str.ofString "..").cps.contains 92 = false := by decide +kernel
theorem crlf_size : (Str.ofString "\r\n").cps.size ≤ 10 := by decide +kernel
theorem dots_size : (Str.ofString "..").cps.size ≤ 10 := by decide +kernel
section
set_option maxHeartbeats 4000000 in
theorem quotedata_ok (w : World) (x : Str) (tx : Tok) (hx : x.cps.size ≤ 300) (hy : (q1 x).cps.size ≤ 300) :
    Pure w 104 10 40 [.str x tx] (fun _ => True) (fun _ v _ => ∃ t, v = .str (quoted x) t) := by
  unfold Pure; k_fill; intro loose mean mg mb A s Q E hA hdp hu XK T _ hret
  have p1 : IsPat s.heap 92 code1I := by
    have h2 := XK 92 _ (by k_is)
    have h1 := XK 91 _ (by k_is)
    exact ⟨_, _, _, _, _, _, h2, rfl, rfl, rfl, _, _, h1, rfl⟩
  have p2 : IsPat s.heap 97 code2I := by
    have h2 := XK 97 _ (by k_is)
    have h1 := XK 96 _ (by k_is)
    exact ⟨_, _, _, _, _, _, h2, rfl, rfl, rfl, _, _, h1, rfl⟩
  refine wpAny_call ?_
  refine' enterP (binds := [("data", .str x tx)]) XK T ?k6 ?k7 ?k8 ?k9 ?kB ?_ ?c2 ?c3 ?c4 ?c5
  ((case k6 => k_is); (case k7 => k_is); (case k8 => omega); (case k9 => exact BindsTo.of_eq rfl); (case c5 => decide); (case kB => exact locs rfl); (case c2 => exact rfl); (case c3 => exact rfl); (case c4 => exact rfl))
  intro L h₁ F
  have N : News s.heap L h₁ [] := News.nil
  (try dsimp only)
  k_unmd
  (try k_fold)
  (repeat' (first | (k_unfold; (try dsimp only)) | ((with_reducible refine isWp ?_); (fail_if_success (with_reducible first | refine halt 0 (by constructor) ?_ | refine halt 13 (by constructor) ?_)); (first | (walk1; (try dsimp only)) | (dsimp only; walk1))) | ((with_reducible show _ ∧ wpAny _ _ _ _ _ _); (refine And.intro (by first | k_in | exact FnAt_fr (by k_asm) (by assumption) | exact FnAt.of (by k_asm) (by k_mem)) ?_)) | ((fail_if_success (with_reducible refine isWp ?_)); dsimp only)))
  refine getMethod_sub (p1.at F.keep) ?_
  dsimp only
  (repeat' (first | (k_unfold; (try dsimp only)) | ((with_reducible refine isWp ?_); (fail_if_success (with_reducible first | refine halt 0 (by constructor) ?_ | refine halt 13 (by constructor) ?_)); (first | (walk1; (try dsimp only)) | (dsimp only; walk1))) | ((with_reducible show _ ∧ wpAny _ _ _ _ _ _); (refine And.intro (by first | k_in | exact FnAt_fr (by k_asm) (by assumption) | exact FnAt.of (by k_asm) (by k_mem)) ?_)) | ((fail_if_success (with_reducible refine isWp ?_)); dsimp only)))
  rename Fr _ _ _ _ => F2
  refine getMethod_sub (p2.at F2.keep) ?_
  dsimp only
  (repeat' (first | (k_unfold; (try dsimp only)) | ((with_reducible refine isWp ?_); (fail_if_success (with_reducible first | refine halt 0 (by constructor) ?_ | refine halt 13 (by constructor) ?_)); (first | (walk1; (try dsimp only)) | (dsimp only; walk1))) | ((with_reducible show _ ∧ wpAny _ _ _ _ _ _); (refine And.intro (by first | k_in | exact FnAt_fr (by k_asm) (by assumption) | exact FnAt.of (by k_asm) (by k_mem)) ?_)) | ((fail_if_success (with_reducible refine isWp ?_)); dsimp only)))
  rename Fr _ _ _ _ => F3
  refine call_sub (hit := hitB x.cps) (r := Str.ofString "\r\n") (search2I x.cps hx) hx crlf_size (p2.at F3.keep) crlf_plain ?_
  intro h4 tk4 t4 ps4 hps4 hk4
  rw [pieces_crlf hx hps4]
  replace F3 := F3.keeps hk4
  have N4 : News s.heap L h4 [] := News.nil
  dsimp only
  (repeat' (first | (k_unfold; (try dsimp only)) | ((with_reducible refine isWp ?_); (fail_if_success (with_reducible first | refine halt 0 (by constructor) ?_ | refine halt 13 (by constructor) ?_)); (first | (walk1; (try dsimp only)) | (dsimp only; walk1))) | ((with_reducible show _ ∧ wpAny _ _ _ _ _ _); (refine And.intro (by first | k_in | exact FnAt_fr (by k_asm) (by assumption) | exact FnAt.of (by k_asm) (by k_mem)) ?_)) | ((fail_if_success (with_reducible refine isWp ?_)); dsimp only)))
  rename Fr _ _ _ _ => F5
  refine call_sub (hit := hitA (q1 x).cps) (r := Str.ofString "..") (search1I (q1 x).cps hy) hy dots_size (p1.at F5.keep) dots_plain ?_
  intro h6 tk6 t6 ps6 hps6 hk6
  rw [pieces_dots hy hps6]
  exact hret _ _ _ (fun b o e => hk6 b o (F5.keep b o e)) ⟨_, rfl⟩
end

theorem gives_find4 (x y : Str) (i j : Int) (t u v z : Tok) : Gives (Builtin.«str.find» ⟨[.str x t, .str y u, .int i v, .int j z], []⟩) (.int (match Builtin.Str.occurrences x y (fromIndex x.length i) (min (fromIndex x.length j) x.length) 1 with | k :: _ => (k : Int) | [] => -1)) := by
  show Gives (match Builtin.Str.occurrences x y (fromIndex x.length i) (min (fromIndex x.length j) x.length) 1 with | k :: _ => retInt k | [] => (do rule "str.find.not-found"; retInt (-1))) _
  cases Builtin.Str.occurrences x y (fromIndex x.length i) (min (fromIndex x.length j) x.length) 1 with
  | nil => exact .rule (.of_eq rfl)
  | cons k _ => exact .of_eq rfl
noncomputable def findAt (y sub : Str) (lo : Nat) : Int := match Builtin.Str.occurrences y sub lo y.length 1 with | k :: _ => (k : Int) | [] => -1
theorem findAt_empty {y : Str} {lo : Nat} (h : lo ≤ y.length) : findAt y Str.empty lo = lo := by
  have all : ∀ i, i ≤ y.length → StrLaws.At y Str.empty y.length i := fun i hi => ⟨hi, by rw [StrLaws.subAt_eq]; show (([] : List Nat) == []) = true; rfl⟩
  unfold findAt
  rcases StrLaws.occ_head_from y Str.empty lo 1 (Nat.le_refl _) with ⟨h0, hn⟩ | ⟨k, r, h0, hlo, hk, hn⟩
  · exact absurd (all lo h) (hn lo (Nat.le_refl _))
  · rw [h0]
    dsimp only
    by_cases e : lo < k
    · exact absurd (all lo h) (hn lo (Nat.le_refl _) e)
    · have : k = lo := by omega
      rw [this]
theorem findAt_some {y sub : Str} {lo : Nat} (h : 0 ≤ findAt y sub lo) : ∃ k : Nat, findAt y sub lo = k ∧ k + sub.length ≤ y.length := by
  unfold findAt at h ⊢
  rcases StrLaws.occ_head_from y sub lo 1 (Nat.le_refl _) with ⟨h0, hn⟩ | ⟨k, r, h0, hlo, hk, hn⟩
  · rw [h0] at h; exact absurd h (by decide)
  · rw [h0]; exact ⟨k, rfl, hk.1⟩
theorem findAt_contains (y sub : Str) : Txt.contains y sub = decide (0 ≤ findAt y sub 0) := by
  unfold findAt Txt.contains
  cases Builtin.Str.occurrences y sub 0 y.length 1 with
  | nil => rfl
  | cons k r => simp
theorem find4_ok {prog : Program} {w : World} {A : Around} {E : Value → Shared → Prop} {s : Shared} {y sub : Str} {lo : Nat} {t u v z : Tok} {Q : Value → Shared → Prop}
    (hq : Q (.int (findAt y sub lo) s.toks) { s with toks := s.toks + 1 }) : wpAny (model prog w) A (call (.builtin "str.find") [.str y t, .str sub u, .int (lo : Int) v, .int (y.length : Int) z]) Q E s := by
  have e1 : fromIndex y.length (lo : Int) = lo := by unfold fromIndex; omega
  have e2 : fromIndex y.length (y.length : Int) = y.length := by unfold fromIndex; omega
  have g := gives_find4 y sub lo y.length t u v z
  rw [e1, e2, Nat.min_self] at g
  exact call_gives F.slot_str_find (typeIs_str _ _ _) F.entry_str_find (F.args_str_find_4 _ _ _ _) g hq
section
set_option maxHeartbeats 4000000 in
theorem ellipsis_ok (w : World) (x y mid : Str) (tx ty : Tok) (hc : (Builtin.Str.occurrences x (Str.ofString "...") 0 x.length 1).isEmpty = false) (hs : Txt.split x (Str.ofString "...") = [Str.empty, mid, Str.empty]) (hx : x.length ≤ 1000) (hy : y.length ≤ 1000) :
    Pure w 87 10 40 [.str x tx, .str y ty] (fun _ => True) (fun _ v _ => v = .bool (Txt.contains y mid)) := by
  unfold Pure; k_fill; intro loose mean mg mb A s Q E hA hdp hu XK T _ hret
  refine wpAny_call ?_
  refine' enterP (binds := [("want", .str x tx), ("got", .str y ty)]) XK T ?k6 ?k7 ?k8 ?k9 ?kB ?_ ?c2 ?c3 ?c4 ?c5
  ((case k6 => k_is); (case k7 => k_is); (case k8 => omega); (case k9 => exact BindsTo.of_eq rfl); (case c5 => decide); (case kB => exact locs rfl); (case c2 => exact rfl); (case c3 => exact rfl); (case c4 => exact rfl))
  intro L h₁ F
  have N : News s.heap L h₁ [] := News.nil
  (try dsimp only)
  k_unmd
  (try k_fold)
  (repeat' (first | (k_unfold; (try dsimp only)) | ((with_reducible refine isWp ?_); (fail_if_success (with_reducible first | refine halt 0 (by constructor) ?_ | refine halt 14 (by constructor) ?_)); (first | (walk1; (try dsimp only)) | (dsimp only; walk1))) | ((with_reducible show _ ∧ wpAny _ _ _ _ _ _); (refine And.intro (by first | k_in | exact FnAt_fr (by k_asm) (by assumption) | exact FnAt.of (by k_asm) (by k_mem)) ?_)) | ((fail_if_success (with_reducible refine isWp ?_)); dsimp only)))
  rw [hc, if_neg (by decide)]
  (repeat' (first | (k_unfold; (try dsimp only)) | ((with_reducible refine isWp ?_); (fail_if_success (with_reducible first | refine halt 0 (by constructor) ?_ | refine halt 14 (by constructor) ?_)); (first | (walk1; (try dsimp only)) | (dsimp only; walk1))) | ((with_reducible show _ ∧ wpAny _ _ _ _ _ _); (refine And.intro (by first | k_in | exact FnAt_fr (by k_asm) (by assumption) | exact FnAt.of (by k_asm) (by k_mem)) ?_)) | ((fail_if_success (with_reducible refine isWp ?_)); dsimp only)))
  rename Fr _ _ _ _ => F2
  rename News _ _ _ _ => N2
  refine KSpl.split1 F2 N2 (by decide) ?_ (by unfold sizeLine; omega)
  intro D l h3 tk3 hl _ F3 N3 _
  rw [hs] at hl
  obtain ⟨t1, l1, rfl, hl1⟩ := KSpl.cons_of hl
  obtain ⟨t2, l2, rfl, hl2⟩ := KSpl.cons_of hl1
  obtain ⟨t3, l3, rfl, hl3⟩ := KSpl.cons_of hl2
  have hl4 := KSpl.nil_of hl3
  subst hl4
  simp only [strValues, List.map_cons, List.map_nil] at N3
  clear F2 N2
  dsimp only
  (repeat' (first | (k_unfold; (try dsimp only)) | ((with_reducible refine isWp ?_); (fail_if_success (with_reducible first | refine halt 0 (by constructor) ?_ | refine halt 14 (by constructor) ?_)); (first | (walk1; (try dsimp only)) | (dsimp only; walk1))) | ((with_reducible show _ ∧ wpAny _ _ _ _ _ _); (refine And.intro (by first | k_in | exact FnAt_fr (by k_asm) (by assumption) | exact FnAt.of (by k_asm) (by k_mem)) ?_)) | ((fail_if_success (with_reducible refine isWp ?_)); dsimp only)))
  walk1
  (try dsimp only)
  (repeat' (first | (k_unfold; (try dsimp only)) | ((with_reducible refine isWp ?_); (fail_if_success (with_reducible first | refine halt 0 (by constructor) ?_ | refine halt 14 (by constructor) ?_)); (first | (walk1; (try dsimp only)) | (dsimp only; walk1))) | ((with_reducible show _ ∧ wpAny _ _ _ _ _ _); (refine And.intro (by first | k_in | exact FnAt_fr (by k_asm) (by assumption) | exact FnAt.of (by k_asm) (by k_mem)) ?_)) | ((fail_if_success (with_reducible refine isWp ?_)); dsimp only)))
  refine ⟨by decide, ?_⟩
  (repeat' (first | (k_unfold; (try dsimp only)) | ((with_reducible refine isWp ?_); (fail_if_success (with_reducible first | refine halt 0 (by constructor) ?_ | refine halt 14 (by constructor) ?_)); (first | (walk1; (try dsimp only)) | (dsimp only; walk1))) | ((with_reducible show _ ∧ wpAny _ _ _ _ _ _); (refine And.intro (by first | k_in | exact FnAt_fr (by k_asm) (by assumption) | exact FnAt.of (by k_asm) (by k_mem)) ?_)) | ((fail_if_success (with_reducible refine isWp ?_)); dsimp only)))
  walk1
  (try dsimp only)
  (repeat' (first | (k_unfold; (try dsimp only)) | ((with_reducible refine isWp ?_); (fail_if_success (with_reducible first | refine halt 0 (by constructor) ?_ | refine halt 14 (by constructor) ?_)); (first | (walk1; (try dsimp only)) | (dsimp only; walk1))) | ((with_reducible show _ ∧ wpAny _ _ _ _ _ _); (refine And.intro (by first | k_in | exact FnAt_fr (by k_asm) (by assumption) | exact FnAt.of (by k_asm) (by k_mem)) ?_)) | ((fail_if_success (with_reducible refine isWp ?_)); dsimp only)))
  rw [if_neg (by decide)]
  (repeat' (first | (k_unfold; (try dsimp only)) | ((with_reducible refine isWp ?_); (fail_if_success (with_reducible first | refine halt 0 (by constructor) ?_ | refine halt 14 (by constructor) ?_)); (first | (walk1; (try dsimp only)) | (dsimp only; walk1))) | ((with_reducible show _ ∧ wpAny _ _ _ _ _ _); (refine And.intro (by first | k_in | exact FnAt_fr (by k_asm) (by assumption) | exact FnAt.of (by k_asm) (by k_mem)) ?_)) | ((fail_if_success (with_reducible refine isWp ?_)); dsimp only)))
  walk1
  (try dsimp only)
  (repeat' (first | (k_unfold; (try dsimp only)) | ((with_reducible refine isWp ?_); (fail_if_success (with_reducible first | refine halt 0 (by constructor) ?_ | refine halt 14 (by constructor) ?_)); (first | (walk1; (try dsimp only)) | (dsimp only; walk1))) | ((with_reducible show _ ∧ wpAny _ _ _ _ _ _); (refine And.intro (by first | k_in | exact FnAt_fr (by k_asm) (by assumption) | exact FnAt.of (by k_asm) (by k_mem)) ?_)) | ((fail_if_success (with_reducible refine isWp ?_)); dsimp only)))
  rw [if_neg (by decide)]
  (repeat' (first | (k_unfold; (try dsimp only)) | ((with_reducible refine isWp ?_); (fail_if_success (with_reducible first | refine halt 0 (by constructor) ?_ | refine halt 14 (by constructor) ?_)); (first | (walk1; (try dsimp only)) | (dsimp only; walk1))) | ((with_reducible show _ ∧ wpAny _ _ _ _ _ _); (refine And.intro (by first | k_in | exact FnAt_fr (by k_asm) (by assumption) | exact FnAt.of (by k_asm) (by k_mem)) ?_)) | ((fail_if_success (with_reducible refine isWp ?_)); dsimp only)))
  rw [if_neg (by simp)]
  (repeat' (first | (k_unfold; (try dsimp only)) | ((with_reducible refine isWp ?_); (fail_if_success (with_reducible first | refine halt 0 (by constructor) ?_ | refine halt 14 (by constructor) ?_)); (first | (walk1; (try dsimp only)) | (dsimp only; walk1))) | ((with_reducible show _ ∧ wpAny _ _ _ _ _ _); (refine And.intro (by first | k_in | exact FnAt_fr (by k_asm) (by assumption) | exact FnAt.of (by k_asm) (by k_mem)) ?_)) | ((fail_if_success (with_reducible refine isWp ?_)); dsimp only)))
  rename Fr _ _ _ _ => F4
  rename News _ _ _ _ => N4
  have hDL : D ≠ L := (N4 _ (.tail _ (.head _))).2.1
  refine iter_list (env := envOf _ _ L _ _) (fun m₀ i m news => news = [] ∧ (∀ z, z ≠ Str.ofString "w" → z ≠ Str.ofString "startpos" → m z = m₀ z) ∧ ∃ (sp : Nat) (t : Tok), m (Str.ofString "startpos") = some (.int sp t) ∧ sp ≤ y.length ∧ (i ≤ 1 → sp = 0) ∧ (2 ≤ i → Txt.contains y mid = true)) hA (N4.isList (.tail _ (.head _))) hDL F4 (News.nil) ⟨rfl, fun _ _ _ => rfl, ?_⟩ ?_ ?_
  · exact ⟨0, _, rfl, Nat.zero_le _, fun _ => rfl, fun h => absurd h (by decide)⟩
  · rintro I i v m₁ news₁ h tk own hI hv ⟨rfl, hm, sp, t, hsp, hspl, hsp1, hsp2⟩ hnI hown hl' F5 N5
    refine cutQ fun Qr hQr => ?_
    have hvv : ∃ sub tv, v = .str sub tv ∧ ((i = 0 ∧ sub = Str.empty) ∨ (i = 1 ∧ sub = mid) ∨ (i = 2 ∧ sub = Str.empty)) := by
      match i, hv with
      | 0, hv => exact ⟨_, _, (Option.some.inj hv).symm, .inl ⟨rfl, rfl⟩⟩
      | 1, hv => exact ⟨_, _, (Option.some.inj hv).symm, .inr (.inl ⟨rfl, rfl⟩)⟩
      | 2, hv => exact ⟨_, _, (Option.some.inj hv).symm, .inr (.inr ⟨rfl, rfl⟩)⟩
      | n + 3, hv => cases hv
    obtain ⟨sub, tv, rfl, hsub⟩ := hvv
    rw [map2 hm, hsp] at F5
    generalize m₁ (Str.ofString "w") = u1 at F5
    clear hm hsp m₁ F4 N4
    replace F5 : Fr s.heap L h _ := F5
    replace N5 : News s.heap L h _ := N5
    (try dsimp only at F5)
    (repeat' (first | (k_unfold; (try dsimp only)) | ((with_reducible refine isWp ?_); (fail_if_success (with_reducible first | refine halt 0 (by constructor) ?_ | refine halt 14 (by constructor) ?_)); (first | (walk1; (try dsimp only)) | (dsimp only; walk1))) | ((with_reducible show _ ∧ wpAny _ _ _ _ _ _); (refine And.intro (by first | k_in | exact FnAt_fr (by k_asm) (by assumption) | exact FnAt.of (by k_asm) (by k_mem)) ?_)) | ((fail_if_success (with_reducible refine isWp ?_)); dsimp only)))
    refine find4_ok ?_
    dsimp only
    (repeat' (first | (k_unfold; (try dsimp only)) | ((with_reducible refine isWp ?_); (fail_if_success (with_reducible first | refine halt 0 (by constructor) ?_ | refine halt 14 (by constructor) ?_)); (first | (walk1; (try dsimp only)) | (dsimp only; walk1))) | ((with_reducible show _ ∧ wpAny _ _ _ _ _ _); (refine And.intro (by first | k_in | exact FnAt_fr (by k_asm) (by assumption) | exact FnAt.of (by k_asm) (by k_mem)) ?_)) | ((fail_if_success (with_reducible refine isWp ?_)); dsimp only)))
    rename Fr _ _ _ _ => F6
    by_cases hf : findAt y sub sp < 0
    · rw [if_pos (by simpa using hf)]
      (repeat' (first | (k_unfold; (try dsimp only)) | ((with_reducible refine isWp ?_); (fail_if_success (with_reducible first | refine halt 0 (by constructor) ?_ | refine halt 14 (by constructor) ?_)); (first | (walk1; (try dsimp only)) | (dsimp only; walk1))) | ((with_reducible show _ ∧ wpAny _ _ _ _ _ _); (refine And.intro (by first | k_in | exact FnAt_fr (by k_asm) (by assumption) | exact FnAt.of (by k_asm) (by k_mem)) ?_)) | ((fail_if_success (with_reducible refine isWp ?_)); dsimp only)))
      rename Fr _ _ _ _ => F7
      have e : Txt.contains y mid = false := by
        rcases hsub with ⟨hi, rfl⟩ | ⟨hi, rfl⟩ | ⟨hi, rfl⟩
        · rw [findAt_empty hspl] at hf; omega
        · rw [hsp1 (by omega)] at hf
          rw [findAt_contains]; exact decide_eq_false (by omega)
        · rw [findAt_empty hspl] at hf; omega
      refine hQr _ _ ?_
      exact hret _ _ _ F7.keep (by rw [e])
    · rw [if_neg (by simpa using hf)]
      obtain ⟨k, hk, hkl⟩ := findAt_some (Int.not_lt.mp hf)
      rw [hk] at F6
      (repeat' (first | (k_unfold; (try dsimp only)) | ((with_reducible refine isWp ?_); (fail_if_success (with_reducible first | refine halt 0 (by constructor) ?_ | refine halt 14 (by constructor) ?_)); (first | (walk1; (try dsimp only)) | (dsimp only; walk1))) | ((with_reducible show _ ∧ wpAny _ _ _ _ _ _); (refine And.intro (by first | k_in | exact FnAt_fr (by k_asm) (by assumption) | exact FnAt.of (by k_asm) (by k_mem)) ?_)) | ((fail_if_success (with_reducible refine isWp ?_)); dsimp only)))
      rename Fr _ _ _ _ => F8
      refine hQr _ _ ?_
      refine ⟨_, _, _, _, rfl, F8, by assumption, by assumption, rfl, ?_, k + sub.length, ?tt, ?e1, hkl, ?_, ?_⟩
      case e1 => exact rfl
      · intro z h1 h2; simp [h1, h2]
      · intro hi1
        rcases hsub with ⟨hi, rfl⟩ | ⟨hi, rfl⟩ | ⟨hi, rfl⟩
        · rw [findAt_empty hspl, hsp1 (by omega)] at hk
          show k + 0 = 0
          omega
        · omega
        · omega
      · intro hi1
        rcases hsub with ⟨hi, rfl⟩ | ⟨hi, rfl⟩ | ⟨hi, rfl⟩
        · omega
        · rw [hsp1 (by omega)] at hk
          rw [findAt_contains, hk]; exact decide_eq_true (by omega)
        · exact hsp2 (by omega)
  · rintro m₁ news₁ h tk ⟨rfl, hm, sp, t, hsp, hspl, hsp1, hsp2⟩ F5 N5
    rw [map2 hm, hsp] at F5
    generalize m₁ (Str.ofString "w") = u1 at F5
    clear hm hsp m₁ F4 N4
    dsimp only
    (repeat' (first | (k_unfold; (try dsimp only)) | ((with_reducible refine isWp ?_); (fail_if_success (with_reducible first | refine halt 0 (by constructor) ?_ | refine halt 14 (by constructor) ?_)); (first | (walk1; (try dsimp only)) | (dsimp only; walk1))) | ((with_reducible show _ ∧ wpAny _ _ _ _ _ _); (refine And.intro (by first | k_in | exact FnAt_fr (by k_asm) (by assumption) | exact FnAt.of (by k_asm) (by k_mem)) ?_)) | ((fail_if_success (with_reducible refine isWp ?_)); dsimp only)))
    exact hret _ _ _ F5.keep (by rw [hsp2 (by simp)])
end

theorem item_val {prog : Program} {w : World} {A : Around} {E : Value → Shared → Prop} {s : Shared} {value slice : PySem.Expr} {l : Addr} {items : Array Value} {k : Int} {u : Tok} {x : Value} {Q : Value → Shared → Prop} (hl : s.heap.IsList l items)
    (h0 : 0 ≤ k) (hfit : k < 2 ^ 63) (hx : items[k.toNat]? = some x) (h : Q x s)
    (hs : subscripted slice false (.ref l) (.int k u) = operate [.ref l, .int k u] (getItem (.ref l) (.int k u)) := by with_unfolding_all rfl) :
    wpAny (model prog w) A (subscriptTail value slice (.ref l) (.int k u)) Q E s :=
  tail_any hl.typeIs slot_list_getitem.lookup (wpAny_getItem_list hl h0 hfit hx h) hs
theorem strs_at : ∀ {ws : List Value} {es : List Str}, StrsAre ws es → ∀ i, i < es.length → ∃ t, ws[i]? = some (.str (es.getD i Str.empty) t)
  | _, _, .nil, i, h => absurd h (Nat.not_lt_zero _)
  | _, _, .cons y t _, 0, _ => ⟨t, rfl⟩
  | _, _, .cons y t hi, i + 1, h => strs_at hi i (Nat.lt_of_succ_lt_succ h)
noncomputable def preAt (ps : List Int) (es : List Str) (mail : Str) (k : Nat) : Str := mail ++ Txt.mul (Str.ofString ".") (ps.getD k 0) ++ es.getD (k % 3) Str.empty
noncomputable def mailAt (ps : List Int) (es : List Str) : Nat → Str
  | 0 => Str.ofString ""
  | k + 1 => quoted (preAt ps es (mailAt ps es k) k)
noncomputable def midOf (m : Nat) : Str := Str.ofString "\r\n" ++ Txt.mul (Str.ofString "o") m ++ Str.ofString "\r\n"
noncomputable def wantOf (m : Int) : Str := Str.ofString "...\r\n" ++ Txt.mul (Str.ofString "o") m ++ Str.ofString "\r\n..."
theorem want_ok : ∀ m : Nat, m ≤ 6 → (Builtin.Str.occurrences (wantOf m) (Str.ofString "...") 0 (wantOf m).length 1).isEmpty = false ∧ Txt.split (wantOf m) (Str.ofString "...") = [Str.empty, midOf m, Str.empty] ∧ (wantOf m).length ≤ 30 := by
  have key : ∀ m : Fin 7, (Builtin.Str.occurrences (wantOf m.val) (Str.ofString "...") 0 (wantOf m.val).length 1).isEmpty = false ∧ Txt.split (wantOf m.val) (Str.ofString "...") = [Str.empty, midOf m.val, Str.empty] ∧ (wantOf m.val).length ≤ 30 := by decide +kernel
  intro m hm
  exact key ⟨m, by omega⟩
noncomputable def pageOf (mail : Str) : Str := Str.ofString "\r\n" ++ Txt.replace mail (Str.ofString ".") (Str.ofString "o")
noncomputable def hookRow (page row : Str) (n : Nat) : List Int := ((List.range n).filter fun i => !Txt.contains page (midOf (row.length - 1 - i))).map fun (i : Nat) => 1 + (i : Int)
noncomputable def hookRows (page : Str) (rows : List Str) : List Int := rows.flatMap fun row => hookRow page row (row.length - 1)
theorem hookRow_succ (page row : Str) (n : Nat) : hookRow page row (n + 1) = hookRow page row n ++ if Txt.contains page (midOf (row.length - 1 - n)) = true then [] else [1 + (n : Int)] := by
  unfold hookRow
  rw [List.range_succ, List.filter_append, List.map_append]
  congr 1
  simp only [List.filter]
  cases Txt.contains page (midOf (row.length - 1 - n)) <;> rfl
theorem strs_dropLast : ∀ {vs : List Value} {ys : List Str}, StrsAre vs ys → StrsAre vs.dropLast ys.dropLast
  | _, _, .nil => .nil
  | _, _, .cons _ _ .nil => .nil
  | _, _, .cons y t (.cons y2 t2 h) => .cons y t (strs_dropLast (.cons y2 t2 h))
theorem pick_dropLast (l : List Value) : slicePick l.toArray none (some (-1)) none = l.dropLast.toArray := by
  have e : sliceBounds none (some (-1)) none l.toArray.size = (((0 : Nat) : Int), ((l.length - 1 : Nat) : Int), 1) := by
    rw [List.size_toArray]
    unfold sliceBounds
    simp
    omega
  rw [kmk_pick_nat _ e]
  simp [List.dropLast_eq_take]
theorem strs_get : ∀ {ws : List Value} {es : List Str}, StrsAre ws es → ∀ (i : Nat) (v : Value), ws[i]? = some v → ∃ y t, v = .str y t ∧ es[i]? = some y
  | _, _, .nil, i, v, h => by cases h
  | _, _, .cons y t _, 0, v, h => ⟨y, t, (Option.some.inj h).symm, rfl⟩
  | _, _, .cons y t hi, i + 1, v, h => strs_get hi i v h
theorem page_len {mail : Str} (h : (Txt.replace mail (Str.ofString ".") (Str.ofString "o")).length ≤ 300) : (pageOf mail).length ≤ 1000 := by
  have e : (pageOf mail).length = (Str.ofString "\r\n").length + (Txt.replace mail (Str.ofString ".") (Str.ofString "o")).length := by
    show (Str.ofString "\r\n" ++ Txt.replace mail (Str.ofString ".") (Str.ofString "o")).cps.size = _
    rw [Str.cps_append, Array.size_append]; rfl
  have e2 : (Str.ofString "\r\n").length = 2 := by decide +kernel
  omega
theorem hookRows_take (page : Str) (rows : List Str) (i : Nat) (row : Str) (h : rows[i]? = some row) : hookRows page (rows.take (i + 1)) = hookRows page (rows.take i) ++ hookRow page row (row.length - 1) := by
  unfold hookRows
  rw [List.take_add_one, h]
  simp
theorem newList_K {M : Model} {A : Around} {E : Value → Shared → Prop} {s : Shared} {g : Heap} {L : Addr} {m : Str → Option Value} {news : List (Addr × Obj)} {Q : Value → Shared → Prop} (F : Fr g L s.heap m) (N : News g L s.heap news)
    (h : ∀ D h', Fr g L h' m → News g L h' ((D, W.listOf #[] 0) :: news) → L < D → (∀ p ∈ news, p.1 < D) → Q (.ref D) { s with heap := h' }) : wpAny M A (newList []) Q E s :=
  wpAny_newList (h _ _ (F.push _) (News.push F N _) F.ns.lt fun p hp => Heap.lt_size (N p hp).1) (by decide)

section
set_option maxHeartbeats 4000000 in
theorem hooks_ok (w : World) (pl el : Addr) (vs ws : List Value) (ps : List Int) (es : List Str) (hps : IntsAre vs ps) (hes : StrsAre ws es) (hpl : ps.length ≤ 6) (hel : 3 ≤ es.length) (hel2 : es.length ≤ 5) (hpb : ∀ p ∈ ps, 0 < p ∧ p ≤ 6)
    (hq : ∀ k, k < ps.length → (preAt ps es (mailAt ps es k) k).cps.size ≤ 300 ∧ (q1 (preAt ps es (mailAt ps es k) k)).cps.size ≤ 300) (hes3 : ∀ e ∈ es, e.length ≤ 2) (hm : ∀ k, k ≤ ps.length → (mailAt ps es k).length ≤ 300) (hpg : (Txt.replace (mailAt ps es ps.length) (Str.ofString ".") (Str.ofString "o")).length ≤ 300)
    (hrows : (Txt.split (mailAt ps es ps.length) (Str.ofString "\r\n")).length ≤ 20 ∧ ∀ row ∈ (Txt.split (mailAt ps es ps.length) (Str.ofString "\r\n")).dropLast, row.length ≤ 7) :
    Pure w 189 30 200 [.ref pl, .ref el] (fun h => h.IsList pl vs.toArray ∧ h.IsList el ws.toArray) (fun z v h => ∃ D hs e, v = .ref D ∧ z ≤ D ∧ h.get? D = some (W.listOf hs.toArray e) ∧ IntsAre hs (hookRows (pageOf (mailAt ps es ps.length)) (Txt.split (mailAt ps es ps.length) (Str.ofString "\r\n")).dropLast)) := by
  unfold Pure; k_fill; intro loose mean mg mb A s Q E hA hdp hu XK T hpre hret
  refine wpAny_call ?_
  refine' enterP (binds := [("parts", .ref pl), ("ends", .ref el)]) XK T ?k6 ?k7 ?k8 ?k9 ?kB ?_ ?c2 ?c3 ?c4 ?c5
  ((case k6 => k_is); (case k7 => k_is); (case k8 => omega); (case k9 => exact BindsTo.of_eq rfl); (case c5 => decide); (case kB => exact locs rfl); (case c2 => exact rfl); (case c3 => exact rfl); (case c4 => exact rfl))
  intro L h₁ F
  have N : News s.heap L h₁ [] := News.nil
  (try dsimp only)
  k_unmd
  (try k_fold)
  (repeat' (first | (k_unfold; (try dsimp only)) | ((with_reducible refine isWp ?_); (fail_if_success (with_reducible first | refine halt 0 (by constructor) ?_ | refine halt 16 (by constructor) ?_)); (first | (walk1; (try dsimp only)) | (dsimp only; walk1))) | ((with_reducible show _ ∧ wpAny _ _ _ _ _ _); (refine And.intro (by first | k_in | exact FnAt_fr (by k_asm) (by assumption) | exact FnAt.of (by k_asm) (by k_mem)) ?_)) | ((fail_if_success (with_reducible refine isWp ?_)); dsimp only)))
  rename Fr _ _ _ _ => F2
  refine len_ints_fit (hpre.1.at fun o e => F2.keep pl o e) hps (by omega) ?_
  (try dsimp only)
  (repeat' (first | (k_unfold; (try dsimp only)) | ((with_reducible refine isWp ?_); (fail_if_success (with_reducible first | refine halt 0 (by constructor) ?_ | refine halt 16 (by constructor) ?_)); (first | (walk1; (try dsimp only)) | (dsimp only; walk1))) | ((with_reducible show _ ∧ wpAny _ _ _ _ _ _); (refine And.intro (by first | k_in | exact FnAt_fr (by k_asm) (by assumption) | exact FnAt.of (by k_asm) (by k_mem)) ?_)) | ((fail_if_success (with_reducible refine isWp ?_)); dsimp only)))
  rename Fr _ _ _ _ => F3
  rename IsRange _ _ _ _ _ _ _ _ => R3
  refine iter_range (env := envOf _ _ L _ _) (fun m₀ i m news => news = [] ∧ (∀ y, y ≠ Str.ofString "k" → y ≠ Str.ofString "mail" → m y = m₀ y) ∧ ∃ t, m (Str.ofString "mail") = some (.str (mailAt ps es i) t)) hA R3
    (small_one (by omega) (by omega) (by omega) (by omega)) (rangeSize_nat _ _) F3 News.nil ⟨rfl, fun _ _ _ => rfl, ?_⟩ ?_ ?_
  · exact ⟨_, rfl⟩
  · rintro I i k tv m₁ news₁ h tk own hI hi hk ⟨rfl, hmm, t, ht⟩ hnI hown F4 N4
    refine cutQ fun Qr hQr => ?_
    have hk' : k = (i : Int) := by omega
    subst hk'
    rw [map2 hmm, ht] at F4
    generalize m₁ (Str.ofString "k") = u1 at F4
    clear hmm ht m₁ F3 R3 hret hk
    replace F4 : Fr s.heap L h _ := F4
    replace N4 : News s.heap L h _ := N4
    (try dsimp only at F4)
    have hl4 := hpre.1.at fun o e => F4.keep pl o e
    have hl5 := hpre.2.at fun o e => F4.keep el o e
    (repeat' (first | (k_unfold; (try dsimp only)) | ((with_reducible refine isWp ?_); (fail_if_success (with_reducible first | refine halt 0 (by constructor) ?_ | refine halt 16 (by constructor) ?_)); (first | (walk1; (try dsimp only)) | (dsimp only; walk1))) | ((with_reducible show _ ∧ wpAny _ _ _ _ _ _); (refine And.intro (by first | k_in | exact FnAt_fr (by k_asm) (by assumption) | exact FnAt.of (by k_asm) (by k_mem)) ?_)) | ((fail_if_success (with_reducible refine isWp ?_)); dsimp only)))
    have hi6 : i < ps.length := by omega
    refine item_anyK hl4 hps (by omega) (by omega) (by omega) fun t1 => ?_
    rw [Int.toNat_natCast]
    obtain ⟨hp1, hp2⟩ := hpb (ps.getD i 0) (by rw [List.getD_eq_getElem?_getD, List.getElem?_eq_getElem hi6]; exact List.getElem_mem hi6)
    have hml := hm i (by omega)
    (try dsimp only)
    (repeat' (first | (k_unfold; (try dsimp only)) | ((with_reducible refine isWp ?_); (fail_if_success (with_reducible first | refine halt 0 (by constructor) ?_ | refine halt 16 (by constructor) ?_)); (first | (walk1; (try dsimp only)) | (dsimp only; walk1))) | ((with_reducible show _ ∧ wpAny _ _ _ _ _ _); (refine And.intro (by first | k_in | exact FnAt_fr (by k_asm) (by assumption) | exact FnAt.of (by k_asm) (by k_mem)) ?_)) | ((fail_if_success (with_reducible refine isWp ?_)); dsimp only)))
    have hfm : (i : Int).fmod 3 = ((i % 3 : Nat) : Int) := by rw [Int.fmod_eq_emod_of_nonneg _ (by decide)]; omega
    rw [hfm]
    have hi3 : i % 3 < es.length := by omega
    obtain ⟨t2, ht2⟩ := strs_at hes (i % 3) hi3
    refine item_val (x := .str (es.getD (i % 3) Str.empty) t2) hl5 (by omega) (by omega) (by rw [Int.toNat_natCast]; simpa using ht2) ?_
    have hel3 : (es.getD (i % 3) Str.empty).length ≤ 2 := hes3 _ (by rw [List.getD_eq_getElem?_getD, List.getElem?_eq_getElem hi3]; exact List.getElem_mem hi3)
    (try dsimp only)
    (repeat' (first | (k_unfold; (try dsimp only)) | ((with_reducible refine isWp ?_); (fail_if_success (with_reducible first | refine halt 0 (by constructor) ?_ | refine halt 16 (by constructor) ?_)); (first | (walk1; (try dsimp only)) | (dsimp only; walk1))) | ((with_reducible show _ ∧ wpAny _ _ _ _ _ _); (refine And.intro (by first | k_in | exact FnAt_fr (by k_asm) (by assumption) | exact FnAt.of (by k_asm) (by k_mem)) ?_)) | ((fail_if_success (with_reducible refine isWp ?_)); dsimp only)))
    rename Fr _ _ _ _ => F6
    rename News _ _ _ _ => N6
    obtain ⟨hq1, hq2⟩ := hq i hi6
    refine Pure.use (quotedata_ok w (preAt ps es (mailAt ps es i) i) _ hq1 hq2) hA (by show A.depth + 1 + _ < _; exact room2 ‹_› (by with_unfolding_all exact rfl)) (by show A.units + 3 + _ < _; exact room2 ‹_› (by with_unfolding_all exact rfl)) XK T F6 N6 trivial ?_
    rintro _ h7 tk7 F7 N7 _ ⟨t7, rfl⟩
    (try dsimp only)
    (repeat' (first | (k_unfold; (try dsimp only)) | ((with_reducible refine isWp ?_); (fail_if_success (with_reducible first | refine halt 0 (by constructor) ?_ | refine halt 16 (by constructor) ?_)); (first | (walk1; (try dsimp only)) | (dsimp only; walk1))) | ((with_reducible show _ ∧ wpAny _ _ _ _ _ _); (refine And.intro (by first | k_in | exact FnAt_fr (by k_asm) (by assumption) | exact FnAt.of (by k_asm) (by k_mem)) ?_)) | ((fail_if_success (with_reducible refine isWp ?_)); dsimp only)))
    rename Fr _ _ _ _ => F8
    refine hQr _ _ ?_
    refine ⟨_, _, _, _, rfl, F8, by assumption, by assumption, rfl, ?_, ?tt, ?e1⟩
    case e1 => exact rfl
    intro y h1 h2; simp [h1, h2]
  · rintro m₁ news₁ h tk ⟨rfl, hmm, t, ht⟩ F4 N4
    rw [map2 hmm, ht] at F4
    generalize m₁ (Str.ofString "k") = u1 at F4
    clear hmm ht m₁ F3 R3
    have en : ((ps.length : Int) - 0).toNat = ps.length := by omega
    rw [en] at F4
    have hml := hm ps.length (Nat.le_refl _)
    obtain ⟨mail, hmail⟩ : ∃ mail, mailAt ps es ps.length = mail := ⟨_, rfl⟩
    rw [hmail] at F4 hml hpg
    (try dsimp only)
    (repeat' (first | (k_unfold; (try dsimp only)) | ((with_reducible refine isWp ?_); (fail_if_success (with_reducible first | refine halt 0 (by constructor) ?_ | refine halt 16 (by constructor) ?_)); (first | (walk1; (try dsimp only)) | (dsimp only; walk1))) | ((with_reducible show _ ∧ wpAny _ _ _ _ _ _); (refine And.intro (by first | k_in | exact FnAt_fr (by k_asm) (by assumption) | exact FnAt.of (by k_asm) (by k_mem)) ?_)) | ((fail_if_success (with_reducible refine isWp ?_)); dsimp only)))
    rename Fr _ _ _ _ => F5a
    rename News _ _ _ _ => N5a
    refine newList_K F5a N5a ?_
    intro Hd h5 F5b N5b hLH _
    clear F5a N5a
    (try dsimp only)
    (repeat' (first | (k_unfold; (try dsimp only)) | ((with_reducible refine isWp ?_); (fail_if_success (with_reducible first | refine halt 0 (by constructor) ?_ | refine halt 16 (by constructor) ?_)); (first | (walk1; (try dsimp only)) | (dsimp only; walk1))) | ((with_reducible show _ ∧ wpAny _ _ _ _ _ _); (refine And.intro (by first | k_in | exact FnAt_fr (by k_asm) (by assumption) | exact FnAt.of (by k_asm) (by k_mem)) ?_)) | ((fail_if_success (with_reducible refine isWp ?_)); dsimp only)))
    rename Fr _ _ _ _ => F5
    rename News _ _ _ _ => N5
    refine KSpl.split1 F5 N5 (by decide) ?_ (by unfold sizeLine; omega)
    intro D l h6 tk6 hl hls F6 N6 hDn
    have hln : (Txt.split mail (Str.ofString "\r\n")).length ≤ 20 := by rw [← hmail]; exact hrows.1
    have hvl : (strValues l).length ≤ 20 := by
      rw [strs_len hls, hl]; exact hln
    rw [hl] at hls
    (try dsimp only)
    (repeat' (first | (k_unfold; (try dsimp only)) | ((with_reducible refine isWp ?_); (fail_if_success (with_reducible first | refine halt 0 (by constructor) ?_ | refine halt 16 (by constructor) ?_)); (first | (walk1; (try dsimp only)) | (dsimp only; walk1))) | ((with_reducible show _ ∧ wpAny _ _ _ _ _ _); (refine And.intro (by first | k_in | exact FnAt_fr (by k_asm) (by assumption) | exact FnAt.of (by k_asm) (by k_mem)) ?_)) | ((fail_if_success (with_reducible refine isWp ?_)); dsimp only)))
    k_dflt refine' kmk_slice (s := ⟨h6, _, _, _, _⟩) (lo := none) (hi := some (-1)) (its := (strValues l).toArray) ?zF ?zN ?zl ?zp ?zq ?_ ?zs ?zt ?zz
    case zF => exact F6
    case zN => exact N6
    case zl => exact N6.isList (.head _)
    case zp => exact IsPart.none
    case zq => exact IsPart.int _ _
    case zs => with_unfolding_all rfl
    case zt => intro _; with_unfolding_all rfl
    case zz => rw [List.size_toArray]; unfold sizeLine; omega
    intro D2 h7 F7 N7 hDn7
    rw [pick_dropLast] at N7
    have hls2 := strs_dropLast hls
    obtain ⟨rows, hrw⟩ : ∃ rows, (Txt.split mail (Str.ofString "\r\n")).dropLast = rows := ⟨_, rfl⟩
    have hr6 : ∀ row ∈ rows, row.length ≤ 7 := fun row h => hrows.2 row (by rw [hmail, hrw]; exact h)
    rw [hrw] at hls2
    have hr20 : rows.length ≤ 20 := by rw [← hrw, List.length_dropLast]; omega
    have hD2H : Hd < D2 := hDn7 _ (.tail _ (.head _))
    have hD2L : D2 ≠ L := (N7 _ (.head _)).2.1
    clear N5 F5 N6 F6 hl hls hDn
    (try dsimp only)
    (repeat' (first | (k_unfold; (try dsimp only)) | ((with_reducible refine isWp ?_); (fail_if_success (with_reducible first | refine halt 0 (by constructor) ?_ | refine halt 16 (by constructor) ?_)); (first | (walk1; (try dsimp only)) | (dsimp only; walk1))) | ((with_reducible show _ ∧ wpAny _ _ _ _ _ _); (refine And.intro (by first | k_in | exact FnAt_fr (by k_asm) (by assumption) | exact FnAt.of (by k_asm) (by k_mem)) ?_)) | ((fail_if_success (with_reducible refine isWp ?_)); dsimp only)))
    refine iter_list (env := envOf _ _ L _ _) (fun m₀ i m news => ∃ hv e, news = [(Hd, W.listOf hv.toArray e)] ∧ (∀ y, y ≠ Str.ofString "row" → y ≠ Str.ofString "h" → y ≠ Str.ofString "wanted" → m y = m₀ y) ∧ IntsAre hv (hookRows (pageOf mail) (rows.take i)) ∧ hv.length ≤ 6 * i) hA (N7.isList (.head _)) hD2L F7 (newsSub N7 (l' := [(Hd, W.listOf #[] 0)]) fun p hp => .tail _ (.tail _ hp)) ?_ ?_ ?_
    · exact ⟨[], 0, rfl, fun _ _ _ _ => rfl, .nil, Nat.le_refl _⟩
    · rintro I i v m₁ news₁ h tk own hI hv ⟨hv0, e0, rfl, hmm, hhi, hhl⟩ hnI hown hl' F8 N8
      refine cutQ fun Qr hQr => ?_
      obtain ⟨row, tr, rfl, hrow⟩ := strs_get hls2 i v (by simpa using hv)
      have hi20 : i < rows.length := by
        rcases Nat.lt_or_ge i rows.length with x | x
        · exact x
        · rw [List.getElem?_eq_none x] at hrow; cases hrow
      have hownH : ∀ p ∈ own, p.1 ≠ Hd := fun p hp e => by
        rcases hown p hp with q | q
        · exact hnI _ (.head _) (e.symm.trans q)
        · exact Nat.ne_of_gt hD2H (q.symm.trans e)
      rw [map3 hmm] at F8
      generalize m₁ (Str.ofString "row") = u2 at F8
      generalize m₁ (Str.ofString "h") = u3 at F8
      generalize m₁ (Str.ofString "wanted") = u4 at F8
      clear hmm m₁ F7 N7
      replace F8 : Fr s.heap L h _ := F8
      replace N8 : News s.heap L h _ := N8
      (try dsimp only at F8)
      have hrl0 : row.length ≤ 300 := Nat.le_trans (hr6 row (List.mem_of_getElem? hrow)) (by decide)
      (repeat' (first | (k_unfold; (try dsimp only)) | ((with_reducible refine isWp ?_); (fail_if_success (with_reducible first | refine halt 0 (by constructor) ?_ | refine halt 16 (by constructor) ?_)); (first | (walk1; (try dsimp only)) | (dsimp only; walk1))) | ((with_reducible show _ ∧ wpAny _ _ _ _ _ _); (refine And.intro (by first | k_in | exact FnAt_fr (by k_asm) (by assumption) | exact FnAt.of (by k_asm) (by k_mem)) ?_)) | ((fail_if_success (with_reducible refine isWp ?_)); dsimp only)))
      rename Fr _ _ _ _ => F9
      rename IsRange _ _ _ _ _ _ _ _ => R9
      rename News _ _ _ _ => N9
      have hrl := hr6 row (List.mem_of_getElem? hrow)
      refine iter_range (env := envOf _ _ L _ _) (fun m₀ j m news => ∃ hv e, news = own ++ [(Hd, W.listOf hv.toArray e)] ∧ (∀ y, y ≠ Str.ofString "h" → y ≠ Str.ofString "wanted" → m y = m₀ y) ∧ IntsAre hv (hookRows (pageOf mail) (rows.take i) ++ hookRow (pageOf mail) row j) ∧ hv.length ≤ 6 * i + j) hA R9
        (small_one (by omega) (by omega) (by omega) (by omega)) (rangeSize_nat _ _) F9 N9 ⟨hv0, e0, rfl, fun _ _ _ => rfl, ?_, hhl⟩ ?_ ?_
      · show IntsAre hv0 (_ ++ [])
        rw [List.append_nil]; exact hhi
      · rintro I2 j k tv m₂ news₂ h9 tk9 own2 hI2 hj hk ⟨hv1, e1, rfl, hmm2, hhi2, hhl2⟩ hnI2 hown2 F10 N10
        refine cutQ fun Qr hQr => ?_
        have hk' : k = 1 + (j : Int) := by omega
        subst hk'
        rw [map2 hmm2] at F10
        generalize m₂ (Str.ofString "h") = u5 at F10
        generalize m₂ (Str.ofString "wanted") = u6 at F10
        clear hmm2 m₂ F9 N9 R9 hret hk
        replace F10 : Fr s.heap L h9 _ := F10
        replace N10 : News s.heap L h9 _ := N10
        (try dsimp only at F10)
        have hj6 : (j : Int) + 1 < row.length := by omega
        clear hrl
        (repeat' (first | (k_unfold; (try dsimp only)) | ((with_reducible refine isWp ?_); (fail_if_success (with_reducible first | refine halt 0 (by constructor) ?_ | refine halt 16 (by constructor) ?_)); (first | (walk1; (try dsimp only)) | (dsimp only; walk1))) | ((with_reducible show _ ∧ wpAny _ _ _ _ _ _); (refine And.intro (by first | k_in | exact FnAt_fr (by k_asm) (by assumption) | exact FnAt.of (by k_asm) (by k_mem)) ?_)) | ((fail_if_success (with_reducible refine isWp ?_)); dsimp only)))
        rename Fr _ _ _ _ => F11
        rename News _ _ _ _ => N11
        have hmm6 : (row.length : Int) - (1 + (j : Int)) = ((row.length - 1 - j : Nat) : Int) := by omega
        have hm6 : row.length - 1 - j ≤ 6 := by
          have := hr6 row (List.mem_of_getElem? hrow); omega
        obtain ⟨wk1, wk2, wk3⟩ := want_ok (row.length - 1 - j) hm6
        rw [← hmm6] at wk1 wk2 wk3
        refine Pure.use (ellipsis_ok w (wantOf ((row.length : Int) - (1 + (j : Int)))) (pageOf mail) (midOf (row.length - 1 - j)) _ _ wk1 wk2 (by omega) (page_len hpg)) hA (by show A.depth + 1 + _ < _; exact room2 ‹_› (by with_unfolding_all exact rfl)) (by show A.units + 3 + _ < _; exact room2 ‹_› (by with_unfolding_all exact rfl)) XK T F11 N11 trivial ?_
        rintro _ h12 tk12 F12 N12 _ rfl
        dsimp only
        (repeat' (first | (k_unfold; (try dsimp only)) | ((with_reducible refine isWp ?_); (fail_if_success (with_reducible first | refine halt 0 (by constructor) ?_ | refine halt 16 (by constructor) ?_)); (first | (walk1; (try dsimp only)) | (dsimp only; walk1))) | ((with_reducible show _ ∧ wpAny _ _ _ _ _ _); (refine And.intro (by first | k_in | exact FnAt_fr (by k_asm) (by assumption) | exact FnAt.of (by k_asm) (by k_mem)) ?_)) | ((fail_if_success (with_reducible refine isWp ?_)); dsimp only)))
        have hsucc := hookRow_succ (pageOf mail) row j
        cases hcc : Txt.contains (pageOf mail) (midOf (row.length - 1 - j)) with
        | true =>
          rw [hcc, if_pos rfl, List.append_nil] at hsucc
          rw [if_neg (by decide)]
          (repeat' (first | (k_unfold; (try dsimp only)) | ((with_reducible refine isWp ?_); (fail_if_success (with_reducible first | refine halt 0 (by constructor) ?_ | refine halt 16 (by constructor) ?_)); (first | (walk1; (try dsimp only)) | (dsimp only; walk1))) | ((with_reducible show _ ∧ wpAny _ _ _ _ _ _); (refine And.intro (by first | k_in | exact FnAt_fr (by k_asm) (by assumption) | exact FnAt.of (by k_asm) (by k_mem)) ?_)) | ((fail_if_success (with_reducible refine isWp ?_)); dsimp only)))
          refine hQr _ _ ?_
          refine ⟨_, _, _, _, rfl, F12, N12, hnI2, hv1, e1, rfl, ?_, ?_, ?_⟩
          · intro y h1 h2; simp [h1, h2]
          · rw [hsucc]; exact hhi2
          · omega
        | false =>
          rw [hcc, if_neg (by decide)] at hsucc
          rw [if_pos (by decide)]
          (repeat' (first | (k_unfold; (try dsimp only)) | ((with_reducible refine isWp ?_); (fail_if_success (with_reducible first | refine halt 0 (by constructor) ?_ | refine halt 16 (by constructor) ?_)); (first | (walk1; (try dsimp only)) | (dsimp only; walk1))) | ((with_reducible show _ ∧ wpAny _ _ _ _ _ _); (refine And.intro (by first | k_in | exact FnAt_fr (by k_asm) (by assumption) | exact FnAt.of (by k_asm) (by k_mem)) ?_)) | ((fail_if_success (with_reducible refine isWp ?_)); dsimp only)))
          have N13 : News s.heap L h12 ((Hd, W.listOf hv1.toArray e1) :: (own2 ++ own)) := newsSub N12 fun p hp => by
            revert p; ((repeat (first | exact List.forall_mem_nil _ | (refine List.forall_mem_cons.mpr ⟨?_, ?_⟩; focus ((with_reducible ((repeat (first | exact List.mem_cons_self | refine List.mem_cons_of_mem _ ?_ | (refine List.mem_append_left _ ?_; ((repeat (first | exact List.mem_cons_self | refine List.mem_cons_of_mem _ ?_ | assumption)); (first | done | fail "m"))) | refine List.mem_append_right _ ?_ | assumption)); (first | done | fail "m"))))) | (refine List.forall_mem_append.mpr ⟨?_, ?_⟩; focus (intro p hp; (with_reducible ((repeat (first | exact List.mem_cons_self | refine List.mem_cons_of_mem _ ?_ | (refine List.mem_append_left _ ?_; ((repeat (first | exact List.mem_cons_self | refine List.mem_cons_of_mem _ ?_ | assumption)); (first | done | fail "m"))) | refine List.mem_append_right _ ?_ | assumption)); (first | done | fail "m"))))) | (refine List.forall_mem_append.mpr ⟨?_, ?_⟩; focus ((repeat (first | exact List.forall_mem_nil _ | (refine List.forall_mem_cons.mpr ⟨?_, ?_⟩; focus ((with_reducible ((repeat (first | exact List.mem_cons_self | refine List.mem_cons_of_mem _ ?_ | (refine List.mem_append_left _ ?_; ((repeat (first | exact List.mem_cons_self | refine List.mem_cons_of_mem _ ?_ | assumption)); (first | done | fail "m"))) | refine List.mem_append_right _ ?_ | assumption)); (first | done | fail "m"))))))); (first | done | fail "m"))) | (intro p hp; (with_reducible ((repeat (first | exact List.mem_cons_self | refine List.mem_cons_of_mem _ ?_ | (refine List.mem_append_left _ ?_; ((repeat (first | exact List.mem_cons_self | refine List.mem_cons_of_mem _ ?_ | assumption)); (first | done | fail "m"))) | refine List.mem_append_right _ ?_ | assumption)); (first | done | fail "m")))))); (first | done | fail "m"))
          have hHI2 : Hd ≠ I2 := hnI2 _ (List.mem_append_right _ (.head _))
          refine append_head F12 N13 ?_ ?_ (by rw [List.size_toArray]; unfold sizeLine; omega)
          · intro p hp
            rcases List.mem_append.mp hp with q | q
            · exact fun e => hHI2 (e.symm.trans (hown2 p q))
            · exact hownH p q
          intro h14 F14 N14
          dsimp only
          (repeat' (first | (k_unfold; (try dsimp only)) | ((with_reducible refine isWp ?_); (fail_if_success (with_reducible first | refine halt 0 (by constructor) ?_ | refine halt 16 (by constructor) ?_)); (first | (walk1; (try dsimp only)) | (dsimp only; walk1))) | ((with_reducible show _ ∧ wpAny _ _ _ _ _ _); (refine And.intro (by first | k_in | exact FnAt_fr (by k_asm) (by assumption) | exact FnAt.of (by k_asm) (by k_mem)) ?_)) | ((fail_if_success (with_reducible refine isWp ?_)); dsimp only)))
          rw [List.push_toArray] at N14
          refine hQr _ _ ?_
          refine ⟨_, _, _, _, rfl, F14, newsSub N14 (l' := own2 ++ (own ++ [(Hd, W.listOf (hv1 ++ [Value.int (1 + (j : Int)) tv]).toArray (e1 + 1))])) ?_, ?_, _, _, rfl, ?_, ?_, ?_⟩
          · intro p hp
            simp only [List.mem_cons, List.mem_append, List.not_mem_nil, or_false] at hp ⊢
            rcases hp with h | h | h <;> simp [h, W.listOf]
          · intro p hp
            rcases List.mem_append.mp hp with q | q
            · exact hnI2 p (List.mem_append_left _ q)
            · rw [List.mem_singleton.mp q]; exact hHI2
          · intro y h1 h2; simp [h1, h2]
          · rw [hsucc, ← List.append_assoc]; exact hhi2.append (.cons _ _ .nil)
          · rw [List.length_append]; simp only [List.length_cons, List.length_nil]; omega
      · rintro m₂ news₂ h9 tk9 ⟨hv1, e1, rfl, hmm2, hhi2, hhl2⟩ F10 N10
        rw [map2 hmm2] at F10
        generalize m₂ (Str.ofString "h") = u5 at F10
        generalize m₂ (Str.ofString "wanted") = u6 at F10
        clear hmm2 m₂ F9 N9 R9
        replace F10 : Fr s.heap L h9 _ := F10
        (try dsimp only at F10)
        dsimp only
        (repeat' (first | (k_unfold; (try dsimp only)) | ((with_reducible refine isWp ?_); (fail_if_success (with_reducible first | refine halt 0 (by constructor) ?_ | refine halt 16 (by constructor) ?_)); (first | (walk1; (try dsimp only)) | (dsimp only; walk1))) | ((with_reducible show _ ∧ wpAny _ _ _ _ _ _); (refine And.intro (by first | k_in | exact FnAt_fr (by k_asm) (by assumption) | exact FnAt.of (by k_asm) (by k_mem)) ?_)) | ((fail_if_success (with_reducible refine isWp ?_)); dsimp only)))
        have en2 : ((row.length : Int) - 1).toNat = row.length - 1 := by omega
        rw [en2] at hhi2
        refine hQr _ _ ?_
        refine ⟨_, _, _, _, rfl, F10, N10, (fun p hp => by rw [List.mem_singleton.mp hp]; exact hnI (Hd, W.listOf hv0.toArray e0) (.head _)), hv1, e1, rfl, ?_, ?_, ?_⟩
        · intro y h1 h2 h3; simp [h1, h2, h3]
        · rw [hookRows_take _ _ _ _ hrow]; exact hhi2
        · omega
    · rintro m₁ news₁ h tk ⟨hv1, e1, rfl, hmm, hhi, hhl⟩ F8 N8
      rw [map3 hmm] at F8
      generalize m₁ (Str.ofString "row") = u2 at F8
      generalize m₁ (Str.ofString "h") = u3 at F8
      generalize m₁ (Str.ofString "wanted") = u4 at F8
      clear hmm m₁ F7 N7
      replace F8 : Fr s.heap L h _ := F8
      replace N8 : News s.heap L h _ := N8
      (try dsimp only at F8)
      dsimp only
      (repeat' (first | (k_unfold; (try dsimp only)) | ((with_reducible refine isWp ?_); (fail_if_success (with_reducible first | refine halt 0 (by constructor) ?_ | refine halt 16 (by constructor) ?_)); (first | (walk1; (try dsimp only)) | (dsimp only; walk1))) | ((with_reducible show _ ∧ wpAny _ _ _ _ _ _); (refine And.intro (by first | k_in | exact FnAt_fr (by k_asm) (by assumption) | exact FnAt.of (by k_asm) (by k_mem)) ?_)) | ((fail_if_success (with_reducible refine isWp ?_)); dsimp only)))
      have er : (rows.take ((strValues l).dropLast.toArray.size)) = rows := by
        rw [List.size_toArray, strs_len hls2, List.take_length]
      rw [er] at hhi
      refine hret _ _ _ F8.keep ⟨Hd, hv1, e1, rfl, Nat.le_trans F8.above (Nat.le_of_lt hLH), (N8 _ (.head _)).1, ?_⟩
      rw [hmail, hrw]; exact hhi
end

section
variable {prog : Program} {w : World} {A : Around} {E : Value → Shared → Prop} {s : Shared} {env : Env} {h₀ : Heap} {x : Str} {body : List Stmt} {Q : Flow → Shared → Prop}
theorem loop_gen2 {I : Addr} {fp : List Addr} {n : Nat} {P : Nat → Value → Prop} {St : Nat → Heap → Prop} {m₀ : Str → Option Value} {news : List (Addr × Obj)} (J : (Str → Option Value) → Nat → (Str → Option Value) → List (Addr × Obj) → Prop)
    (W : Walks prog w A I fp [I] n P St) (hLf : env.locals ∉ fp) (hI0 : h₀.get? I = none) (hnI : ∀ p ∈ news, p.1 ≠ I) (hst : St 0 s.heap)
    (F : Fr h₀ env.locals s.heap m₀) (N : News h₀ env.locals s.heap news) (hj : J m₀ 0 m₀ news)
    (turn : ∀ i v m₁ news₁ h tk own, i < n → P i v → J m₀ i m₁ news₁ → (∀ p ∈ news₁, p.1 ≠ I) → (∀ p ∈ own, p.1 ∈ fp) → (∀ b ∈ fp, h₀.get? b = none → ∀ o, h.get? b = some o → (b, o) ∈ own) → St (i + 1) h →
      Fr h₀ env.locals h (fun y => if y = x then some v else m₁ y) → News h₀ env.locals h (own ++ news₁) →
      wpAny (model prog w) A (execs body env) (LEnd h₀ env.locals I own (J m₀ (i + 1)) { s with heap := h, toks := tk } Q) E { s with heap := h, toks := tk })
    (done : ∀ m₁ news₁ h tk, J m₀ n m₁ news₁ → Fr h₀ env.locals h m₁ → News h₀ env.locals h news₁ → Q .next { s with heap := h, toks := tk }) :
    LoopAtV prog w A h₀ env x body Q E (.ref I) s := by
  refine ⟨I, fp, [I], n, P, St, m₀, news, J m₀, rfl, W, hLf, ?_, ?_, hst, F, N, hj, ?_, ?_⟩
  · intro b hb; rw [List.mem_singleton.mp hb]; exact hI0
  · intro p hp hq; exact hnI p hp (List.mem_singleton.mp hq)
  · rintro i v m₁ news₁ s₁ own ⟨hh', tk', rfl⟩ hi hP hJ hoff hown _ hall hst' F₁ N₁
    refine wpAny_mono (turn i v m₁ news₁ hh' tk' own hi hP hJ (fun p hp e => hoff p hp (List.mem_singleton.mpr e)) hown hall hst' F₁ N₁) (fun f s₂ p => ?_) fun _ _ e => e
    have fin : (∃ h' tk m' news', s₂ = { s with heap := h', toks := tk } ∧ Fr h₀ env.locals h' m' ∧ News h₀ env.locals h' (own ++ news') ∧ (∀ p ∈ news', p.1 ≠ I) ∧ J m₀ (i + 1) m' news') →
        LoopStepU h₀ env.locals [I] own (J m₀ (i + 1)) { s with heap := hh', toks := tk' } .next s₂ := by
      rintro ⟨h', tk, m', news', rfl, F', N', hI, hJ'⟩
      exact ⟨rfl, h', tk, m', news', rfl, F', N', fun p hp hq => hI p hp (List.mem_singleton.mp hq), hJ'⟩
    cases f with
    | ret v => exact .ret p
    | brk => exact .brk p
    | next => exact .next (fin p)
    | cont => exact .cont (fin p)
  · rintro h' tk m' news' F' N' _ hJ
    exact done m' news' h' tk hJ F' N'
theorem iter_str {tx : Str} {tt : Tok} {m₀ : Str → Option Value} {news : List (Addr × Obj)} (J : (Str → Option Value) → Nat → (Str → Option Value) → List (Addr × Obj) → Prop)
    (hasc : tx.cps.all (· < 128) = true) (hh : A.handled = none) (F : Fr h₀ env.locals s.heap m₀) (N : News h₀ env.locals s.heap news) (hj : J m₀ 0 m₀ news)
    (turn : ∀ I i c u m₁ news₁ h tk own, i < tx.cps.size → tx.cps[i]? = some c → J m₀ i m₁ news₁ → (∀ p ∈ news₁, p.1 ≠ I) → (∃ o, own = [(I, o)] ∨ (I, o) ∈ own) → (∀ p ∈ own, p.1 = I) →
      Fr h₀ env.locals h (fun y => if y = x then some (.str ⟨#[c]⟩ u) else m₁ y) → News h₀ env.locals h (own ++ news₁) →
      wpAny (model prog w) A (execs body env) (LEnd h₀ env.locals I own (J m₀ (i + 1)) { s with heap := h, toks := tk } Q) E { s with heap := h, toks := tk })
    (done : ∀ m₁ news₁ h tk, J m₀ tx.cps.size m₁ news₁ → Fr h₀ env.locals h m₁ → News h₀ env.locals h news₁ → Q .next { s with heap := h, toks := tk }) :
    wpAny (model prog w) A (pyIter (.str tx tt)) (fun it s₂ => LoopAtV prog w A h₀ env x body Q E it s₂) E s := by
  refine wpAny_pyIter_ascii hasc ?_
  refine loop_gen2 J (Walks.strAscii hh s.heap.objs.size tx tt) ?_ (next_is_new F) (fun p hp => Nat.ne_of_lt (Heap.lt_size (N p hp).1)) ⟨_, Heap.get?_push_size _ rfl, rfl, rfl⟩ (F.push _) (fun p hp => ⟨Heap.get?_push_of_some _ (N p hp).1, (N p hp).2⟩) hj ?_ (fun m₁ news₁ h tk => done m₁ news₁ h tk)
  · intro hm
    exact absurd F.ns.lt ((List.mem_singleton.mp hm) ▸ Nat.lt_irrefl _)
  · rintro i v m₁ news₁ h tk own hi ⟨c, u, hc, rfl⟩ hJ hI hown hall hst' F₁ N₁
    obtain ⟨o, ho, _⟩ := id hst'
    exact turn _ i c u m₁ news₁ h tk own hi hc hJ hI ⟨o, .inr (hall _ (.head _) (next_is_new F) o ho)⟩ (fun p hp => List.mem_singleton.mp (hown p hp)) F₁ N₁
end
theorem seq_ne_dict {h : Heap} {a b : Nat} {o o' : Obj} {its : Array Value} {n k : Nat} {es : Array DictEntry} (h1 : h.get? a = some o) (d1 : o.data = .seq its n) (h2 : h.get? b = some o') (d2 : o'.data = .dict es k) : @Ne Nat a b := fun e => by
  subst e
  rw [h1] at h2
  cases h2
  rw [d1] at d2; cases d2
theorem map5 {m m₀ : Str → Option Value} {a b c d e : Str} (h : ∀ y, y ≠ a → y ≠ b → y ≠ c → y ≠ d → y ≠ e → m y = m₀ y) : m = fun y => if y = a then m a else if y = b then m b else if y = c then m c else if y = d then m d else if y = e then m e else m₀ y := by
  funext y
  by_cases e1 : y = a
  · subst e1; simp
  · by_cases e2 : y = b
    · subst e2; simp [e1]
    · by_cases e3 : y = c
      · subst e3; simp [e1, e2]
      · by_cases e4 : y = d
        · subst e4; simp [e1, e2, e3]
        · by_cases e5 : y = e
          · subst e5; simp [e1, e2, e3, e4]
          · simp [e1, e2, e3, e4, e5, h y e1 e2 e3 e4 e5]
section
set_option maxHeartbeats 4000000 in
theorem init_ok (w : World) (k : Nat) (tx : Tok) (hk : k ≤ 6) (x dx : Nat) (hxd : dx < x) {loose : List Str} {mean : ExcName → Option Value} {mg mb : Str → Option Value} {A : Around} {s : Shared} {g : Heap} {R : Result → Shared → Prop}
    (hA : A.handled = none) (hdp : A.depth + 10 < recursionLimit) (hu : A.units + 100 < cLine) (T : Top topProg loose mean mg mb g) (hg : ∀ b o, g.get? b = some o → s.heap.get? b = some o) (hsz : g.objs.size ≤ s.heap.objs.size)
    (hN : ∀ p ∈ [((x : Addr), instObj 166 dx), ((dx : Addr), emptyDict)], s.heap.get? p.1 = some p.2 ∧ g.get? p.1 = none) (ws : Str) (hws : ws.cps.toList = List.replicate k 32 ++ [9]) :
    (hd.heap_39 w.params).In g → (∀ (h' : Heap) (tk : Nat) (Tn D : Nat) (vsC : List Value) (a1 a2 a3 a4 a5 t1 t2 t3 : Tok) (bs : Bool) (e : Nat) (LL : Addr), (∀ b o, g.get? b = some o → h'.get? b = some o) → h'.get? x = some (instObj 166 dx) ∧ @Ne Nat x LL ∧ g.get? x = none →
      h'.get? dx = some (dictOf [{ hash := PyData.keyHash w.params (Str.ofString "raw"), key := .str (Str.ofString "raw") a1, val := .str ws tx }, { hash := PyData.keyHash w.params (Str.ofString "n"), key := .str (Str.ofString "n") a2, val := .int ((k + 1 : Nat) : Int) t1 },
        { hash := PyData.keyHash w.params (Str.ofString "nt"), key := .str (Str.ofString "nt") a3, val := .int 1 t3 }, { hash := PyData.keyHash w.params (Str.ofString "norm"), key := .str (Str.ofString "norm") a4, val := .ref Tn },
        { hash := PyData.keyHash w.params (Str.ofString "is_simple"), key := .str (Str.ofString "is_simple") a5, val := .bool bs }] e) ∧ @Ne Nat dx LL ∧ g.get? dx = none →
      h'.get? Tn = some { cls := .type "tuple", data := .seq #[.ref D, .int 0 t2] } ∧ @Ne Nat Tn LL ∧ g.get? Tn = none → h'.get? D = some { cls := .type "tuple", data := .seq vsC.toArray } ∧ @Ne Nat D LL ∧ g.get? D = none → IntsAre vsC (List.replicate k 0 ++ [1]) →
      R (.ok (.ret .none)) { s with heap := h', toks := tk }) → codeAny (model PySem.Challenge.rw_sh0054_01.row.prog w) A (.call (.ref 121) ⟨[.ref x, .str ws tx], []⟩) R s := by

  k_fill
  intro X ret
  have XS := X.keeps hg
  have ho := XS 121 _ (by k_is)
  refine' enterG (binds := [("self", .ref x), ("ws", .str ws tx)]) hg hsz hN T ho rfl (codeRec_of XS ?k7) ?k8 ?k9 ?kB ?_ ?c2 ?c3 ?c4 ?c5
  case k7 => k_is
  case k8 => omega
  case k9 => exact BindsTo.of_eq rfl
  case kB => exact locs rfl
  case c2 => exact rfl
  case c3 => exact rfl
  case c4 => exact rfl
  case c5 => decide
  intro L h₁ hL hk₁ F N
  have hxL : x < L := hL ▸ Heap.lt_size (hN _ (.head _)).1
  have hdL : dx < L := hL ▸ Heap.lt_size (hN _ (.tail _ (.head _))).1
  (try dsimp only)
  k_unmd
  (try k_fold)
  clear ho XS
  (repeat' (first | ((with_reducible refine tokN ?_); intro _) | (k_unfold; (try dsimp only)) | ((with_reducible refine isWp ?_); (fail_if_success (with_reducible first | refine halt 0 (by constructor) ?_ | refine halt 17 (by constructor) ?_)); (first | (walk1; (try dsimp only)) | (dsimp only; walk1))) | ((with_reducible show _ ∧ wpAny _ _ _ _ _ _); (refine And.intro (by first | k_in | exact FnAt_fr (by k_asm) (by assumption) | exact FnAt.of (by k_asm) (by k_mem)) ?_)) | ((fail_if_success (with_reducible refine isWp ?_)); dsimp only)))
  rename Fr _ _ _ _ => F2
  rename News _ _ _ _ => N2
  refine newList_K F2 N2 ?_
  intro Cl h2 F2b N2b hLC lcl
  clear F2 N2
  (try dsimp only)
  (repeat' (first | ((with_reducible refine tokN ?_); intro _) | (k_unfold; (try dsimp only)) | ((with_reducible refine isWp ?_); (fail_if_success (with_reducible first | refine halt 0 (by constructor) ?_ | refine halt 17 (by constructor) ?_)); (first | (walk1; (try dsimp only)) | (dsimp only; walk1))) | ((with_reducible show _ ∧ wpAny _ _ _ _ _ _); (refine And.intro (by first | k_in | exact FnAt_fr (by k_asm) (by assumption) | exact FnAt.of (by k_asm) (by k_mem)) ?_)) | ((fail_if_success (with_reducible refine isWp ?_)); dsimp only)))
  rename Fr _ _ _ _ => F3
  rename News _ _ _ _ => N3
  generalize hod : dictOf _ _ = od at N3
  have hasc : ws.cps.all (· < 128) = true := by
    rw [← Array.all_toList, hws]; simp
  have hsz3 : ws.cps.size = k + 1 := by rw [← Array.length_toList, hws]; simp
  refine iter_str (env := envX _ _ L _ _ _) (fun m₀ i m news => (∀ y, y ≠ Str.ofString "ch" → y ≠ Str.ofString "n" → y ≠ Str.ofString "b" → y ≠ Str.ofString "nt" → y ≠ Str.ofString "count" → m y = m₀ y) ∧
    ∃ C n b nt t1 t2 t3 oc, m (Str.ofString "n") = some (.int n t1) ∧ m (Str.ofString "b") = some (.int b t2) ∧ m (Str.ofString "nt") = some (.int nt t3) ∧ m (Str.ofString "count") = some (.ref C) ∧
      news = (C, oc) :: [(x, instObj 166 dx), (dx, od)] ∧ (x < C ∧ dx < C) ∧
      ((i ≤ k ∧ n = i ∧ b = i ∧ nt = 0 ∧ oc = W.listOf #[] 0) ∨ (i = k + 1 ∧ n = i ∧ b = 0 ∧ nt = 1 ∧ ∃ vs e, oc = W.listOf vs.toArray e ∧ IntsAre vs (List.replicate k 0 ++ [1])))) hasc hA F3 (newsSub N3 (l' := [(Cl, W.listOf #[] 0), (x, instObj 166 dx), (dx, od)]) ?_) ?_ ?_ ?_
  · intro p hp
    revert p; ((repeat (first | exact List.forall_mem_nil _ | (refine List.forall_mem_cons.mpr ⟨?_, ?_⟩; focus ((with_reducible ((repeat (first | exact List.mem_cons_self | refine List.mem_cons_of_mem _ ?_ | (refine List.mem_append_left _ ?_; ((repeat (first | exact List.mem_cons_self | refine List.mem_cons_of_mem _ ?_ | assumption)); (first | done | fail "m"))) | refine List.mem_append_right _ ?_ | assumption)); (first | done | fail "m"))))) | (refine List.forall_mem_append.mpr ⟨?_, ?_⟩; focus (intro p hp; (with_reducible ((repeat (first | exact List.mem_cons_self | refine List.mem_cons_of_mem _ ?_ | (refine List.mem_append_left _ ?_; ((repeat (first | exact List.mem_cons_self | refine List.mem_cons_of_mem _ ?_ | assumption)); (first | done | fail "m"))) | refine List.mem_append_right _ ?_ | assumption)); (first | done | fail "m"))))) | (refine List.forall_mem_append.mpr ⟨?_, ?_⟩; focus ((repeat (first | exact List.forall_mem_nil _ | (refine List.forall_mem_cons.mpr ⟨?_, ?_⟩; focus ((with_reducible ((repeat (first | exact List.mem_cons_self | refine List.mem_cons_of_mem _ ?_ | (refine List.mem_append_left _ ?_; ((repeat (first | exact List.mem_cons_self | refine List.mem_cons_of_mem _ ?_ | assumption)); (first | done | fail "m"))) | refine List.mem_append_right _ ?_ | assumption)); (first | done | fail "m"))))))); (first | done | fail "m"))) | (intro p hp; (with_reducible ((repeat (first | exact List.mem_cons_self | refine List.mem_cons_of_mem _ ?_ | (refine List.mem_append_left _ ?_; ((repeat (first | exact List.mem_cons_self | refine List.mem_cons_of_mem _ ?_ | assumption)); (first | done | fail "m"))) | refine List.mem_append_right _ ?_ | assumption)); (first | done | fail "m")))))); (first | done | fail "m"))
  · refine ⟨fun _ _ _ _ _ _ => rfl, Cl, 0, 0, 0, ?u1, ?u2, ?u3, W.listOf #[] 0, ?e1, ?e2, ?e3, rfl, rfl, ⟨lcl _ (.tail _ (.head _)), lcl _ (.tail _ (.tail _ (.head _)))⟩, .inl ⟨Nat.zero_le _, rfl, rfl, rfl, rfl⟩⟩
    case e1 => exact rfl
    case e2 => exact rfl
    case e3 => exact rfl
  · rintro I i c u m₁ news₁ h tk own hi hc ⟨hm, C, n, b, nt, t1, t2, t3, oc, hn, hb, hnt, hcn, rfl, hCx, hst⟩ hnI hIo hown F5 N5
    refine cutQ fun Qr hQr => ?_
    have hik : i ≤ k := by omega
    have hcl : (List.replicate k 32 ++ [9])[i]? = some c := by rw [← hws, Array.getElem?_toList]; exact hc
    rcases hst with ⟨_, rfl, rfl, rfl, rfl⟩ | ⟨e, _⟩
    rotate_left
    · omega
    rw [map5 hm, hn, hb, hnt, hcn] at F5
    generalize m₁ (Str.ofString "ch") = u1 at F5
    clear hm hn hb hnt hcn m₁ F3 N3
    replace F5 : Fr g L h _ := F5
    replace N5 : News g L h _ := N5
    (try dsimp only at F5)
    rcases Nat.lt_or_ge i k with hi2 | hi2
    · rw [List.getElem?_append_left (by simpa using hi2), List.getElem?_replicate, if_pos hi2] at hcl
      cases hcl
      (repeat' (first | ((with_reducible refine tokN ?_); intro _) | (k_unfold; (try dsimp only)) | ((with_reducible refine isWp ?_); (fail_if_success (with_reducible first | refine halt 0 (by constructor) ?_ | refine halt 17 (by constructor) ?_)); (first | (walk1; (try dsimp only)) | (dsimp only; walk1))) | ((with_reducible show _ ∧ wpAny _ _ _ _ _ _); (refine And.intro (by first | k_in | exact FnAt_fr (by k_asm) (by assumption) | exact FnAt.of (by k_asm) (by k_mem)) ?_)) | ((fail_if_success (with_reducible refine isWp ?_)); dsimp only)))
      rw [if_pos (by decide +kernel)]
      (repeat' (first | ((with_reducible refine tokN ?_); intro _) | (k_unfold; (try dsimp only)) | ((with_reducible refine isWp ?_); (fail_if_success (with_reducible first | refine halt 0 (by constructor) ?_ | refine halt 17 (by constructor) ?_)); (first | (walk1; (try dsimp only)) | (dsimp only; walk1))) | ((with_reducible show _ ∧ wpAny _ _ _ _ _ _); (refine And.intro (by first | k_in | exact FnAt_fr (by k_asm) (by assumption) | exact FnAt.of (by k_asm) (by k_mem)) ?_)) | ((fail_if_success (with_reducible refine isWp ?_)); dsimp only)))
      rename Fr _ _ _ _ => F6
      rename News _ _ _ _ => N6
      refine hQr _ _ ?_
      refine ⟨_, _, _, _, rfl, F6, N6, hnI, ?_, C, (i : Int) + 1, (i : Int) + 1, 0, ?v1, ?v2, ?v3, W.listOf #[] 0, ?g1, ?g2, ?g3, ?g4, rfl, hCx, .inl ⟨by omega, by omega, by omega, rfl, rfl⟩⟩
      case g1 => exact rfl
      case g2 => exact rfl
      case g3 => exact rfl
      case g4 => exact rfl
      intro y h1 h2 h3 h4 h5; simp [h1, h2, h3, h4, h5]
    · have hik2 : i = k := by omega
      subst hik2
      rw [List.getElem?_append_right (by simp)] at hcl
      simp at hcl
      subst hcl
      replace N5 : News g L h ((C, W.listOf #[] 0) :: (x, instObj 166 dx) :: (dx, od) :: own) := newsSub N5 fun p hp => by
        revert p; ((repeat (first | exact List.forall_mem_nil _ | (refine List.forall_mem_cons.mpr ⟨?_, ?_⟩; focus ((with_reducible ((repeat (first | exact List.mem_cons_self | refine List.mem_cons_of_mem _ ?_ | (refine List.mem_append_left _ ?_; ((repeat (first | exact List.mem_cons_self | refine List.mem_cons_of_mem _ ?_ | assumption)); (first | done | fail "m"))) | refine List.mem_append_right _ ?_ | assumption)); (first | done | fail "m"))))) | (refine List.forall_mem_append.mpr ⟨?_, ?_⟩; focus (intro p hp; (with_reducible ((repeat (first | exact List.mem_cons_self | refine List.mem_cons_of_mem _ ?_ | (refine List.mem_append_left _ ?_; ((repeat (first | exact List.mem_cons_self | refine List.mem_cons_of_mem _ ?_ | assumption)); (first | done | fail "m"))) | refine List.mem_append_right _ ?_ | assumption)); (first | done | fail "m"))))) | (refine List.forall_mem_append.mpr ⟨?_, ?_⟩; focus ((repeat (first | exact List.forall_mem_nil _ | (refine List.forall_mem_cons.mpr ⟨?_, ?_⟩; focus ((with_reducible ((repeat (first | exact List.mem_cons_self | refine List.mem_cons_of_mem _ ?_ | (refine List.mem_append_left _ ?_; ((repeat (first | exact List.mem_cons_self | refine List.mem_cons_of_mem _ ?_ | assumption)); (first | done | fail "m"))) | refine List.mem_append_right _ ?_ | assumption)); (first | done | fail "m"))))))); (first | done | fail "m"))) | (intro p hp; (with_reducible ((repeat (first | exact List.mem_cons_self | refine List.mem_cons_of_mem _ ?_ | (refine List.mem_append_left _ ?_; ((repeat (first | exact List.mem_cons_self | refine List.mem_cons_of_mem _ ?_ | assumption)); (first | done | fail "m"))) | refine List.mem_append_right _ ?_ | assumption)); (first | done | fail "m")))))); (first | done | fail "m"))
      (repeat' (first | ((with_reducible refine tokN ?_); intro _) | (k_unfold; (try dsimp only)) | ((with_reducible refine isWp ?_); (fail_if_success (with_reducible first | refine halt 0 (by constructor) ?_ | refine halt 17 (by constructor) ?_)); (first | (walk1; (try dsimp only)) | (dsimp only; walk1))) | ((with_reducible show _ ∧ wpAny _ _ _ _ _ _); (refine And.intro (by first | k_in | exact FnAt_fr (by k_asm) (by assumption) | exact FnAt.of (by k_asm) (by k_mem)) ?_)) | ((fail_if_success (with_reducible refine isWp ?_)); dsimp only)))
      rw [if_neg (by decide +kernel)]
      (repeat' (first | ((with_reducible refine tokN ?_); intro _) | (k_unfold; (try dsimp only)) | ((with_reducible refine isWp ?_); (fail_if_success (with_reducible first | refine halt 0 (by constructor) ?_ | refine halt 17 (by constructor) ?_)); (first | (walk1; (try dsimp only)) | (dsimp only; walk1))) | ((with_reducible show _ ∧ wpAny _ _ _ _ _ _); (refine And.intro (by first | k_in | exact FnAt_fr (by k_asm) (by assumption) | exact FnAt.of (by k_asm) (by k_mem)) ?_)) | ((fail_if_success (with_reducible refine isWp ?_)); dsimp only)))
      rw [if_pos (by decide +kernel)]
      (repeat' (first | ((with_reducible refine tokN ?_); intro _) | (k_unfold; (try dsimp only)) | ((with_reducible refine isWp ?_); (fail_if_success (with_reducible first | refine halt 0 (by constructor) ?_ | refine halt 17 (by constructor) ?_)); (first | (walk1; (try dsimp only)) | (dsimp only; walk1))) | ((with_reducible show _ ∧ wpAny _ _ _ _ _ _); (refine And.intro (by first | k_in | exact FnAt_fr (by k_asm) (by assumption) | exact FnAt.of (by k_asm) (by k_mem)) ?_)) | ((fail_if_success (with_reducible refine isWp ?_)); dsimp only)))
      walk1
      (try dsimp only)
      (repeat' (first | ((with_reducible refine tokN ?_); intro _) | (k_unfold; (try dsimp only)) | ((with_reducible refine isWp ?_); (fail_if_success (with_reducible first | refine halt 0 (by constructor) ?_ | refine halt 17 (by constructor) ?_)); (first | (walk1; (try dsimp only)) | (dsimp only; walk1))) | ((with_reducible show _ ∧ wpAny _ _ _ _ _ _); (refine And.intro (by first | k_in | exact FnAt_fr (by k_asm) (by assumption) | exact FnAt.of (by k_asm) (by k_mem)) ?_)) | ((fail_if_success (with_reducible refine isWp ?_)); dsimp only)))
      rw [if_pos (by simp)]
      (repeat' (first | ((with_reducible refine tokN ?_); intro _) | (k_unfold; (try dsimp only)) | ((with_reducible refine isWp ?_); (fail_if_success (with_reducible first | refine halt 0 (by constructor) ?_ | refine halt 17 (by constructor) ?_)); (first | (walk1; (try dsimp only)) | (dsimp only; walk1))) | ((with_reducible show _ ∧ wpAny _ _ _ _ _ _); (refine And.intro (by first | k_in | exact FnAt_fr (by k_asm) (by assumption) | exact FnAt.of (by k_asm) (by k_mem)) ?_)) | ((fail_if_success (with_reducible refine isWp ?_)); dsimp only)))
      walk1
      (try dsimp only)
      (repeat' (first | ((with_reducible refine tokN ?_); intro _) | (k_unfold; (try dsimp only)) | ((with_reducible refine isWp ?_); (fail_if_success (with_reducible first | refine halt 0 (by constructor) ?_ | refine halt 17 (by constructor) ?_)); (first | (walk1; (try dsimp only)) | (dsimp only; walk1))) | ((with_reducible show _ ∧ wpAny _ _ _ _ _ _); (refine And.intro (by first | k_in | exact FnAt_fr (by k_asm) (by assumption) | exact FnAt.of (by k_asm) (by k_mem)) ?_)) | ((fail_if_success (with_reducible refine isWp ?_)); dsimp only)))
      walk1
      (try dsimp only)
      (repeat' (first | ((with_reducible refine tokN ?_); intro _) | (k_unfold; (try dsimp only)) | ((with_reducible refine isWp ?_); (fail_if_success (with_reducible first | refine halt 0 (by constructor) ?_ | refine halt 17 (by constructor) ?_)); (first | (walk1; (try dsimp only)) | (dsimp only; walk1))) | ((with_reducible show _ ∧ wpAny _ _ _ _ _ _); (refine And.intro (by first | k_in | exact FnAt_fr (by k_asm) (by assumption) | exact FnAt.of (by k_asm) (by k_mem)) ?_)) | ((fail_if_success (with_reducible refine isWp ?_)); dsimp only)))
      rename Fr _ _ _ _ => F7
      rename News _ _ _ _ => N7
      obtain ⟨vs0, hvs0⟩ : ∃ vs0, (List.replicate ((i : Int) - 0 + 1).toNat [Value.int 0 tk]).flatten = vs0 := ⟨_, rfl⟩
      have hi0 : IntsAre vs0 (List.replicate (i + 1) 0) := by rw [← hvs0, show ((i : Int) - 0 + 1).toNat = i + 1 by omega]; exact flat_ints _ _
      refine KMa.mul (vs := [.int 0 tk]) (ws := vs0) F7 N7 (N7.isList (.head _)) (by omega) (by omega) (by simp only [List.length_cons, List.length_nil]; omega) hvs0 ?_
      intro D1 h8 F8 N8 _
      dsimp only
      refine kmk_add_ints (vs := []) (ws := vs0) (ns := []) F8 N8 (N8.isList (.tail _ (.tail _ (.head _)))) (N8.isList (.head _)) .nil hi0 ?_ (by rw [List.length_replicate]; simp only [List.length_nil]; unfold sizeLine; omega)
      intro D us h9 F9 N9 hDn hius
      rw [List.nil_append] at hius
      have hDI : D ≠ I := by
        obtain ⟨o, ho⟩ := hIo
        have hm : (I, o) ∈ own := by
          rcases ho with rfl | h
          · exact .head _
          · exact h
        exact Nat.ne_of_gt (hDn (I, o) (.tail _ (.tail _ (.tail _ (.tail _ (.tail _ hm))))))
      have hDx : x < D ∧ dx < D := ⟨hDn _ (.tail _ (.tail _ (.tail _ (.head _)))), hDn _ (.tail _ (.tail _ (.tail _ (.tail _ (.head _)))))⟩
      have hDr : ∀ p ∈ ((x : Addr), instObj 166 dx) :: (dx, od) :: own, p.1 ≠ D := fun p hp => Nat.ne_of_lt (hDn p (.tail _ (.tail _ (.tail _ hp))))
      replace N9 : News g L h9 ((D, W.listOf us.toArray 0) :: (x, instObj 166 dx) :: (dx, od) :: own) := newsSub N9 fun p hp => by
        revert p; ((repeat (first | exact List.forall_mem_nil _ | (refine List.forall_mem_cons.mpr ⟨?_, ?_⟩; focus ((with_reducible ((repeat (first | exact List.mem_cons_self | refine List.mem_cons_of_mem _ ?_ | (refine List.mem_append_left _ ?_; ((repeat (first | exact List.mem_cons_self | refine List.mem_cons_of_mem _ ?_ | assumption)); (first | done | fail "m"))) | refine List.mem_append_right _ ?_ | assumption)); (first | done | fail "m"))))) | (refine List.forall_mem_append.mpr ⟨?_, ?_⟩; focus (intro p hp; (with_reducible ((repeat (first | exact List.mem_cons_self | refine List.mem_cons_of_mem _ ?_ | (refine List.mem_append_left _ ?_; ((repeat (first | exact List.mem_cons_self | refine List.mem_cons_of_mem _ ?_ | assumption)); (first | done | fail "m"))) | refine List.mem_append_right _ ?_ | assumption)); (first | done | fail "m"))))) | (refine List.forall_mem_append.mpr ⟨?_, ?_⟩; focus ((repeat (first | exact List.forall_mem_nil _ | (refine List.forall_mem_cons.mpr ⟨?_, ?_⟩; focus ((with_reducible ((repeat (first | exact List.mem_cons_self | refine List.mem_cons_of_mem _ ?_ | (refine List.mem_append_left _ ?_; ((repeat (first | exact List.mem_cons_self | refine List.mem_cons_of_mem _ ?_ | assumption)); (first | done | fail "m"))) | refine List.mem_append_right _ ?_ | assumption)); (first | done | fail "m"))))))); (first | done | fail "m"))) | (intro p hp; (with_reducible ((repeat (first | exact List.mem_cons_self | refine List.mem_cons_of_mem _ ?_ | (refine List.mem_append_left _ ?_; ((repeat (first | exact List.mem_cons_self | refine List.mem_cons_of_mem _ ?_ | assumption)); (first | done | fail "m"))) | refine List.mem_append_right _ ?_ | assumption)); (first | done | fail "m")))))); (first | done | fail "m"))
      dsimp only
      (repeat' (first | ((with_reducible refine tokN ?_); intro _) | (k_unfold; (try dsimp only)) | ((with_reducible refine isWp ?_); (fail_if_success (with_reducible first | refine halt 0 (by constructor) ?_ | refine halt 17 (by constructor) ?_)); (first | (walk1; (try dsimp only)) | (dsimp only; walk1))) | ((with_reducible show _ ∧ wpAny _ _ _ _ _ _); (refine And.intro (by first | k_in | exact FnAt_fr (by k_asm) (by assumption) | exact FnAt.of (by k_asm) (by k_mem)) ?_)) | ((fail_if_success (with_reducible refine isWp ?_)); dsimp only)))
      rename News _ _ _ _ => N10
      refine item_anyK (N10.isList (.head _)) hius (by omega) (by rw [List.length_replicate]; omega) (by omega) fun t9 => ?_
      rw [show (List.replicate (i + 1) (0 : Int)).getD (i : Int).toNat 0 = 0 by simp]
      (try dsimp only)
      (repeat' (first | ((with_reducible refine tokN ?_); intro _) | (k_unfold; (try dsimp only)) | ((with_reducible refine isWp ?_); (fail_if_success (with_reducible first | refine halt 0 (by constructor) ?_ | refine halt 17 (by constructor) ?_)); (first | (walk1; (try dsimp only)) | (dsimp only; walk1))) | ((with_reducible show _ ∧ wpAny _ _ _ _ _ _); (refine And.intro (by first | k_in | exact FnAt_fr (by k_asm) (by assumption) | exact FnAt.of (by k_asm) (by k_mem)) ?_)) | ((fail_if_success (with_reducible refine isWp ?_)); dsimp only)))
      rename Fr _ _ _ _ => F11
      rename News _ _ _ _ => N11
      refine ksa_set F11 N11 (.head hDr) hius (by omega) (by rw [List.length_replicate]; omega) (by omega) ?_
      intro h12 F12 N12 hius2 _ _
      rw [show (List.replicate (i + 1) (0 : Int)).set (i : Int).toNat (0 + 1) = List.replicate i 0 ++ [1] by
        rw [Int.toNat_natCast, List.replicate_succ', List.set_append_right _ _ (by simp)]; simp] at hius2
      generalize us.set (i : Int).toNat _ = us2 at N12 hius2
      (try dsimp only)
      (repeat' (first | ((with_reducible refine tokN ?_); intro _) | (k_unfold; (try dsimp only)) | ((with_reducible refine isWp ?_); (fail_if_success (with_reducible first | refine halt 0 (by constructor) ?_ | refine halt 17 (by constructor) ?_)); (first | (walk1; (try dsimp only)) | (dsimp only; walk1))) | ((with_reducible show _ ∧ wpAny _ _ _ _ _ _); (refine And.intro (by first | k_in | exact FnAt_fr (by k_asm) (by assumption) | exact FnAt.of (by k_asm) (by k_mem)) ?_)) | ((fail_if_success (with_reducible refine isWp ?_)); dsimp only)))
      rename Fr _ _ _ _ => F13
      rename News _ _ _ _ => N13
      refine hQr _ _ ?_
      refine ⟨_, _, _, _, rfl, F13, newsSub N13 (l' := own ++ [(D, W.listOf us2.toArray 0), (x, instObj 166 dx), (dx, od)]) ?_, ?_, ?_, D, (i : Int) + 1, 0, 1, ?w1, ?w2, ?w3, W.listOf us2.toArray 0, ?y1, ?y2, ?y3, ?y4, rfl, hDx, .inr ⟨by simp, by omega, rfl, rfl, us2, 0, rfl, hius2⟩⟩
      case y1 => exact rfl
      case y2 => exact rfl
      case y3 => exact rfl
      case y4 => exact rfl
      · intro p hp
        revert p; ((repeat (first | exact List.forall_mem_nil _ | (refine List.forall_mem_cons.mpr ⟨?_, ?_⟩; focus ((with_reducible ((repeat (first | exact List.mem_cons_self | refine List.mem_cons_of_mem _ ?_ | (refine List.mem_append_left _ ?_; ((repeat (first | exact List.mem_cons_self | refine List.mem_cons_of_mem _ ?_ | assumption)); (first | done | fail "m"))) | refine List.mem_append_right _ ?_ | assumption)); (first | done | fail "m"))))) | (refine List.forall_mem_append.mpr ⟨?_, ?_⟩; focus (intro p hp; (with_reducible ((repeat (first | exact List.mem_cons_self | refine List.mem_cons_of_mem _ ?_ | (refine List.mem_append_left _ ?_; ((repeat (first | exact List.mem_cons_self | refine List.mem_cons_of_mem _ ?_ | assumption)); (first | done | fail "m"))) | refine List.mem_append_right _ ?_ | assumption)); (first | done | fail "m"))))) | (refine List.forall_mem_append.mpr ⟨?_, ?_⟩; focus ((repeat (first | exact List.forall_mem_nil _ | (refine List.forall_mem_cons.mpr ⟨?_, ?_⟩; focus ((with_reducible ((repeat (first | exact List.mem_cons_self | refine List.mem_cons_of_mem _ ?_ | (refine List.mem_append_left _ ?_; ((repeat (first | exact List.mem_cons_self | refine List.mem_cons_of_mem _ ?_ | assumption)); (first | done | fail "m"))) | refine List.mem_append_right _ ?_ | assumption)); (first | done | fail "m"))))))); (first | done | fail "m"))) | (intro p hp; (with_reducible ((repeat (first | exact List.mem_cons_self | refine List.mem_cons_of_mem _ ?_ | (refine List.mem_append_left _ ?_; ((repeat (first | exact List.mem_cons_self | refine List.mem_cons_of_mem _ ?_ | assumption)); (first | done | fail "m"))) | refine List.mem_append_right _ ?_ | assumption)); (first | done | fail "m")))))); (first | done | fail "m"))
      · intro p hp
        rcases List.mem_cons.mp hp with rfl | hp
        · exact hDI
        · exact hnI p (.tail _ hp)
      · intro y h1 h2 h3 h4 h5; simp [h1, h2, h3, h4, h5]
  · rintro m₁ news₁ h tk ⟨hm, C, n, b, nt, t1, t2, t3, oc, hn, hb, hnt, hcn, rfl, hCx, hst⟩ F5 N5
    rw [hsz3] at hst
    rcases hst with ⟨e, _⟩ | ⟨_, rfl, rfl, rfl, vsC, eC, rfl, hiC⟩
    · omega
    rw [map5 hm, hn, hb, hnt, hcn] at F5
    generalize m₁ (Str.ofString "ch") = u1 at F5
    clear hm hn hb hnt hcn m₁ F3 N3
    replace F5 : Fr g L h _ := F5
    replace N5 : News g L h _ := N5
    (try dsimp only at F5)
    dsimp only
    subst hod
    have hxC := hCx.1
    have hdC := hCx.2
    (repeat' (first | ((with_reducible refine tokN ?_); intro _) | (k_unfold; (try dsimp only)) | ((with_reducible refine isWp ?_); (fail_if_success (with_reducible first | refine halt 0 (by constructor) ?_ | refine halt 17 (by constructor) ?_)); (first | (walk1; (try dsimp only)) | (dsimp only; walk1))) | ((with_reducible show _ ∧ wpAny _ _ _ _ _ _); (refine And.intro (by first | k_in | exact FnAt_fr (by k_asm) (by assumption) | exact FnAt.of (by k_asm) (by k_mem)) ?_)) | ((fail_if_success (with_reducible refine isWp ?_)); dsimp only)))
    rename News _ _ _ _ => N7
    have hne := seq_ne_dict (N7 _ (.tail _ (.head _))).1 rfl (N7 _ (.tail _ (.tail _ (.tail _ (.tail _ (.head _)))))).1 rfl
    dsimp only at hne
    (repeat' (first | ((with_reducible refine tokN ?_); intro _) | (k_unfold; (try dsimp only)) | ((with_reducible refine isWp ?_); (fail_if_success (with_reducible first | refine halt 0 (by constructor) ?_ | refine halt 17 (by constructor) ?_)); (first | (walk1; (try dsimp only)) | (dsimp only; walk1))) | ((with_reducible show _ ∧ wpAny _ _ _ _ _ _); (refine And.intro (by first | k_in | exact FnAt_fr (by k_asm) (by assumption) | exact FnAt.of (by k_asm) (by k_mem)) ?_)) | ((fail_if_success (with_reducible refine isWp ?_)); dsimp only)))
    rename News _ _ _ _ => N8
    refine len_ints_fit (N8.isList (.tail _ (.tail _ (.head _)))) hiC (by rw [List.length_append, List.length_replicate]; simp only [List.length_cons, List.length_nil]; omega) ?_
    (try dsimp only)
    (repeat' (first | ((with_reducible refine tokN ?_); intro _) | (k_unfold; (try dsimp only)) | ((with_reducible refine isWp ?_); (fail_if_success (with_reducible first | refine halt 0 (by constructor) ?_ | refine halt 17 (by constructor) ?_)); (first | (walk1; (try dsimp only)) | (dsimp only; walk1))) | ((with_reducible show _ ∧ wpAny _ _ _ _ _ _); (refine And.intro (by first | k_in | exact FnAt_fr (by k_asm) (by assumption) | exact FnAt.of (by k_asm) (by k_mem)) ?_)) | ((fail_if_success (with_reducible refine isWp ?_)); dsimp only)))
    rename Fr _ _ _ _ => F9
    rename News _ _ _ _ => N9
    exact ret _ _ _ _ _ _ _ _ _ _ _ _ _ _ _ L F9.keep (N9 _ (.tail _ (.tail _ (.tail _ (.head _))))) (N9 _ (.tail _ (.tail _ (.tail _ (.tail _ (.head _)))))) (N9 _ (.head _)) (N9 _ (.tail _ (.head _))) hiC
end

theorem lay_counts : ∀ k : Nat, k ≤ 6 → PyData.layable0 (.tuple ((List.replicate k (0 : Int) ++ [1]).map .int)) = true := by
  have key : ∀ k : Fin 7, PyData.layable0 (.tuple ((List.replicate k.val (0 : Int) ++ [1]).map .int)) = true := by decide +kernel
  intro k hk
  exact key ⟨k, by omega⟩
section
set_option maxHeartbeats 4000000 in
theorem indent_ok (w : World) (k : Nat) (size : Int) (tz : Tok) (hk : k ≤ 6) (hz1 : 1 ≤ size) (hz2 : size ≤ 3) (x dx Tn D : Nat) {loose : List Str} {mean : ExcName → Option Value} {mg mb : Str → Option Value} {A : Around} {s : Shared} {g : Heap} {Q E : Value → Shared → Prop} {ws : Str} {tx : Tok} {vsC : List Value} {a1 a2 a3 a4 a5 t1 t2 t3 : Tok} {bs : Bool} {e : Nat} (hiC : IntsAre vsC (List.replicate k 0 ++ [1]))
    (hA : A.handled = none) (hdp : A.depth + 10 < recursionLimit) (hu : A.units + 100 < cLine) (T : Top topProg loose mean mg mb g) (hg : ∀ b o, g.get? b = some o → s.heap.get? b = some o) (hsz : g.objs.size ≤ s.heap.objs.size)
    (hN : ∀ p ∈ [((x : Addr), instObj 166 dx), ((dx : Addr), dictOf [{ hash := PyData.keyHash w.params (Str.ofString "raw"), key := .str (Str.ofString "raw") a1, val := .str ws tx }, { hash := PyData.keyHash w.params (Str.ofString "n"), key := .str (Str.ofString "n") a2, val := .int ((k + 1 : Nat) : Int) t1 },
        { hash := PyData.keyHash w.params (Str.ofString "nt"), key := .str (Str.ofString "nt") a3, val := .int 1 t3 }, { hash := PyData.keyHash w.params (Str.ofString "norm"), key := .str (Str.ofString "norm") a4, val := .ref Tn },
        { hash := PyData.keyHash w.params (Str.ofString "is_simple"), key := .str (Str.ofString "is_simple") a5, val := .bool bs }] e), ((Tn : Addr), { cls := .type "tuple", data := .seq #[.ref D, .int 0 t2] }), ((D : Addr), { cls := .type "tuple", data := .seq vsC.toArray })], s.heap.get? p.1 = some p.2 ∧ g.get? p.1 = none) :
    (hd.heap_39 w.params).In g → (∀ h' tk t, (∀ b o, g.get? b = some o → h'.get? b = some o) → Q (.int (size * ((k : Int).fdiv size + 1)) t) { s with heap := h', toks := tk }) →
    wpAny (model PySem.Challenge.rw_sh0054_01.row.prog w) A (call (.ref 135) [.ref x, .int size tz]) Q E s := by
  k_fill
  intro X ret
  have XS := X.keeps hg
  have ho := XS 135 _ (by k_is)
  refine wpAny_call ?_
  refine' enterG (binds := [("self", .ref x), ("tabsize", .int size tz)]) hg hsz hN T ho rfl (codeRec_of XS ?k7) ?k8 ?k9 ?kB ?_ ?c2 ?c3 ?c4 ?c5
  case k7 => k_is
  case k8 => omega
  case k9 => exact BindsTo.of_eq rfl
  case kB => exact locs rfl
  case c2 => exact rfl
  case c3 => exact rfl
  case c4 => exact rfl
  case c5 => decide
  intro L h₁ hL hk₁ F N
  (try dsimp only)
  k_unmd
  (try k_fold)
  clear ho XS
  (repeat' (first | (k_unfold; (try dsimp only)) | ((with_reducible refine isWp ?_); (fail_if_success (with_reducible first | refine halt 0 (by constructor) ?_)); (first | (walk1; (try dsimp only)) | (dsimp only; walk1))) | ((with_reducible show _ ∧ wpAny _ _ _ _ _ _); (refine And.intro (by first | k_in | exact FnAt_fr (by k_asm) (by assumption) | exact FnAt.of (by k_asm) (by k_mem)) ?_)) | ((fail_if_success (with_reducible refine isWp ?_)); dsimp only)))
  rename Fr _ _ _ _ => F2
  rename News _ _ _ _ => N2
  have hlenC : vsC.length = k + 1 := by rw [hiC.length]; simp
  have hT2 := N2.isTup (a := D) (items := vsC.toArray) (by k_mem)
  refine PyProof.Rows.len_tuple hT2 (by rw [List.size_toArray]; omega) ?_
  rw [List.size_toArray, hlenC]
  (try dsimp only)
  (repeat' (first | (k_unfold; (try dsimp only)) | ((with_reducible refine isWp ?_); (fail_if_success (with_reducible first | refine halt 0 (by constructor) ?_)); (first | (walk1; (try dsimp only)) | (dsimp only; walk1))) | ((with_reducible show _ ∧ wpAny _ _ _ _ _ _); (refine And.intro (by first | k_in | exact FnAt_fr (by k_asm) (by assumption) | exact FnAt.of (by k_asm) (by k_mem)) ?_)) | ((fail_if_success (with_reducible refine isWp ?_)); dsimp only)))
  rename Fr _ _ _ _ => F3
  rename News _ _ _ _ => N3
  rename IsRange _ _ _ _ _ _ _ _ => R3
  have lay := lay_counts k hk
  generalize hNL : List.cons _ _ = NL at N3
  refine iter_range (env := envX _ _ L _ _ _) (fun m₀ j m news => news = NL ∧ (∀ y, y ≠ Str.ofString "i" → y ≠ Str.ofString "il" → m y = m₀ y) ∧ ∃ t, m (Str.ofString "il") = some (.int (if size + j = k + 1 ∧ 0 < j then (k : Int).fdiv size else 0) t)) hA R3
    (small_one (by omega) (by omega) (by omega) (by omega)) (rangeSize_nat _ _) F3 N3 ⟨rfl, fun _ _ _ => rfl, ?_⟩ ?_ ?_
  · refine ⟨?tt, ?e0⟩
    case e0 =>
      rw [show (if size + ((0 : Nat) : Int) = k + 1 ∧ 0 < 0 then (k : Int).fdiv size else 0) = 0 from if_neg (by omega)]
      exact rfl
  · rintro I j i ti m₁ news₁ h tk own hI hj hi ⟨rfl, hm, til, hil⟩ hnI hown F5 N5
    refine cutQ fun Qr hQr => ?_
    subst hNL
    have hi' : i = size + (j : Int) := by omega
    have hik : i ≤ k := by omega
    rw [if_neg (by omega)] at hil
    rw [map2 hm, hil] at F5
    generalize m₁ (Str.ofString "i") = u1 at F5
    clear hm hil m₁ F3 R3
    replace F5 : Fr g L h _ := F5
    replace N5 : News g L h _ := N5
    (try dsimp only at F5)
    have hi0 : 0 ≤ i := by omega
    (repeat' (first | (k_unfold; (try dsimp only)) | ((with_reducible refine isWp ?_); (fail_if_success (with_reducible first | refine halt 0 (by constructor) ?_)); (first | (walk1; (try dsimp only)) | (dsimp only; walk1))) | ((with_reducible show _ ∧ wpAny _ _ _ _ _ _); (refine And.intro (by first | k_in | exact FnAt_fr (by k_asm) (by assumption) | exact FnAt.of (by k_asm) (by k_mem)) ?_)) | ((fail_if_success (with_reducible refine isWp ?_)); dsimp only)))
    rename News _ _ _ _ => N6
    have hG : (List.replicate k (0 : Int) ++ [1]).getD i.toNat 0 = if i = k then 1 else 0 := by
      by_cases e : i = k
      · rw [if_pos e, List.getD_eq_getElem?_getD, List.getElem?_append_right (by simp; omega)]; simp [show i.toNat - k = 0 by omega]
      · rw [if_neg e, List.getD_eq_getElem?_getD, List.getElem?_append_left (by simp; omega), List.getElem?_replicate, if_pos (by omega)]; rfl
    refine item_tuple_intsL (PyProof.Rows.News.isTup N6 (a := D) (items := vsC.toArray) (List.mem_append_right _ (.tail _ (.tail _ (.tail _ (.head _)))))) hiC lay hi0 (by simp; omega) fun t9 => ?_
    rw [hG]
    (try dsimp only)
    (repeat' (first | (k_unfold; (try dsimp only)) | ((with_reducible refine isWp ?_); (fail_if_success (with_reducible first | refine halt 0 (by constructor) ?_)); (first | (walk1; (try dsimp only)) | (dsimp only; walk1))) | ((with_reducible show _ ∧ wpAny _ _ _ _ _ _); (refine And.intro (by first | k_in | exact FnAt_fr (by k_asm) (by assumption) | exact FnAt.of (by k_asm) (by k_mem)) ?_)) | ((fail_if_success (with_reducible refine isWp ?_)); dsimp only)))
    rename Fr _ _ _ _ => F7
    rename News _ _ _ _ => N7
    have hval : 0 + i.fdiv size * (if i = k then 1 else 0) = if size + ((j + 1 : Nat) : Int) = k + 1 ∧ 0 < j + 1 then (k : Int).fdiv size else 0 := by
      by_cases e : i = k
      · rw [if_pos e, if_pos ⟨by omega, by omega⟩, e]; omega
      · rw [if_neg e, if_neg (fun h => e (by omega))]; omega
    rw [hval] at F7
    refine hQr _ _ ?_
    refine ⟨_, _, _, _, rfl, F7, N7, hnI, rfl, ?_, ?tu, ?e2⟩
    case e2 => exact rfl
    intro y h1 h2; simp [h1, h2]
  · rintro m₁ news₁ h tk ⟨rfl, hm, til, hil⟩ F5 N5
    subst hNL
    rw [map2 hm, hil] at F5
    generalize m₁ (Str.ofString "i") = u1 at F5
    clear hm hil m₁ F3 R3
    replace F5 : Fr g L h _ := F5
    replace N5 : News g L h _ := N5
    (try dsimp only at F5)
    dsimp only
    (repeat' (first | (k_unfold; (try dsimp only)) | ((with_reducible refine isWp ?_); (fail_if_success (with_reducible first | refine halt 0 (by constructor) ?_)); (first | (walk1; (try dsimp only)) | (dsimp only; walk1))) | ((with_reducible show _ ∧ wpAny _ _ _ _ _ _); (refine And.intro (by first | k_in | exact FnAt_fr (by k_asm) (by assumption) | exact FnAt.of (by k_asm) (by k_mem)) ?_)) | ((fail_if_success (with_reducible refine isWp ?_)); dsimp only)))
    rename Fr _ _ _ _ => F6
    have hres : 0 + size * ((if size + (((((k + 1 : Nat) : Int) - size).toNat : Nat) : Int) = k + 1 ∧ 0 < (((k + 1 : Nat) : Int) - size).toNat then (k : Int).fdiv size else 0) + 1) = size * ((k : Int).fdiv size + 1) := by
      by_cases e : size ≤ k
      · rw [if_pos ⟨by omega, by omega⟩]; omega
      · rw [if_neg (by omega), Int.fdiv_eq_ediv_of_nonneg _ (by omega), Int.ediv_eq_zero_of_lt (by omega) (by omega)]; omega
    rw [hres]
    exact ret _ _ _ F6.keep
end

section
noncomputable def wsDict (w : World) (ws : Str) (tx : Tok) (k : Nat) (a1 a2 a3 a4 a5 t1 t3 : Tok) (Tn : Nat) (bs : Bool) (e : Nat) : Obj :=
  dictOf [{ hash := PyData.keyHash w.params (Str.ofString "raw"), key := .str (Str.ofString "raw") a1, val := .str ws tx }, { hash := PyData.keyHash w.params (Str.ofString "n"), key := .str (Str.ofString "n") a2, val := .int ((k + 1 : Nat) : Int) t1 },
        { hash := PyData.keyHash w.params (Str.ofString "nt"), key := .str (Str.ofString "nt") a3, val := .int 1 t3 }, { hash := PyData.keyHash w.params (Str.ofString "norm"), key := .str (Str.ofString "norm") a4, val := .ref Tn },
        { hash := PyData.keyHash w.params (Str.ofString "is_simple"), key := .str (Str.ofString "is_simple") a5, val := .bool bs }] e
theorem ws_text : ∀ k : Nat, k ≤ 6 → (Txt.mul (Str.ofString " ") (k : Int) ++ Str.ofString "\t").cps.toList = List.replicate k 32 ++ [9] := by
  have key : ∀ k : Fin 7, (Txt.mul (Str.ofString " ") ((k.val : Nat) : Int) ++ Str.ofString "\t").cps.toList = List.replicate k.val 32 ++ [9] := by decide +kernel
  intro k hk
  exact key ⟨k, by omega⟩
/-- hidden objects: what stands elsewhere, and what the hidden ground says of it -/
theorem back_none {g h g2 : Heap} {l : List Addr} {a : Addr} (hk : ∀ b o, g.get? b = some o → h.get? b = some o) (hb : ∀ b o, b ∉ l → h.get? b = some o → g2.get? b = some o) (hl : ∀ b ∈ l, g.get? b = none) (h2 : g2.get? a = none) : g.get? a = none := by
  cases e : g.get? a with
  | none => rfl
  | some o =>
    have ha : a ∉ l := fun q => by rw [hl a q] at e; cases e
    rw [hb a o ha (hk a o e)] at h2; cases h2
theorem init_use (w : World) (k : Nat) (tx : Tok) (hk : k ≤ 6) (x dx : Nat) (hxd : dx < x) {loose : List Str} {mean : ExcName → Option Value} {mg mb : Str → Option Value} {A : Around} {s : Shared} {g : Heap} {L : Addr} {m : Str → Option Value} {news : List (Addr × Obj)} {R : Result → Shared → Prop}
    (hA : A.handled = none) (hdp : A.depth + 10 < recursionLimit) (hu : A.units + 100 < cLine) (X : (hd.heap_39 w.params).In g) (T : Top topProg loose mean mg mb g) (F : Fr g L s.heap m) (N : News g L s.heap ((x, instObj 166 dx) :: (dx, emptyDict) :: news)) (l3 : ∀ p ∈ news, p.1 < dx)
    (ws : Str) (hws : ws.cps.toList = List.replicate k 32 ++ [9])
    (ret : ∀ h' tk (Tn D : Nat) vsC a1 a2 a3 a4 a5 t1 t2 t3 bs e, Fr g L h' m → News g L h' ((x, instObj 166 dx) :: (dx, wsDict w ws tx k a1 a2 a3 a4 a5 t1 t3 Tn bs e) :: (Tn, { cls := .type "tuple", data := .seq #[.ref D, .int 0 t2] }) :: (D, { cls := .type "tuple", data := .seq vsC.toArray }) :: news) →
      IntsAre vsC (List.replicate k 0 ++ [1]) → (∀ p ∈ news, p.1 ∉ [x, dx, Tn, D]) → R (.ok (.ret (.ref x))) { s with heap := h', toks := tk }) :
    codeAny (model PySem.Challenge.rw_sh0054_01.row.prog w) A (.call (.ref 121) ⟨[.ref x, .str ws tx], []⟩) (InitBack x R) s := by
  have z1 := N _ (.head _)
  have z2 := N _ (.tail _ (.head _))
  obtain ⟨g2, hg2, hsz2, hN2, X2, T2, hb2⟩ := hide_ground (tl := [(x, instObj 166 dx), (dx, emptyDict)]) F.keep (fun p hp => ⟨(N p (by simp only [List.mem_cons, List.not_mem_nil, or_false] at hp ⊢; rcases hp with h | h <;> simp [h])).1, (N p (by simp only [List.mem_cons, List.not_mem_nil, or_false] at hp ⊢; rcases hp with h | h <;> simp [h])).2.2⟩) X T
  have hl : ∀ b ∈ [x, dx], g.get? b = none := fun b hb => by
    simp only [List.mem_cons, List.not_mem_nil, or_false] at hb
    rcases hb with rfl | rfl
    · exact z1.2.2
    · exact z2.2.2
  have hL : L ∉ [x, dx] := fun q => by
    simp only [List.mem_cons, List.not_mem_nil, or_false] at q
    rcases q with q | q
    · exact z1.2.1 q.symm
    · exact z2.2.1 q.symm
  have hn : ∀ p ∈ news, p.1 ∉ [x, dx] := fun p hp q => by
    simp only [List.mem_cons, List.not_mem_nil, or_false] at q
    have := l3 p hp
    rcases q with q | q
    · rw [q] at this; exact absurd this (Nat.not_lt.mpr (Nat.le_of_lt hxd))
    · rw [q] at this; exact absurd this (Nat.lt_irrefl _)
  refine init_ok w k tx hk x dx hxd hA hdp hu T2 hg2 hsz2 hN2 ws hws X2 ?_
  intro h' tk Tn D vsC a1 a2 a3 a4 a5 t1 t2 t3 bs e LL hk2 q1 q2 q3 q4 hi
  refine ⟨rfl, ret h' tk Tn D vsC a1 a2 a3 a4 a5 t1 t2 t3 bs e ?_ ?_ hi ?_⟩
  · exact ⟨F.ns.at' fun o e => hk2 _ _ (hb2 _ _ hL e), fun b o e => hk2 _ _ (hb2 _ _ (fun q => by rw [hl b q] at e; cases e) (F.keep b o e)), F.above⟩
  · have hne : ∀ a, g2.get? a = none → a ≠ L := fun a ha q => by
      obtain ⟨o, _, _, eo, _⟩ := id F.ns
      rw [q, hb2 L o hL eo] at ha; cases ha
    intro p hp
    simp only [List.mem_cons] at hp
    rcases hp with rfl | rfl | rfl | rfl | hp
    · exact ⟨q1.1, z1.2⟩
    · exact ⟨q2.1, z2.2⟩
    · exact ⟨q3.1, hne _ q3.2.2, back_none F.keep hb2 hl q3.2.2⟩
    · exact ⟨q4.1, hne _ q4.2.2, back_none F.keep hb2 hl q4.2.2⟩
    · have z := N p (.tail _ (.tail _ hp))
      exact ⟨hk2 _ _ (hb2 _ _ (hn p hp) z.1), z.2⟩
  · intro p hp q
    simp only [List.mem_cons, List.not_mem_nil, or_false] at q
    have z := N p (.tail _ (.tail _ hp))
    have zz := hb2 _ _ (hn p hp) z.1
    rcases q with q | q | q | q
    · exact hn p hp (by rw [q]; exact .head _)
    · exact hn p hp (by rw [q]; exact .tail _ (.head _))
    · rw [q, q3.2.2] at zz; cases zz
    · rw [q, q4.2.2] at zz; cases zz
theorem indent_use (w : World) (k : Nat) (size : Int) (tz : Tok) (hk : k ≤ 6) (hz1 : 1 ≤ size) (hz2 : size ≤ 3) (x dx Tn D : Nat) {loose : List Str} {mean : ExcName → Option Value} {mg mb : Str → Option Value} {A : Around} {s : Shared} {g : Heap} {L : Addr} {m : Str → Option Value} {news : List (Addr × Obj)} {Q E : Value → Shared → Prop} {ws : Str} {tx : Tok} {vsC : List Value} {a1 a2 a3 a4 a5 t1 t2 t3 : Tok} {bs : Bool} {e : Nat} (hiC : IntsAre vsC (List.replicate k 0 ++ [1]))
    (hA : A.handled = none) (hdp : A.depth + 10 < recursionLimit) (hu : A.units + 100 < cLine) (X : (hd.heap_39 w.params).In g) (T : Top topProg loose mean mg mb g) (F : Fr g L s.heap m)
    (N : News g L s.heap ((x, instObj 166 dx) :: (dx, wsDict w ws tx k a1 a2 a3 a4 a5 t1 t3 Tn bs e) :: (Tn, { cls := .type "tuple", data := .seq #[.ref D, .int 0 t2] }) :: (D, { cls := .type "tuple", data := .seq vsC.toArray }) :: news)) (l3 : ∀ p ∈ news, p.1 ∉ [x, dx, Tn, D])
    (ret : ∀ h' tk t, Fr g L h' m → News g L h' news → (∀ b o, b ∉ [x, dx, Tn, D] → s.heap.get? b = some o → h'.get? b = some o) → Q (.int (size * ((k : Int).fdiv size + 1)) t) { s with heap := h', toks := tk }) :
    wpAny (model PySem.Challenge.rw_sh0054_01.row.prog w) A (call (.ref 135) [.ref x, .int size tz]) Q E s := by
  have hsub : ∀ p ∈ [(x, instObj 166 dx), (dx, wsDict w ws tx k a1 a2 a3 a4 a5 t1 t3 Tn bs e), (Tn, ({ cls := .type "tuple", data := .seq #[.ref D, .int 0 t2] } : Obj)), (D, { cls := .type "tuple", data := .seq vsC.toArray })], p ∈ ((x, instObj 166 dx) :: (dx, wsDict w ws tx k a1 a2 a3 a4 a5 t1 t3 Tn bs e) :: (Tn, ({ cls := .type "tuple", data := .seq #[.ref D, .int 0 t2] } : Obj)) :: (D, { cls := .type "tuple", data := .seq vsC.toArray }) :: news) := fun p hp => by
    revert p; ((repeat (first | exact List.forall_mem_nil _ | (refine List.forall_mem_cons.mpr ⟨?_, ?_⟩; focus ((with_reducible ((repeat (first | exact List.mem_cons_self | refine List.mem_cons_of_mem _ ?_ | (refine List.mem_append_left _ ?_; ((repeat (first | exact List.mem_cons_self | refine List.mem_cons_of_mem _ ?_ | assumption)); (first | done | fail "m"))) | refine List.mem_append_right _ ?_ | assumption)); (first | done | fail "m"))))) | (refine List.forall_mem_append.mpr ⟨?_, ?_⟩; focus (intro p hp; (with_reducible ((repeat (first | exact List.mem_cons_self | refine List.mem_cons_of_mem _ ?_ | (refine List.mem_append_left _ ?_; ((repeat (first | exact List.mem_cons_self | refine List.mem_cons_of_mem _ ?_ | assumption)); (first | done | fail "m"))) | refine List.mem_append_right _ ?_ | assumption)); (first | done | fail "m"))))) | (refine List.forall_mem_append.mpr ⟨?_, ?_⟩; focus ((repeat (first | exact List.forall_mem_nil _ | (refine List.forall_mem_cons.mpr ⟨?_, ?_⟩; focus ((with_reducible ((repeat (first | exact List.mem_cons_self | refine List.mem_cons_of_mem _ ?_ | (refine List.mem_append_left _ ?_; ((repeat (first | exact List.mem_cons_self | refine List.mem_cons_of_mem _ ?_ | assumption)); (first | done | fail "m"))) | refine List.mem_append_right _ ?_ | assumption)); (first | done | fail "m"))))))); (first | done | fail "m"))) | (intro p hp; (with_reducible ((repeat (first | exact List.mem_cons_self | refine List.mem_cons_of_mem _ ?_ | (refine List.mem_append_left _ ?_; ((repeat (first | exact List.mem_cons_self | refine List.mem_cons_of_mem _ ?_ | assumption)); (first | done | fail "m"))) | refine List.mem_append_right _ ?_ | assumption)); (first | done | fail "m")))))); (first | done | fail "m"))
  obtain ⟨g2, hg2, hsz2, hN2, X2, T2, hb2⟩ := hide_ground (tl := [(x, instObj 166 dx), (dx, wsDict w ws tx k a1 a2 a3 a4 a5 t1 t3 Tn bs e), (Tn, { cls := .type "tuple", data := .seq #[.ref D, .int 0 t2] }), (D, { cls := .type "tuple", data := .seq vsC.toArray })]) F.keep (fun p hp => ⟨(N p (hsub p hp)).1, (N p (hsub p hp)).2.2⟩) X T
  have hmem : ∀ b, b ∈ [x, dx, Tn, D] → ∃ p ∈ [(x, instObj 166 dx), (dx, wsDict w ws tx k a1 a2 a3 a4 a5 t1 t3 Tn bs e), (Tn, ({ cls := .type "tuple", data := .seq #[.ref D, .int 0 t2] } : Obj)), (D, { cls := .type "tuple", data := .seq vsC.toArray })], p.1 = b := fun b hb => by
    simp only [List.mem_cons, List.not_mem_nil, or_false] at hb
    rcases hb with rfl | rfl | rfl | rfl
    · exact ⟨_, .head _, rfl⟩
    · exact ⟨_, .tail _ (.head _), rfl⟩
    · exact ⟨_, .tail _ (.tail _ (.head _)), rfl⟩
    · exact ⟨_, .tail _ (.tail _ (.tail _ (.head _))), rfl⟩
  have hl : ∀ b ∈ [x, dx, Tn, D], g.get? b = none := fun b hb => by
    obtain ⟨p, hp, rfl⟩ := hmem b hb
    exact (N p (hsub p hp)).2.2
  have hL : L ∉ [x, dx, Tn, D] := fun q => by
    obtain ⟨p, hp, e⟩ := hmem L q
    exact (N p (hsub p hp)).2.1 e
  refine indent_ok w k size tz hk hz1 hz2 x dx Tn D hiC hA hdp hu T2 hg2 hsz2 hN2 X2 ?_
  intro h' tk t hk2
  refine ret h' tk t ?_ ?_ (fun b o hb e => hk2 _ _ (hb2 _ _ hb e))
  · exact ⟨F.ns.at' fun o e => hk2 _ _ (hb2 _ _ hL e), fun b o e => hk2 _ _ (hb2 _ _ (fun q => by rw [hl b q] at e; cases e) (F.keep b o e)), F.above⟩
  · intro p hp
    have z := N p (.tail _ (.tail _ (.tail _ (.tail _ hp))))
    exact ⟨hk2 _ _ (hb2 _ _ (l3 p hp) z.1), z.2⟩
theorem newListV_K {M : Model} {A : Around} {E : Value → Shared → Prop} {s : Shared} {g : Heap} {L : Addr} {m : Str → Option Value} {news : List (Addr × Obj)} {vs : List Value} {Q : Value → Shared → Prop} (F : Fr g L s.heap m) (N : News g L s.heap news) (hv : vs.length ≤ sizeLine)
    (h : ∀ D h', Fr g L h' m → News g L h' ((D, W.listOf vs.toArray 0) :: news) → L < D → (∀ p ∈ news, p.1 < D) → Q (.ref D) { s with heap := h' }) : wpAny M A (newList vs) Q E s :=
  wpAny_newList (h _ _ (F.push _) (News.push F N _) F.ns.lt fun p hp => Heap.lt_size (N p hp).1) hv
theorem near_bound (k : Nat) (size : Int) (hk : k ≤ 6) (h1 : 1 ≤ size) (h2 : size ≤ 3) : 0 ≤ size * ((k : Int).fdiv size + 1) ∧ size * ((k : Int).fdiv size + 1) ≤ 30 := by
  rw [Int.fdiv_eq_ediv_of_nonneg _ (by omega)]
  rcases (show size = 1 ∨ size = 2 ∨ size = 3 by omega) with rfl | rfl | rfl <;> omega
noncomputable def shareOf (size h : Int) : List Int := if size * (h.fdiv size + 1) = size * ((h - 1).fdiv size + 1) then [] else [(size * ((h - 1).fdiv size + 1)).fdiv size]
set_option maxHeartbeats 4000000 in
theorem share_ok (w : World) (hh size : Int) (th tz : Tok) (h1 : 1 ≤ hh) (h2 : hh ≤ 6) (hz1 : 1 ≤ size) (hz2 : size ≤ 3) :
    PureT w 196 300 2700 [.int hh th, .int size tz] (fun _ => True) (fun z v h => ∃ D vs e, v = .ref D ∧ z ≤ D ∧ h.get? D = some (W.listOf vs.toArray e) ∧ IntsAre vs (shareOf size hh)) := by
  unfold PureT; k_fill; intro loose mean mg mb A s Q E g tl hA hdp hu XK T hg hsz hT hN _ hret
  obtain ⟨g', hg1, hsz1, hN1, X1, T1, hb1⟩ := hide_ground hg hN XK T
  refine wpAny_call ?_
  have XS := X1.keeps hg1
  have ho := XS 196 _ (by k_is)
  refine' enterG (binds := [("h", .int hh th), ("size", .int size tz)]) hg1 hsz1 hN1 T1 ho rfl (codeRec_of XS ?k7) ?k8 ?k9 ?kB ?_ ?c2 ?c3 ?c4 ?c5
  case k7 => k_is
  case k8 => omega
  case k9 => exact BindsTo.of_eq rfl
  case kB => exact locs rfl
  case c2 => exact rfl
  case c3 => exact rfl
  case c4 => exact rfl
  case c5 => decide
  intro L h₁ hL hk₁ F N
  (try dsimp only)
  k_unmd
  (try k_fold)
  clear hg hN XK T hsz ho XS
  (repeat' (first | (k_unfold; (try dsimp only)) | ((with_reducible refine isWp ?_); (fail_if_success (with_reducible first | refine halt 0 (by constructor) ?_ | refine halt 17 (by constructor) ?_)); (first | (walk1; (try dsimp only)) | (dsimp only; walk1))) | ((with_reducible show _ ∧ wpAny _ _ _ _ _ _); (refine And.intro (by first | k_in | exact FnAt_fr (by k_asm) (by assumption) | exact FnAt.of (by k_asm) (by k_mem)) ?_)) | ((fail_if_success (with_reducible refine isWp ?_)); dsimp only)))
  rename Fr _ _ _ _ => F2
  rename News _ _ _ _ => N2
  obtain ⟨k, rfl⟩ : ∃ k : Nat, hh = (k : Int) := ⟨hh.toNat, by omega⟩
  have hk6 : k ≤ 6 := by omega
  refine wpAny_call ?_
  refine' make_K (fI := 121) F2 N2 (X1.keeps F2.keep) ?ma ?mb ?mc ?_
  case ma => kernel_rfl
  case mb => kernel_rfl
  case mc => kernel_rfl
  intro x dx h3 F3 N3 l3 hdx
  refine' init_use w k _ hk6 x dx hdx ?hA ?dp ?un X1 T1 ?F ?N l3 _ (ws_text k hk6) ?_
  case hA => exact hA
  case F => exact F3
  case N => exact N3
  case dp => show A.depth + 1 + 1 + 10 < _; omega
  case un => first | (show A.units + 3 + 1 + 100 < _; omega) | (show A.units + 3 + 2 + 100 < _; omega) | (show A.units + 3 + 3 + 100 < _; omega) | (show A.units + 3 + 4 + 100 < _; omega)
  intro h4 tk4 Tn D vsC a1 a2 a3 a4 a5 t1 t2 t3 bs e F4 N4 hiC l4
  clear F2 N2 F3 N3
  (try dsimp only)
  unfold wsDict at N4
  (repeat' (first | (k_unfold; (try dsimp only)) | ((with_reducible refine isWp ?_); (fail_if_success (with_reducible first | refine halt 0 (by constructor) ?_ | refine halt 17 (by constructor) ?_)); (first | (walk1; (try dsimp only)) | (dsimp only; walk1))) | ((with_reducible show _ ∧ wpAny _ _ _ _ _ _); (refine And.intro (by first | k_in | exact FnAt_fr (by k_asm) (by assumption) | exact FnAt.of (by k_asm) (by k_mem)) ?_)) | ((fail_if_success (with_reducible refine isWp ?_)); dsimp only)))
  refine' indent_use w k size tz hk6 hz1 hz2 x dx Tn D hiC ?hA ?dp ?un X1 T1 F4 N4 l4 ?_
  case hA => exact hA
  case dp => show A.depth + 1 + 10 < _; omega
  case un => show A.units + 3 + 100 < _; omega
  intro h5 tk5 tf F5 N5 _
  clear F4 N4 l4 l3 hiC
  (try dsimp only)
  (repeat' (first | (k_unfold; (try dsimp only)) | ((with_reducible refine isWp ?_); (fail_if_success (with_reducible first | refine halt 0 (by constructor) ?_ | refine halt 17 (by constructor) ?_)); (first | (walk1; (try dsimp only)) | (dsimp only; walk1))) | ((with_reducible show _ ∧ wpAny _ _ _ _ _ _); (refine And.intro (by first | k_in | exact FnAt_fr (by k_asm) (by assumption) | exact FnAt.of (by k_asm) (by k_mem)) ?_)) | ((fail_if_success (with_reducible refine isWp ?_)); dsimp only)))
  rename Fr _ _ _ _ => F6
  rename News _ _ _ _ => N6
  (try clear F5 N5)
  rw [show (k : Int) - 1 = ((k - 1 : Nat) : Int) by omega]
  refine wpAny_call ?_
  refine' make_K (fI := 121) F6 N6 (X1.keeps F6.keep) ?ma2 ?mb2 ?mc2 ?_
  case ma2 => kernel_rfl
  case mb2 => kernel_rfl
  case mc2 => kernel_rfl
  intro y dy h7 F7 N7 l7 hdy
  refine' init_use w (k - 1) _ (by omega) y dy hdy ?hA ?dp ?un X1 T1 ?F ?N l7 _ (ws_text (k - 1) (by omega)) ?_
  case hA => exact hA
  case F => exact F7
  case N => exact N7
  case dp => show A.depth + 1 + 1 + 10 < _; omega
  case un => first | (show A.units + 3 + 1 + 100 < _; omega) | (show A.units + 3 + 2 + 100 < _; omega) | (show A.units + 3 + 3 + 100 < _; omega) | (show A.units + 3 + 4 + 100 < _; omega)
  intro h8 tk8 Tn2 D2 vsC2 b1 b2 b3 b4 b5 u1 u2 u3 bs2 e2 F8 N8 hiC2 l8
  (try clear F6 N6 F7 N7)
  (try dsimp only)
  unfold wsDict at N8
  (repeat' (first | (k_unfold; (try dsimp only)) | ((with_reducible refine isWp ?_); (fail_if_success (with_reducible first | refine halt 0 (by constructor) ?_ | refine halt 17 (by constructor) ?_)); (first | (walk1; (try dsimp only)) | (dsimp only; walk1))) | ((with_reducible show _ ∧ wpAny _ _ _ _ _ _); (refine And.intro (by first | k_in | exact FnAt_fr (by k_asm) (by assumption) | exact FnAt.of (by k_asm) (by k_mem)) ?_)) | ((fail_if_success (with_reducible refine isWp ?_)); dsimp only)))
  refine' indent_use w (k - 1) size tz (by omega) hz1 hz2 y dy Tn2 D2 hiC2 ?hA ?dp ?un X1 T1 F8 N8 l8 ?_
  case hA => exact hA
  case dp => show A.depth + 1 + 10 < _; omega
  case un => show A.units + 3 + 100 < _; omega
  intro h9 tk9 tn F9 N9 _
  clear F8 N8 l8 l7 hiC2
  (try dsimp only)
  (repeat' (first | (k_unfold; (try dsimp only)) | ((with_reducible refine isWp ?_); (fail_if_success (with_reducible first | refine halt 0 (by constructor) ?_ | refine halt 17 (by constructor) ?_)); (first | (walk1; (try dsimp only)) | (dsimp only; walk1))) | ((with_reducible show _ ∧ wpAny _ _ _ _ _ _); (refine And.intro (by first | k_in | exact FnAt_fr (by k_asm) (by assumption) | exact FnAt.of (by k_asm) (by k_mem)) ?_)) | ((fail_if_success (with_reducible refine isWp ?_)); dsimp only)))
  rename Fr _ _ _ _ => F10
  rename News _ _ _ _ => N10
  have hb := near_bound (k - 1) size (by omega) hz1 hz2
  have hLs : s.heap.objs.size ≤ L := Nat.le_of_eq hL
  have hk1 : ((k - 1 : Nat) : Int) = (k : Int) - 1 := by omega
  by_cases hc : size * ((k : Int).fdiv size + 1) = size * (((k - 1 : Nat) : Int).fdiv size + 1)
  · rw [if_pos (by simpa using hc)]
    (repeat' (first | (k_unfold; (try dsimp only)) | ((with_reducible refine isWp ?_); (fail_if_success (with_reducible first | refine halt 0 (by constructor) ?_ | refine halt 17 (by constructor) ?_)); (first | (walk1; (try dsimp only)) | (dsimp only; walk1))) | ((with_reducible show _ ∧ wpAny _ _ _ _ _ _); (refine And.intro (by first | k_in | exact FnAt_fr (by k_asm) (by assumption) | exact FnAt.of (by k_asm) (by k_mem)) ?_)) | ((fail_if_success (with_reducible refine isWp ?_)); dsimp only)))
    refine newListV_K F10 N10 (by decide) ?_
    intro R hR FR NR hLR _
    refine hret _ _ _ tl (fun b o hb e => FR.keep b o (hb1 b o hb e)) hT (fun p hp => ⟨(NR p (.tail _ hp)).1, .inl (List.mem_map_of_mem hp)⟩) ⟨R, [], 0, rfl, Nat.le_trans hLs (Nat.le_of_lt hLR), (NR _ (.head _)).1, ?_⟩
    unfold shareOf
    rw [← hk1, if_pos hc]; exact .nil
  · rw [if_neg (by simpa using hc)]
    (repeat' (first | (k_unfold; (try dsimp only)) | ((with_reducible refine isWp ?_); (fail_if_success (with_reducible first | refine halt 0 (by constructor) ?_ | refine halt 17 (by constructor) ?_)); (first | (walk1; (try dsimp only)) | (dsimp only; walk1))) | ((with_reducible show _ ∧ wpAny _ _ _ _ _ _); (refine And.intro (by first | k_in | exact FnAt_fr (by k_asm) (by assumption) | exact FnAt.of (by k_asm) (by k_mem)) ?_)) | ((fail_if_success (with_reducible refine isWp ?_)); dsimp only)))
    rename Fr _ _ _ _ => F11
    rename News _ _ _ _ => N11
    have hLz := F11.ns.lt
    refine (intdivmod_ok w (size * (((k - 1 : Nat) : Int).fdiv size + 1)) size tn tz (by omega) (by omega) (by omega) (by omega)).use (news := []) hA (by show A.depth + 1 + _ < _; exact room2 ‹_› (by with_unfolding_all exact rfl)) (by show A.units + 3 + _ < _; exact room2 ‹_› (by with_unfolding_all exact rfl)) X1 T1 F11 (by rw [List.append_nil]; exact N11) hT (fun _ h => nomatch h) trivial ?_
    rintro _ h12 tk12 tl3 F12 N12 hT3 _ hk3 ha3 ⟨T, v1, v2, rfl, hzT, hTg⟩
    rw [List.append_nil] at N12
    replace N12 := news_cons (p := (T, _)) (fresh_news F11 hzT hTg) N12
    dsimp only
    (repeat' (first | (k_unfold; (try dsimp only)) | ((with_reducible refine isWp ?_); (fail_if_success (with_reducible first | refine halt 0 (by constructor) ?_ | refine halt 17 (by constructor) ?_)); (first | (walk1; (try dsimp only)) | (dsimp only; walk1))) | ((with_reducible show _ ∧ wpAny _ _ _ _ _ _); (refine And.intro (by first | k_in | exact FnAt_fr (by k_asm) (by assumption) | exact FnAt.of (by k_asm) (by k_mem)) ?_)) | ((fail_if_success (with_reducible refine isWp ?_)); dsimp only)))
    walk1
    (try dsimp only)
    (repeat' (first | (k_unfold; (try dsimp only)) | ((with_reducible refine isWp ?_); (fail_if_success (with_reducible first | refine halt 0 (by constructor) ?_ | refine halt 17 (by constructor) ?_)); (first | (walk1; (try dsimp only)) | (dsimp only; walk1))) | ((with_reducible show _ ∧ wpAny _ _ _ _ _ _); (refine And.intro (by first | k_in | exact FnAt_fr (by k_asm) (by assumption) | exact FnAt.of (by k_asm) (by k_mem)) ?_)) | ((fail_if_success (with_reducible refine isWp ?_)); dsimp only)))
    rename Fr _ _ _ _ => F13
    rename News _ _ _ _ => N13
    refine' newListV_K ?F ?N ?v ?_
    case F => exact F13
    case N => exact N13
    case v => exact Nat.le_of_ble_eq_true rfl
    intro R hR FR NR hLR _
    refine hret _ _ _ tl3 (fun b o hb e => FR.keep b o (hb1 b o hb e)) hT3 (fun p hp => ⟨(NR p (.tail _ (.tail _ hp))).1, (ha3 p hp).imp id fun q => Nat.le_trans (Nat.le_of_lt (hL ▸ hLz)) q⟩) ⟨R, _, 0, rfl, Nat.le_trans hLs (Nat.le_of_lt hLR), (NR _ (.head _)).1, ?_⟩
    unfold shareOf
    rw [← hk1, if_neg hc]; exact .cons _ _ .nil
end

/-- the partitions of left into parts of at most most, as _law_parts lists them; f is fuel -/
noncomputable def partsOf : Nat → Nat → Nat → List (List Int)
  | 0, _, _ => [[]]
  | f + 1, left, most => if left = 0 then [[]] else (List.range (min left most)).flatMap fun i => (partsOf f (left - (min left most - i)) (min left most - i)).map fun r => ((min left most - i : Nat) : Int) :: r
noncomputable def endsAll : List Str := [Str.ofString "\n", Str.ofString "\r", Str.ofString "\r\n", Str.ofString "\n", Str.ofString "\r"]
noncomputable def hooksOf (es : List Str) (p : List Int) : List Int := hookRows (pageOf (mailAt p es p.length)) (Txt.split (mailAt p es p.length) (Str.ofString "\r\n")).dropLast
noncomputable def prodOf (ns : List Int) : Int := ns.foldl (· * ·) 1
noncomputable def keptOf (size : Int) (hooks : List Int) : List Int := hooks.flatMap (shareOf size)
noncomputable def fullOf (n size : Int) : Int := prodOf ((List.range (n.fdiv size).toNat).map fun (i : Nat) => 1 + (i : Int))
noncomputable def toldOf (full y u : Int) (kept : List Int) : Int := full.fdiv (prodOf kept) * full.fdiv (prodOf kept) * prodOf (kept.map fun s => y * (s * s - u))
noncomputable def sumsAt (k : Nat) : Int := (((List.range k).map fun (i : Nat) => 1 + (i : Int)).filter fun d => (k : Int).fmod d == 0).sum
noncomputable def weightAt (size y u : Int) (j : Nat) : Int := if (j : Int).fmod size = 0 then sumsAt j - size * size * sumsAt ((j : Int).fdiv size).toNat * (1 + (u - 1) * y ^ ((j : Int).fdiv size).toNat) else sumsAt j
noncomputable def totalAt (size y u : Int) (terms : List Int) (k : Nat) : Nat → Int
  | 0 => 0
  | j + 1 => totalAt size y u terms k j + weightAt size y u (j + 1) * terms.getD (k - (j + 1)) 0
noncomputable def termsOf (size y u : Int) : Nat → List Int
  | 0 => [1]
  | k + 1 => termsOf size y u k ++ [(totalAt size y u (termsOf size y u k) (k + 1) (k + 1)).fdiv ((k : Int) + 1)]
def HookFacts (es : List Str) (p : List Int) (n : Nat) : Prop :=
  p.length ≤ 6 ∧ (∀ x ∈ p, 0 < x ∧ x ≤ 6) ∧ (∀ k, k < p.length → (preAt p es (mailAt p es k) k).cps.size ≤ 300 ∧ (q1 (preAt p es (mailAt p es k) k)).cps.size ≤ 300) ∧ (∀ k, k ≤ p.length → (mailAt p es k).length ≤ 300) ∧
  (Txt.replace (mailAt p es p.length) (Str.ofString ".") (Str.ofString "o")).length ≤ 300 ∧ ((Txt.split (mailAt p es p.length) (Str.ofString "\r\n")).length ≤ 20 ∧ ∀ row ∈ (Txt.split (mailAt p es p.length) (Str.ofString "\r\n")).dropLast, row.length ≤ 7) ∧
  (hooksOf es p).length = n ∧ ∀ h ∈ hooksOf es p, 1 ≤ h ∧ h ≤ (n : Int)
def KeptFacts (n size : Int) (hs : List Int) : Prop :=
  (keptOf size hs).length ≤ 6 ∧ (∀ s ∈ keptOf size hs, 1 ≤ s ∧ s ≤ 6) ∧ 0 < prodOf (keptOf size hs) ∧ prodOf (keptOf size hs) < 1073741824 ∧ (fullOf n size).fmod (prodOf (keptOf size hs)) = 0
noncomputable def toldsOf (es : List Str) (n : Nat) (size y u : Int) : List Int := (partsOf 7 n n).map fun p => toldOf (fullOf n size) y u (keptOf size (hooksOf es p))

section
open LCg LCt
variable {prog : Program} {w : World} {A : Around} {E : Value → Shared → Prop} {s : Shared} {h₀ : Heap} {L : Addr} {m : Str → Option Value} {env : Env}
theorem CompEnd.mono {I C D : Addr} {oI oC oD : Obj} {s₁ s₂ : Shared} {S : List (Addr × Obj) → Prop} {r r' : Value → List (Addr × Obj) → Prop} {y : Value} (h : CompEnd h₀ L m s₁ I oI C oC D oD S r y s₂) (hr : ∀ n, S n → r y n → r' y n) : CompEnd h₀ L m s₁ I oI C oC D oD S r' y s₂ := by
  obtain ⟨h', tk, n, e, F, N, o, hS, x⟩ := h
  exact ⟨h', tk, n, e, F, N, o, hS, hr n hS x⟩
theorem CompRest.inv {elt : PySem.Expr} {x : Str} {scope : Scope} {cl : List (Str × Addr)} {S : List (Addr × Obj) → Prop} {P : Nat → Value → Prop} {Fin : List Value → List (Addr × Obj) → Prop} {n : Nat} (J : Nat → List Value → List (Addr × Obj) → Prop)
    (turn : ∀ i ys news v I oI C oC D m₂ h tk (E' : Value → Shared → Prop), i < n → J i ys news → P i v → NsObj oC m₂ → m₂ x = some v → Fr h₀ L h m → News h₀ L h ((I, oI) :: (C, oC) :: (D, lst ys) :: news) → Off3 I C D news → ((@Ne Nat I C) ∧ (@Ne Nat I D) ∧ (@Ne Nat C D)) →
      wpAny (model prog w) A (eval elt (compEnvC scope cl C env)) (CompEnd h₀ L m { s with heap := h, toks := tk } I oI C oC D (lst ys) S (fun y news' => J (i + 1) (ys ++ [y]) news')) E' { s with heap := h, toks := tk })
    (fin : ∀ ys news, J n ys news → Fin ys news) : ∀ k i ys news, i + k = n → J i ys news → CompRest prog w A h₀ L m env elt x scope cl s S P Fin k i ys news
  | 0, i, ys, news, e, h => .zero (fin ys news (by rw [← e]; exact h))
  | k + 1, i, ys, news, e, h => .succ fun v I oI C oC D m₂ h' tk E' hP hC hx F N off ne =>
      wpAny_mono (turn i ys news v I oI C oC D m₂ h' tk E' (by omega) h hP hC hx F N off ne) (fun y s₂ q => CompEnd.mono q fun n' _ j => CompRest.inv J turn fin k (i + 1) _ _ (by omega) j) fun _ _ e => e
theorem CompRestT.inv {ct elt : PySem.Expr} {x : Str} {scope : Scope} {cl : List (Str × Addr)} {S : List (Addr × Obj) → Prop} {P : Nat → Value → Prop} {Fin : List Value → List (Addr × Obj) → Prop} {n : Nat} (J : Nat → List Value → List (Addr × Obj) → Prop)
    (turn : ∀ i ys news v I oI C oC D m₂ h tk (E' : Value → Shared → Prop), i < n → J i ys news → P i v → NsObj oC m₂ → m₂ x = some v → Fr h₀ L h m → News h₀ L h ((I, oI) :: (C, oC) :: (D, lst ys) :: news) → Off3 I C D news → ((@Ne Nat I C) ∧ (@Ne Nat I D) ∧ (@Ne Nat C D)) →
      wpAny (model prog w) A (isTrue ct (compEnvC scope cl C env) (eval ct (compEnvC scope cl C env))) (fun ok s' => if ok = true then
        wpAny (model prog w) A (eval elt (compEnvC scope cl C env)) (CompEnd h₀ L m { s with heap := h, toks := tk } I oI C oC D (lst ys) S (fun y news' => J (i + 1) (ys ++ [y]) news')) E' s'
        else CompEnd h₀ L m { s with heap := h, toks := tk } I oI C oC D (lst ys) S (fun _ news' => J (i + 1) ys news') Value.none s') E' { s with heap := h, toks := tk })
    (fin : ∀ ys news, J n ys news → Fin ys news) : ∀ k i ys news, i + k = n → J i ys news → CompRestT prog w A h₀ L m env ct elt x scope cl s S P Fin k i ys news
  | 0, i, ys, news, e, h => .zero (fin ys news (by rw [← e]; exact h))
  | k + 1, i, ys, news, e, h => .succ fun v I oI C oC D m₂ h' tk E' hP hC hx F N off ne =>
      wpAny_mono (turn i ys news v I oI C oC D m₂ h' tk E' (by omega) h hP hC hx F N off ne) (fun ok s₂ q => by
        cases ok with
        | true =>
          simp only [if_true] at q ⊢
          exact wpAny_mono q (fun y s₃ q' => CompEnd.mono q' fun n' _ j => CompRestT.inv J turn fin k (i + 1) _ _ (by omega) j) fun _ _ e => e
        | false =>
          simp only [Bool.false_eq_true, if_false] at q ⊢
          exact CompEnd.mono q fun n' _ j => CompRestT.inv J turn fin k (i + 1) _ _ (by omega) j) fun _ _ e => e
/-- a for over a range whose name is a cell: the store of the name is the turn's own -/
theorem iter_cell {r : Addr} {a b c : Int} {t u v : Tok} {n : Nat} {x : Str} {px : Pos} {body : List Stmt} {m₀ : Str → Option Value} {news : List (Addr × Obj)} {Q : Flow → Shared → Prop} (J : Nat → (Str → Option Value) → List (Addr × Obj) → Prop)
    (hh : A.handled = none) (hr : IsRange s.heap r a b c t u v) (hsmall : Builtin.Range.small a b c = true) (hn : Builtin.Range.rangeSize a b c = (n : Int)) (hE : PassesOwn (model prog w) A env E)
    (F : Fr h₀ env.locals s.heap m₀) (N : News h₀ env.locals s.heap news) (hj : J 0 m₀ news)
    (turn : ∀ I oI i k tv m₁ news₁ h tk, i < n → k = a + (i : Int) * c → J i m₁ news₁ → (∀ p ∈ news₁, p.1 ≠ I) → Fr h₀ env.locals h m₁ → News h₀ env.locals h ((I, oI) :: news₁) →
      wpAny (model prog w) A (storeName env x (.int k tv)) (fun _ s₂ => wpAny (model prog w) A (execs body env) (LEnd h₀ env.locals I [(I, oI)] (J (i + 1)) { s with heap := h, toks := tk } Q) E s₂) E { s with heap := h, toks := tk })
    (done : ∀ m₁ news₁ h tk, J n m₁ news₁ → Fr h₀ env.locals h m₁ → News h₀ env.locals h news₁ → Q .next { s with heap := h, toks := tk }) :
    wpAny (model prog w) A (pyIter (.ref r)) (fun it s₂ => codeAny (model prog w) A (.forLoop (.Name x px) it body [] env) (fun r s' => match r with | .ok f => Q f s' | .error e => cameBackBy (model prog w) A env E e s') s₂) E s := by
  refine wpAny_pyIter_range hr hsmall ?_
  have W := Walks.range (prog := prog) (w := w) hh s.heap.objs.size a c n
  have hIL : s.heap.objs.size ≠ env.locals := fun e => absurd F.ns.lt (e ▸ Nat.lt_irrefl _)
  have hI0 := next_is_new F
  refine codeAny_forLoop (fun k s' => ∃ h' tk m' news' i, s' = { s with heap := h', toks := tk } ∧ IsRangeIter h' s.heap.objs.size (a + ((i : Nat) : Int) * c) ((n : Int) - (i : Nat)) c ∧ Fr h₀ env.locals h' m' ∧ News h₀ env.locals h' news' ∧ (∀ p ∈ news', p.1 ≠ s.heap.objs.size) ∧ J i m' news' ∧ i ≤ n ∧ k = n + 1 - i) ?_ (n + 1)
    ⟨_, _, m₀, news, 0, rfl, ?_, F.push _, fun p hp => ⟨Heap.get?_push_of_some _ (N p hp).1, (N p hp).2⟩, fun p hp => Nat.ne_of_lt (Heap.lt_size (N p hp).1), hj, Nat.zero_le _, rfl⟩
  · rintro k s' ⟨h', tk, m', news', i, rfl, hst', F', N', off', hJ, hi, rfl⟩
    have nextF : ∀ h₁ : Heap, (∀ b o, b ∉ [s.heap.objs.size] → h'.get? b = some o → h₁.get? b = some o) → Fr h₀ env.locals h₁ m' := fun h₁ hk₁ =>
      ⟨F'.ns.at' fun o e => hk₁ _ o (fun q => hIL (List.mem_singleton.mp q).symm) e, fun b o e => hk₁ b o (fun q => by rw [List.mem_singleton.mp q, hI0] at e; cases e) (F'.keep b o e), F'.above⟩
    have nextN : ∀ h₁ : Heap, (∀ b o, b ∉ [s.heap.objs.size] → h'.get? b = some o → h₁.get? b = some o) → News h₀ env.locals h₁ news' := fun h₁ hk₁ p hp =>
      ⟨hk₁ _ _ (fun q => off' p hp (List.mem_singleton.mp q)) (N' p hp).1, (N' p hp).2⟩
    by_cases hlt : i < n
    · refine W.item i _ _ _ hlt hst' fun v h₁ tk₁ hP hst₁ hk₁ => ?_
      obtain ⟨tv, rfl⟩ := hP
      obtain ⟨oI, hoI, hback⟩ : ∃ oI, h₁.get? s.heap.objs.size = some oI ∧ ∀ h : Heap, h.get? s.heap.objs.size = some oI → IsRangeIter h s.heap.objs.size (a + ((i + 1 : Nat) : Int) * c) ((n : Int) - ((i + 1 : Nat) : Int)) c := ⟨_, hst₁, fun _ e => e⟩
      have N₁ : News h₀ env.locals h₁ ((s.heap.objs.size, oI) :: news') := fun p hp => by
        rcases List.mem_cons.mp hp with rfl | hp
        · exact ⟨hoI, hIL, hI0⟩
        · exact nextN h₁ hk₁ p hp
      refine wpAny_assign_Name (wpAny_mono (wpAny_passesOwn hE (turn _ _ i _ tv m' news' h₁ tk₁ hlt rfl hJ off' (nextF h₁ hk₁) N₁)) (fun _ s₂ q => wpAny_mono (wpAny_passesOwn hE q) (fun f s₃ z => ?_) fun _ _ e => e) fun _ _ e => e)
      have go : (∃ h' tk m' news', s₃ = { s with heap := h', toks := tk } ∧ Fr h₀ env.locals h' m' ∧ News h₀ env.locals h' ([(s.heap.objs.size, oI)] ++ news') ∧ (∀ p ∈ news', p.1 ≠ s.heap.objs.size) ∧ J (i + 1) m' news') →
          ∃ q, q < n + 1 - i ∧ ∃ h' tk m' news' i, s₃ = { s with heap := h', toks := tk } ∧ IsRangeIter h' s.heap.objs.size (a + ((i : Nat) : Int) * c) ((n : Int) - (i : Nat)) c ∧ Fr h₀ env.locals h' m' ∧ News h₀ env.locals h' news' ∧ (∀ p ∈ news', p.1 ≠ s.heap.objs.size) ∧ J i m' news' ∧ i ≤ n ∧ q = n + 1 - i := by
        rintro ⟨h₂, tk₂, m₂, news₂, rfl, F₂, N₂, off₂, hJ₂⟩
        exact ⟨n + 1 - (i + 1), by omega, h₂, tk₂, m₂, news₂, i + 1, rfl, hback _ (N₂ _ (.head _)).1, F₂, fun p hp => N₂ p (.tail _ hp), off₂, hJ₂, hlt, rfl⟩
      cases f with
      | ret v => exact z
      | brk => exact z
      | next => exact go z
      | cont => exact go z
    · have hin : i = n := by omega
      subst hin
      refine W.done _ _ _ hst' fun h₁ tk₁ hk₁ => wpAny_execs_nil ?_
      exact done m' news' h₁ tk₁ hJ (nextF h₁ hk₁) (nextN h₁ hk₁)
  · show IsRangeIter _ _ _ _ _
    rw [hn]; simpa using Heap.get?_push_size _ rfl
end

/-- rows of a list of lists, as the ledger bears them -/
inductive RowsL : List (Addr × Obj) → List (List Int) → Prop
  | nil : RowsL [] []
  | cons {r : Addr} {vs : List Value} {e : Nat} {ps : List Int} {l : List (Addr × Obj)} {pss : List (List Int)} : IntsAre vs ps → RowsL l pss → RowsL ((r, W.listOf vs.toArray e) :: l) (ps :: pss)
theorem RowsL.length : ∀ {l : List (Addr × Obj)} {pss : List (List Int)}, RowsL l pss → l.length = pss.length
  | _, _, .nil => rfl
  | _, _, .cons _ h => by rw [List.length_cons, List.length_cons, h.length]
theorem RowsL.append : ∀ {l l' : List (Addr × Obj)} {a b : List (List Int)}, RowsL l a → RowsL l' b → RowsL (l ++ l') (a ++ b)
  | _, _, _, _, .nil, h => h
  | _, _, _, _, .cons hi h1, h2 => .cons hi (h1.append h2)
theorem RowsL.at : ∀ {l : List (Addr × Obj)} {pss : List (List Int)}, RowsL l pss → ∀ (i : Nat) (p : Addr × Obj), l[i]? = some p → ∃ (vs : List Value) (e : Nat) (ps : List Int), p.2 = W.listOf vs.toArray e ∧ pss[i]? = some ps ∧ IntsAre vs ps
  | _, _, .nil, i, p, h => by cases h
  | _, _, .cons hi h1, 0, p, h => by cases h; exact ⟨_, _, _, rfl, rfl, hi⟩
  | _, _, .cons hi h1, i + 1, p, h => h1.at i p h
noncomputable def refsOf (rs : List (Addr × Obj)) : List Value := rs.map fun p => Value.ref p.1
theorem parts_len : ∀ (f left most : Nat), f ≤ 7 → left ≤ 6 → most ≤ 6 → left ≤ f → (partsOf f left most).length ≤ 11 ∧ (0 < most → 0 < (partsOf f left most).length) ∧ (∀ p ∈ partsOf f left most, p.length ≤ 6) := by
  have key : ∀ (f : Fin 8) (left most : Fin 7), left.val ≤ f.val → (partsOf f.val left.val most.val).length ≤ 11 ∧ (0 < most.val → 0 < (partsOf f.val left.val most.val).length) ∧ (∀ p ∈ partsOf f.val left.val most.val, p.length ≤ 6) := by decide +kernel
  intro f left most h1 h2 h3 h4
  exact key ⟨f, by omega⟩ ⟨left, by omega⟩ ⟨most, by omega⟩ h4
/-- what the first i values of k have brought -/
noncomputable def preOf (f left M i : Nat) : List (List Int) := (List.range i).flatMap fun i => (partsOf f (left - (M - i)) (M - i)).map fun r => ((M - i : Nat) : Int) :: r
theorem preOf_succ (f left M i : Nat) : preOf f left M (i + 1) = preOf f left M i ++ (partsOf f (left - (M - i)) (M - i)).map fun r => ((M - i : Nat) : Int) :: r := by
  unfold preOf
  rw [List.range_succ, List.flatMap_append]; simp
theorem preOf_le (f left M : Nat) : ∀ j i, (preOf f left M i).length ≤ (preOf f left M (i + j)).length
  | 0, i => Nat.le_refl _
  | j + 1, i => Nat.le_trans (preOf_le f left M j i) (by rw [show i + (j + 1) = (i + j) + 1 by omega, preOf_succ, List.length_append]; omega)
theorem parts_eq (f left most : Nat) (h : left ≠ 0) : partsOf (f + 1) left most = preOf f left (min left most) (min left most) := by
  rw [partsOf, if_neg h]; rfl
theorem down_range : ∀ M : Nat, M ≤ 6 → Builtin.Range.small (M : Int) 0 (-1) = true ∧ Builtin.Range.rangeSize (M : Int) 0 (-1) = ((M : Nat) : Int) := by
  have key : ∀ M : Fin 7, Builtin.Range.small ((M.val : Nat) : Int) 0 (-1) = true ∧ Builtin.Range.rangeSize ((M.val : Nat) : Int) 0 (-1) = ((M.val : Nat) : Int) := by decide +kernel
  intro M hM
  exact key ⟨M, by omega⟩
section
open LCg
set_option maxHeartbeats 4000000 in
theorem parts_ok (w : World) : ∀ (f left most : Nat) (tl tm : Tok), left ≤ f → f ≤ 6 → most ≤ 6 →
    Pure w 175 (8 * (f + 1)) (40 * (f + 1)) [.int left tl, .int most tm] (fun _ => True)
      (fun z v h => ∃ D e rs, v = .ref D ∧ z ≤ D ∧ h.get? D = some (W.listOf (refsOf rs).toArray e) ∧ RowsL rs (partsOf (f + 1) left most) ∧ (∀ p ∈ rs, z ≤ p.1 ∧ h.get? p.1 = some p.2)) := by
  intro f
  induction f using Nat.strongRecOn with
  | ind f ih =>
    intro left most tl tm h1 h2 h3
    unfold Pure; k_fill; intro loose mean mg mb A s Q E hA hdp hu XK T _ hret
    refine wpAny_call ?_
    have ho := XK 175 _ (by k_is)
    refine' enterC (binds := [("left", .int left tl), ("most", .int most tm)]) (g := s.heap) (news0 := []) (fun _ _ e => e) (Nat.le_refl _) (fun _ h => nomatch h) T ho rfl (codeRec_of XK ?k7) ?k8 ?k9 ?kB ?kD ?_ ?c2 ?c3 ?c4
    case k7 => k_is
    case k8 => omega
    case k9 => exact BindsTo.of_eq rfl
    case kB => exact rfl
    case kD => decide +kernel
    case c2 => exact rfl
    case c3 => exact rfl
    case c4 => exact rfl
    intro L h₁ tk cells hL hk₁ F N Y
    obtain ⟨o1, rfl, d1⟩ := CellsAre.one Y
    clear Y
    (try simp only [List.cons_append, List.nil_append] at N)
    (try dsimp only)
    k_unmd
    (try k_fold)
    clear ho
    (repeat' (first | (k_unfold; (try dsimp only)) | ((with_reducible refine isWp ?_); (fail_if_success (with_reducible first | refine halt 0 (by constructor) ?_ | refine halt 22 (by constructor) ?_)); (first | (walk1; (try dsimp only)) | (dsimp only; walk1))) | ((with_reducible show _ ∧ wpAny _ _ _ _ _ _); (refine And.intro (by first | k_in | exact FnAt_fr (by k_asm) (by assumption) | exact FnAt.of (by k_asm) (by k_mem)) ?_)) | ((fail_if_success (with_reducible refine isWp ?_)); dsimp only)))
    have hLs : s.heap.objs.size ≤ L := Nat.le_of_eq hL
    by_cases hl : left = 0
    · subst hl
      rw [if_pos (by simp)]
      (repeat' (first | (k_unfold; (try dsimp only)) | ((with_reducible refine isWp ?_); (fail_if_success (with_reducible first | refine halt 0 (by constructor) ?_ | refine halt 22 (by constructor) ?_)); (first | (walk1; (try dsimp only)) | (dsimp only; walk1))) | ((with_reducible show _ ∧ wpAny _ _ _ _ _ _); (refine And.intro (by first | k_in | exact FnAt_fr (by k_asm) (by assumption) | exact FnAt.of (by k_asm) (by k_mem)) ?_)) | ((fail_if_success (with_reducible refine isWp ?_)); dsimp only)))
      refine newListV_K F N (by decide) ?_
      intro R1 hR1 FR1 NR1 hLR1 _
      (try dsimp only)
      (repeat' (first | (k_unfold; (try dsimp only)) | ((with_reducible refine isWp ?_); (fail_if_success (with_reducible first | refine halt 0 (by constructor) ?_ | refine halt 22 (by constructor) ?_)); (first | (walk1; (try dsimp only)) | (dsimp only; walk1))) | ((with_reducible show _ ∧ wpAny _ _ _ _ _ _); (refine And.intro (by first | k_in | exact FnAt_fr (by k_asm) (by assumption) | exact FnAt.of (by k_asm) (by k_mem)) ?_)) | ((fail_if_success (with_reducible refine isWp ?_)); dsimp only)))
      refine' newListV_K ?F ?N ?v ?_
      case F => exact FR1
      case N => exact NR1
      case v => exact Nat.le_of_ble_eq_true rfl
      intro R2 hR2 FR2 NR2 hLR2 _
      (try dsimp only)
      refine hret _ _ _ FR2.keep ⟨R2, 0, [(R1, W.listOf #[] 0)], rfl, Nat.le_trans hLs (Nat.le_of_lt hLR2), (NR2 _ (.head _)).1, .cons .nil .nil, ?_⟩
      intro p hp
      rw [List.mem_singleton.mp hp]
      exact ⟨Nat.le_trans hLs (Nat.le_of_lt hLR1), (NR2 _ (.tail _ (.head _))).1⟩
    · obtain ⟨f', rfl⟩ : ∃ f', f = f' + 1 := ⟨f - 1, by omega⟩
      rw [if_neg (by simpa using hl)]
      (repeat' (first | (k_unfold; (try dsimp only)) | ((with_reducible refine isWp ?_); (fail_if_success (with_reducible first | refine halt 0 (by constructor) ?_ | refine halt 22 (by constructor) ?_)); (first | (walk1; (try dsimp only)) | (dsimp only; walk1))) | ((with_reducible show _ ∧ wpAny _ _ _ _ _ _); (refine And.intro (by first | k_in | exact FnAt_fr (by k_asm) (by assumption) | exact FnAt.of (by k_asm) (by k_mem)) ?_)) | ((fail_if_success (with_reducible refine isWp ?_)); dsimp only)))
      refine newListV_K F N (by decide) ?_
      intro D0 hD0 F2 N2 hLD0 hcD0
      (try dsimp only)
      (repeat' (first | (k_unfold; (try dsimp only)) | ((with_reducible refine isWp ?_); (fail_if_success (with_reducible first | refine halt 0 (by constructor) ?_ | refine halt 22 (by constructor) ?_)); (first | (walk1; (try dsimp only)) | (dsimp only; walk1))) | ((with_reducible show _ ∧ wpAny _ _ _ _ _ _); (refine And.intro (by first | k_in | exact FnAt_fr (by k_asm) (by assumption) | exact FnAt.of (by k_asm) (by k_mem)) ?_)) | ((fail_if_success (with_reducible refine isWp ?_)); dsimp only)))
      refine wpAny_For ?_ (by intro _; with_unfolding_all rfl)
      (repeat' (first | (k_unfold; (try dsimp only)) | ((with_reducible refine isWp ?_); (fail_if_success (with_reducible first | refine halt 0 (by constructor) ?_ | refine halt 22 (by constructor) ?_)); (first | (walk1; (try dsimp only)) | (dsimp only; walk1))) | ((with_reducible show _ ∧ wpAny _ _ _ _ _ _); (refine And.intro (by first | k_in | exact FnAt_fr (by k_asm) (by assumption) | exact FnAt.of (by k_asm) (by k_mem)) ?_)) | ((fail_if_success (with_reducible refine isWp ?_)); dsimp only)))
      rename Fr _ _ _ _ => F3
      rename News _ _ _ _ => N3
      refine PySem.min_two_ints hA fun h4 tk4 hk4 => ?_
      have F4 := F3.keeps hk4
      have N4 := N3.grown hk4
      clear F3 N3
      obtain ⟨M, tM, hM, hMe⟩ : ∃ (M : Nat) (tM : Tok), (if (most : Int) < (left : Int) then Value.int most tm else Value.int left tl) = Value.int M tM ∧ M = min left most := by
        by_cases h : most < left
        · exact ⟨most, tm, by rw [if_pos (by omega)], by omega⟩
        · exact ⟨left, tl, by rw [if_neg (by omega)], by omega⟩
      rw [hM]
      have hMl : M ≤ left := by omega
      have hMm : M ≤ most := by omega
      have hMi : id (M = min left most) := hMe
      clear hMe
      (try dsimp only)
      (repeat' (first | (k_unfold; (try dsimp only)) | ((with_reducible refine isWp ?_); (fail_if_success (with_reducible first | refine halt 0 (by constructor) ?_ | refine halt 22 (by constructor) ?_)); (first | (walk1; (try dsimp only)) | (dsimp only; walk1))) | ((with_reducible show _ ∧ wpAny _ _ _ _ _ _); (refine And.intro (by first | k_in | exact FnAt_fr (by k_asm) (by assumption) | exact FnAt.of (by k_asm) (by k_mem)) ?_)) | ((fail_if_success (with_reducible refine isWp ?_)); dsimp only)))
      rename Fr _ _ _ _ => F5
      rename News _ _ _ _ => N5
      rename IsRange _ _ _ _ _ _ _ _ => R5
      clear hk4
      have hM6 : M ≤ 6 := by omega
      obtain ⟨hsm, hrs⟩ := down_range M hM6
      refine iter_cell (env := envOfC _ _ L _ _) (fun i m₁ news₁ => m₁ = _ ∧ ∃ e rs oc cv, news₁ = (D0, W.listOf (refsOf rs).toArray e) :: (L + 1, oc) :: rs ∧ oc.data = .cell cv ∧ RowsL rs (preOf (f' + 1) left M i) ∧ (∀ p ∈ rs, D0 < p.1)) hA R5 hsm hrs PassesOwn.never F5 N5 ⟨rfl, 0, [], o1, _, rfl, d1, .nil, fun _ h => nomatch h⟩ ?_ ?_
      · rintro I oI i k tv m₁ news₁ h tk hi hk ⟨rfl, e, rs, oc, cv, rfl, hoc, hrows, hrsD⟩ hnI F6 N6
        obtain ⟨kk, hkk, hkM⟩ : ∃ kk : Nat, k = (kk : Int) ∧ kk = M - i := ⟨M - i, by omega, rfl⟩
        subst hkk
        have hki : kk + i = M := by omega
        have hkI : id (kk = M - i) := hkM
        clear hk F5 N5 R5 hkM
        replace F6 : Fr s.heap L h _ := F6
        replace N6 : News s.heap L h _ := N6
        (try dsimp only at F6)
        have hID : I ≠ D0 := fun q => hnI _ (.head _) q.symm
        have hIc : I ≠ L + 1 := fun q => hnI _ (.tail _ (.head _)) q.symm
        have hDc : L + 1 < D0 := hcD0 _ (.head _)
        refine storeX_C F6 N6 rfl (.tail hIc (.tail (Nat.ne_of_gt hDc) (.head (fun q hq => Nat.ne_of_gt (Nat.lt_trans hDc (hrsD q hq)))))) hoc ?_
        intro h7 oc' F7 N7 hoc'
        refine cutQ fun Qr hQr => ?_
        (try k_fold)
        clear F6 N6
        (repeat' (first | (k_unfold; (try dsimp only)) | ((with_reducible refine isWp ?_); (fail_if_success (with_reducible first | refine halt 0 (by constructor) ?_ | refine halt 22 (by constructor) ?_)); (first | (walk1; (try dsimp only)) | (dsimp only; walk1))) | ((with_reducible show _ ∧ wpAny _ _ _ _ _ _); (refine And.intro (by first | k_in | exact FnAt_fr (by k_asm) (by assumption) | exact FnAt.of (by k_asm) (by k_mem)) ?_)) | ((fail_if_success (with_reducible refine isWp ?_)); dsimp only)))
        refine LCg.ListComp_U F7 (by with_unfolding_all rfl) (by decide) (by rfl) (by decide) (by rfl) ?_ (by intro _; with_unfolding_all rfl)
        (repeat' (first | (k_unfold; (try dsimp only)) | ((with_reducible refine isWp ?_); (fail_if_success (with_reducible first | refine halt 0 (by constructor) ?_ | refine halt 22 (by constructor) ?_)); (first | (walk1; (try dsimp only)) | (dsimp only; walk1))) | ((with_reducible show _ ∧ wpAny _ _ _ _ _ _); (refine And.intro (by first | k_in | exact FnAt_fr (by k_asm) (by assumption) | exact FnAt.of (by k_asm) (by k_mem)) ?_)) | ((fail_if_success (with_reducible refine isWp ?_)); dsimp only)))
        rename Fr _ _ _ _ => F8
        rename News _ _ _ _ => N8
        rw [show (left : Int) - (kk : Int) = ((left - kk : Nat) : Int) by omega]
        refine Pure.use (ih f' (by omega) (left - kk) kk _ _ (by omega) (by omega) (by omega)) hA (by show A.depth + 1 + _ < _; omega) (by show A.units + 3 + _ < _; omega) XK T F8 N8 trivial ?_
        rintro _ h9 tk9 F9 N9 hk9 ⟨R, eR, sub, rfl, hRz, hRg, hsubR, hsubz⟩
        have NS : News s.heap L h9 sub := fun p hp => fresh_news F8 (hsubz p hp).1 (hsubz p hp).2
        have NR := fresh_news F8 hRz hRg
        have hk6 : kk ≤ 6 := by omega
        obtain ⟨hl11, hl0, hl6⟩ := parts_len (f' + 1) (left - kk) kk (by omega) (by omega) (by omega) (by omega)
        have hsl := hsubR.length
        have hsl2 : (refsOf sub).length = sub.length := List.length_map _
        have hnIc : ∀ p ∈ sub, D0 < p.1 := fun p hp => Nat.lt_of_lt_of_le (Heap.lt_size (N8 _ (.tail _ (.head _))).1) (hsubz p hp).1
        have B0 : News s.heap L h9 ((L + 1, oc') :: (R, W.listOf (refsOf sub).toArray eR) :: (I, oI) :: (D0, W.listOf (refsOf rs).toArray e) :: (rs ++ (sub ++ []))) := fun p hp => by
          simp only [List.mem_cons, List.mem_append, List.append_nil] at hp
          rcases hp with h | h | h | h | h | h
          · exact N9 p (by rw [h]; exact .tail _ (.tail _ (.head _)))
          · rw [h]; exact NR
          · exact N9 p (by rw [h]; exact .head _)
          · exact N9 p (by rw [h]; exact .tail _ (.head _))
          · exact N9 p (.tail _ (.tail _ (.tail _ h)))
          · exact NS p h
        have hRI : R ≠ I := fun q => absurd (Heap.lt_size (N8 _ (.head _)).1) (Nat.not_lt.mpr (q ▸ hRz))
        clear N8 F8 N9
        refine LCg.CompSrc.ledger hA F9 B0 (.tail _ (.head _)) (by rw [List.size_toArray, hsl2]; unfold sizeLine; omega) ?_
        intro g'
        refine CompRest.inv (fun i ys news => ∃ ls, ys = refsOf ls ∧ news = (L + 1, oc') :: (R, W.listOf (refsOf sub).toArray eR) :: (I, oI) :: (D0, W.listOf (refsOf rs).toArray e) :: (rs ++ (sub ++ ls)) ∧
          RowsL ls (((partsOf (f' + 1) (left - kk) kk).take i).map fun r => ((kk : Nat) : Int) :: r) ∧ ∀ p ∈ ls, D0 < p.1 ∧ I < p.1) ?_ ?_ _ 0 [] _ (Nat.zero_add _) ⟨[], rfl, rfl, .nil, fun _ h => nomatch h⟩
        · rintro i2 ys news v I2 oI2 C oC D m₂ h10 tk10 E' hi2 ⟨ls, rfl, rfl, hls, hlsD⟩ hv hC hx F10 N10 off ne
          refine cutQ fun Qr hQr => ?_
          rw [List.getElem?_toArray] at hv
          obtain ⟨p, hp, rfl⟩ : ∃ p, sub[i2]? = some p ∧ v = .ref p.1 := by
            unfold refsOf at hv
            rw [List.getElem?_map] at hv
            cases e : sub[i2]? with
            | none => rw [e] at hv; cases hv
            | some p => rw [e] at hv; exact ⟨p, rfl, (Option.some.inj hv).symm⟩
          obtain ⟨vs, e', ps, hpo, hps, hips⟩ := hsubR.at i2 p hp
          have hpm : p ∈ sub := List.mem_of_getElem? hp
          clear B0 F9 hv
          (repeat' (first | (k_unfold; (try dsimp only)) | ((with_reducible refine isWp ?_); (fail_if_success (with_reducible first | refine halt 0 (by constructor) ?_ | refine halt 22 (by constructor) ?_)); (first | (walk1; (try dsimp only)) | (dsimp only; walk1))) | ((with_reducible show _ ∧ wpAny _ _ _ _ _ _); (refine And.intro (by first | k_in | exact FnAt_fr (by k_asm) (by assumption) | exact FnAt.of (by k_asm) (by k_mem)) ?_)) | ((fail_if_success (with_reducible refine isWp ?_)); dsimp only)))
          refine newListV_K F10 N10 (Nat.le_of_ble_eq_true rfl) ?_
          intro T1 h11 F11 N11 hLT hTn
          (try dsimp only)
          (repeat' (first | (k_unfold; (try dsimp only)) | ((with_reducible refine isWp ?_); (fail_if_success (with_reducible first | refine halt 0 (by constructor) ?_ | refine halt 22 (by constructor) ?_)); (first | (walk1; (try dsimp only)) | (dsimp only; walk1))) | ((with_reducible show _ ∧ wpAny _ _ _ _ _ _); (refine And.intro (by first | k_in | exact FnAt_fr (by k_asm) (by assumption) | exact FnAt.of (by k_asm) (by k_mem)) ?_)) | ((fail_if_success (with_reducible refine isWp ?_)); dsimp only)))
          rename Fr _ _ _ _ => F11b
          rename News _ _ _ _ => N11b
          have hpN : h11.get? p.1 = some p.2 := (N11b p (by first | (with_reducible ((repeat (first | exact List.mem_cons_self | refine List.mem_cons_of_mem _ ?_ | (refine List.mem_append_left _ ?_; ((repeat (first | exact List.mem_cons_self | refine List.mem_cons_of_mem _ ?_ | assumption)); (first | done | fail "m"))) | refine List.mem_append_right _ ?_ | assumption)); (first | done | fail "m"))) | (rw [hpm]; (with_reducible ((repeat (first | exact List.mem_cons_self | refine List.mem_cons_of_mem _ ?_ | (refine List.mem_append_left _ ?_; ((repeat (first | exact List.mem_cons_self | refine List.mem_cons_of_mem _ ?_ | assumption)); (first | done | fail "m"))) | refine List.mem_append_right _ ?_ | assumption)); (first | done | fail "m")))) | simp [hpm])).1
          rw [hpo] at hpN
          have hps6 : ps.length ≤ 6 := hl6 ps (List.mem_of_getElem? hps)
          refine' kmk_add_ints (vs := [.int kk tv]) (ws := vs) (ns := [(kk : Int)]) (ms := ps) ?F ?N ?a ?b (.cons _ _ .nil) hips ?_ (by simp only [List.length_cons, List.length_nil]; unfold sizeLine; omega)
          case F => exact F11b
          case N => exact N11b
          case a => exact N11b.isList (.head _)
          case b => exact ⟨_, hpN, rfl, e', rfl⟩
          intro D3 us h12 F12 N12 hDn hius
          have hDD0 : D0 < D3 := hDn (D0, _) (.tail _ (.tail _ (.tail _ (.tail _ (.tail _ (.tail _ (.tail _ (.head _))))))))
          have hDI0 : I < D3 := hDn (I, _) (.tail _ (.tail _ (.tail _ (.tail _ (.tail _ (.tail _ (.head _)))))))
          have hDI2 : I2 < D3 := hDn (I2, _) (.tail _ (.head _))
          have hDC : C < D3 := hDn (C, _) (.tail _ (.tail _ (.head _)))
          have hDD : D < D3 := hDn (D, _) (.tail _ (.tail _ (.tail _ (.head _))))
          refine hQr _ _ ?_
          refine LCg.CompEnd.intro F12 N12 ((L + 1, oc') :: (R, W.listOf (refsOf sub).toArray eR) :: (I, oI) :: (D0, W.listOf (refsOf rs).toArray e) :: (rs ++ (sub ++ (ls ++ [(D3, W.listOf us.toArray 0)])))) ?_ ?_ (.inr ⟨_, .tail _ (.head _), rfl, _, rfl⟩) ⟨ls ++ [(D3, W.listOf us.toArray 0)], ?_, rfl, ?_, ?_⟩
          · intro q hq
            simp only [List.mem_cons, List.mem_append, List.not_mem_nil, or_false] at hq ⊢
            rcases hq with h | h | h | h | h | h | h | h | h | h | h <;> simp [h]
          · refine Off3.of fun q hq => ?_
            by_cases hq2 : q = (D3, W.listOf us.toArray 0)
            · subst hq2
              exact ⟨Nat.ne_of_gt hDI2, Nat.ne_of_gt hDC, Nat.ne_of_gt hDD⟩
            · refine off.mem q ?_
              simp only [List.mem_cons, List.mem_append, List.not_mem_nil, or_false] at hq ⊢
              rcases hq with h | h | h | h | h | h | h | h <;> first | exact absurd h hq2 | simp [h]
          · unfold refsOf; simp
          · rw [List.take_add_one, hps, List.map_append]
            exact hls.append (.cons hius .nil)
          · intro q hq
            rcases List.mem_append.mp hq with h | h
            · exact hlsD q h
            · rw [List.mem_singleton.mp h]; exact ⟨hDD0, hDI0⟩
        · rintro ys news ⟨ls, rfl, rfl, hls, hlsD⟩
          intro D h13 tk13 F13 N13 o1'
          clear B0 F9
          (try dsimp only)
          (repeat' (first | (k_unfold; (try dsimp only)) | ((with_reducible refine isWp ?_); (fail_if_success (with_reducible first | refine halt 0 (by constructor) ?_ | refine halt 22 (by constructor) ?_)); (first | (walk1; (try dsimp only)) | (dsimp only; walk1))) | ((with_reducible show _ ∧ wpAny _ _ _ _ _ _); (refine And.intro (by first | k_in | exact FnAt_fr (by k_asm) (by assumption) | exact FnAt.of (by k_asm) (by k_mem)) ?_)) | ((fail_if_success (with_reducible refine isWp ?_)); dsimp only)))
          have hsz : (refsOf sub).toArray.size = (partsOf (f' + 1) (left - kk) kk).length := by rw [List.size_toArray, hsl2, hsl]
          rw [hsz, List.take_length] at hls
          have hDD0 : D ≠ D0 := fun q => o1'.2.2.2.1 q.symm
          have N14 : News s.heap L h13 ((D0, W.listOf (refsOf rs).toArray e) :: (D, W.listOf (refsOf ls).toArray (refsOf ls).length) :: (L + 1, oc') :: (I, oI) :: (rs ++ ls)) := newsSub N13 fun p hp => by
            revert p; ((repeat (first | exact List.forall_mem_nil _ | (refine List.forall_mem_cons.mpr ⟨?_, ?_⟩; focus ((with_reducible ((repeat (first | exact List.mem_cons_self | refine List.mem_cons_of_mem _ ?_ | (refine List.mem_append_left _ ?_; ((repeat (first | exact List.mem_cons_self | refine List.mem_cons_of_mem _ ?_ | assumption)); (first | done | fail "m"))) | refine List.mem_append_right _ ?_ | assumption)); (first | done | fail "m"))))) | (refine List.forall_mem_append.mpr ⟨?_, ?_⟩; focus (intro p hp; (with_reducible ((repeat (first | exact List.mem_cons_self | refine List.mem_cons_of_mem _ ?_ | (refine List.mem_append_left _ ?_; ((repeat (first | exact List.mem_cons_self | refine List.mem_cons_of_mem _ ?_ | assumption)); (first | done | fail "m"))) | refine List.mem_append_right _ ?_ | assumption)); (first | done | fail "m"))))) | (refine List.forall_mem_append.mpr ⟨?_, ?_⟩; focus ((repeat (first | exact List.forall_mem_nil _ | (refine List.forall_mem_cons.mpr ⟨?_, ?_⟩; focus ((with_reducible ((repeat (first | exact List.mem_cons_self | refine List.mem_cons_of_mem _ ?_ | (refine List.mem_append_left _ ?_; ((repeat (first | exact List.mem_cons_self | refine List.mem_cons_of_mem _ ?_ | assumption)); (first | done | fail "m"))) | refine List.mem_append_right _ ?_ | assumption)); (first | done | fail "m"))))))); (first | done | fail "m"))) | (intro p hp; (with_reducible ((repeat (first | exact List.mem_cons_self | refine List.mem_cons_of_mem _ ?_ | (refine List.mem_append_left _ ?_; ((repeat (first | exact List.mem_cons_self | refine List.mem_cons_of_mem _ ?_ | assumption)); (first | done | fail "m"))) | refine List.mem_append_right _ ?_ | assumption)); (first | done | fail "m")))))); (first | done | fail "m"))
          have hpre := preOf_succ (f' + 1) left M i
          rw [← (show kk = M - i from hkI)] at hpre
          have hple : (preOf (f' + 1) left M (i + 1)).length ≤ 11 := by
            obtain ⟨h11', _, _⟩ := parts_len (f' + 2) left most (by omega) (by omega) (by omega) (by omega)
            rw [parts_eq _ _ _ hl, ← (show M = min left most from hMi)] at h11'
            have := preOf_le (f' + 1) left M (M - (i + 1)) (i + 1)
            rw [show i + 1 + (M - (i + 1)) = M by omega] at this
            omega
          have hlenls := hls.length
          have hlenrs := hrows.length
          rw [hpre, List.length_append] at hple
          have hr1 : (refsOf rs).length = rs.length := List.length_map _
          have hr2 : (refsOf ls).length = ls.length := List.length_map _
          have hm0 := hl0 (by omega)
          rw [List.length_map] at hlenls
          rw [List.length_map] at hple
          refine kl_extend F13 N14 (.tail _ (.head _)) (l := refsOf (rs ++ ls)) (by simp [refsOf]) (by show (refsOf ls).length ≠ 0; omega) (.head ?_) ?_ (by simp only [hr1]; unfold sizeLine; omega) (by simp only [List.size_toArray, hr1, hr2]; unfold sizeLine; omega) ?_
          · intro q hq
            simp only [List.mem_cons, List.mem_append] at hq
            rcases hq with h | h | h | h | h
            · rw [h]; exact hDD0
            · rw [h]; exact Nat.ne_of_lt hDc
            · rw [h]; exact hID
            · exact Nat.ne_of_gt (hrsD q h)
            · exact Nat.ne_of_gt (hlsD q h).1
          · have hz : Builtin.List.listTooLong ((refsOf rs).toArray.size + (refsOf ls).toArray.size) = false := by
              unfold Builtin.List.listTooLong
              simp only [List.size_toArray, hr1, hr2, decide_eq_false_iff_not]
              unfold sizeLine; omega
            rw [hz, Bool.and_false]; exact Bool.false_ne_true
          intro h15 F15 N15
          (try dsimp only)
          (repeat' (first | (k_unfold; (try dsimp only)) | ((with_reducible refine isWp ?_); (fail_if_success (with_reducible first | refine halt 0 (by constructor) ?_ | refine halt 22 (by constructor) ?_)); (first | (walk1; (try dsimp only)) | (dsimp only; walk1))) | ((with_reducible show _ ∧ wpAny _ _ _ _ _ _); (refine And.intro (by first | k_in | exact FnAt_fr (by k_asm) (by assumption) | exact FnAt.of (by k_asm) (by k_mem)) ?_)) | ((fail_if_success (with_reducible refine isWp ?_)); dsimp only)))
          refine hQr _ _ ?_
          refine ⟨_, _, _, (D0, W.listOf (refsOf (rs ++ ls)).toArray (e + 1)) :: (L + 1, oc') :: (rs ++ ls), rfl, F15, newsSub N15 ?_, ?_, rfl, e + 1, rs ++ ls, oc', _, rfl, hoc', ?_, ?_⟩
          · intro p hp
            revert p; ((repeat (first | exact List.forall_mem_nil _ | (refine List.forall_mem_cons.mpr ⟨?_, ?_⟩; focus ((with_reducible ((repeat (first | exact List.mem_cons_self | refine List.mem_cons_of_mem _ ?_ | (refine List.mem_append_left _ ?_; ((repeat (first | exact List.mem_cons_self | refine List.mem_cons_of_mem _ ?_ | assumption)); (first | done | fail "m"))) | refine List.mem_append_right _ ?_ | assumption)); (first | done | fail "m"))))) | (refine List.forall_mem_append.mpr ⟨?_, ?_⟩; focus (intro p hp; (with_reducible ((repeat (first | exact List.mem_cons_self | refine List.mem_cons_of_mem _ ?_ | (refine List.mem_append_left _ ?_; ((repeat (first | exact List.mem_cons_self | refine List.mem_cons_of_mem _ ?_ | assumption)); (first | done | fail "m"))) | refine List.mem_append_right _ ?_ | assumption)); (first | done | fail "m"))))) | (refine List.forall_mem_append.mpr ⟨?_, ?_⟩; focus ((repeat (first | exact List.forall_mem_nil _ | (refine List.forall_mem_cons.mpr ⟨?_, ?_⟩; focus ((with_reducible ((repeat (first | exact List.mem_cons_self | refine List.mem_cons_of_mem _ ?_ | (refine List.mem_append_left _ ?_; ((repeat (first | exact List.mem_cons_self | refine List.mem_cons_of_mem _ ?_ | assumption)); (first | done | fail "m"))) | refine List.mem_append_right _ ?_ | assumption)); (first | done | fail "m"))))))); (first | done | fail "m"))) | (intro p hp; (with_reducible ((repeat (first | exact List.mem_cons_self | refine List.mem_cons_of_mem _ ?_ | (refine List.mem_append_left _ ?_; ((repeat (first | exact List.mem_cons_self | refine List.mem_cons_of_mem _ ?_ | assumption)); (first | done | fail "m"))) | refine List.mem_append_right _ ?_ | assumption)); (first | done | fail "m")))))); (first | done | fail "m"))
          · intro p hp
            simp only [List.mem_cons, List.mem_append] at hp
            rcases hp with h | h | h | h
            · rw [h]; exact Ne.symm hID
            · rw [h]; exact Ne.symm hIc
            · exact hnI p (.tail _ (.tail _ h))
            · exact Nat.ne_of_gt (hlsD p h).2
          · rw [hpre]; exact hrows.append hls
          · intro p hp
            rcases List.mem_append.mp hp with h | h
            · exact hrsD p h
            · exact (hlsD p h).1
      · rintro m₁ news₁ h tk ⟨rfl, e, rs, oc, cv, rfl, hoc, hrows, hrsD⟩ F6 N6
        replace F6 : Fr s.heap L h _ := F6
        replace N6 : News s.heap L h _ := N6
        (try dsimp only at F6)
        dsimp only
        (repeat' (first | (k_unfold; (try dsimp only)) | ((with_reducible refine isWp ?_); (fail_if_success (with_reducible first | refine halt 0 (by constructor) ?_ | refine halt 22 (by constructor) ?_)); (first | (walk1; (try dsimp only)) | (dsimp only; walk1))) | ((with_reducible show _ ∧ wpAny _ _ _ _ _ _); (refine And.intro (by first | k_in | exact FnAt_fr (by k_asm) (by assumption) | exact FnAt.of (by k_asm) (by k_mem)) ?_)) | ((fail_if_success (with_reducible refine isWp ?_)); dsimp only)))
        refine hret _ _ _ F6.keep ⟨D0, e, rs, rfl, Nat.le_trans hLs (Nat.le_of_lt hLD0), (N6 _ (.head _)).1, ?_, fun p hp => ⟨Nat.le_trans hLs (Nat.le_of_lt (Nat.lt_trans hLD0 (hrsD p hp))), (N6 _ (.tail _ (.tail _ hp))).1⟩⟩
        rw [parts_eq _ _ _ hl, ← (show M = min left most from hMi)]; exact hrows
end

theorem fac_le : ∀ i : Nat, i ≤ 6 → 0 < prodOf ((List.range i).map fun (i : Nat) => 1 + (i : Int)) ∧ prodOf ((List.range i).map fun (i : Nat) => 1 + (i : Int)) ≤ 720 := by
  have key : ∀ i : Fin 7, 0 < prodOf ((List.range i.val).map fun (i : Nat) => 1 + (i : Int)) ∧ prodOf ((List.range i.val).map fun (i : Nat) => 1 + (i : Int)) ≤ 720 := by decide +kernel
  intro i hi
  exact key ⟨i, by omega⟩
theorem prodOf_snoc (l : List Int) (x : Int) : prodOf (l ++ [x]) = prodOf l * x := by unfold prodOf; rw [List.foldl_append]; rfl
theorem prod_range_succ (i : Nat) : prodOf ((List.range (i + 1)).map fun (i : Nat) => 1 + (i : Int)) = prodOf ((List.range i).map fun (i : Nat) => 1 + (i : Int)) * (1 + (i : Int)) := by
  rw [List.range_succ, List.map_append]; exact prodOf_snoc _ _
set_option maxHeartbeats 4000000 in
theorem prodrange_ok (w : World) (r : Addr) (q : Nat) (t0 u0 v0 : Tok) (hq : q ≤ 6) :
    Pure w 182 5 20 [.ref r] (fun h => IsRange h r 1 ((q : Int) + 1) 1 t0 u0 v0) (fun _ v _ => ∃ t, v = .int (prodOf ((List.range q).map fun (i : Nat) => 1 + (i : Int))) t) := by
  unfold Pure; k_fill; intro loose mean mg mb A s Q E hA hd hu X T hr hret
  refine wpAny_call ?_
  refine' enterP (binds := [("numbers", .ref r)]) X T ?k6 ?k7 ?k8 ?k9 ?kB ?_ ?c2 ?c3 ?c4 ?c5
  ((case k6 => k_is); (case k7 => k_is); (case k8 => omega); (case k9 => exact BindsTo.of_eq rfl); (case c5 => decide); (case kB => exact locs rfl); (case c2 => exact rfl); (case c3 => exact rfl); (case c4 => exact rfl))
  intro L h₁ F
  have N : News s.heap L h₁ [] := News.nil
  (try dsimp only)
  k_unmd
  k_fold
  (repeat' (first | (k_unfold; (try dsimp only)) | ((with_reducible refine isWp ?_); (fail_if_success (with_reducible first | refine halt 0 (by constructor) ?_)); (first | (walk1; (try dsimp only)) | (dsimp only; walk1))) | ((with_reducible show _ ∧ wpAny _ _ _ _ _ _); (refine And.intro (by first | k_in | exact FnAt_fr (by k_asm) (by assumption) | exact FnAt.of (by k_asm) (by k_mem)) ?_)) | ((fail_if_success (with_reducible refine isWp ?_)); dsimp only)))
  rename Fr _ _ _ _ => F1
  rename News _ _ _ _ => N1
  have hr1 : IsRange _ r 1 ((q : Int) + 1) 1 t0 u0 v0 := F1.keep _ _ hr
  refine iter_range (env := envOf _ _ L _ _) (fun m₀ i m news => news = [] ∧ (∀ y, y ≠ Str.ofString "x" → y ≠ Str.ofString "product" → m y = m₀ y) ∧ ∃ t, m (Str.ofString "product") = some (.int (prodOf ((List.range i).map fun (i : Nat) => 1 + (i : Int))) t)) hA hr1
    (small_one (by omega) (by omega) (by omega) (by omega)) (rangeSize_nat _ _) F1 N1 ⟨rfl, fun _ _ _ => rfl, ?_⟩ ?_ ?_
  · exact ⟨_, rfl⟩
  · rintro I i k tv m₁ news₁ h tk own hI hi hk ⟨rfl, hm, t, ht⟩ hnI hown F2 N2
    refine cutQ fun Qr hQr => ?_
    have hk' : k = 1 + (i : Int) := by omega
    subst hk'
    have hf := fac_le i (by omega)
    rw [map2 hm, ht] at F2
    generalize m₁ (Str.ofString "x") = ux at F2
    clear hm ht m₁ F1 N1 hr hr1 hret hk
    replace F2 : Fr s.heap L h _ := F2
    replace N2 : News s.heap L h _ := N2
    (try dsimp only at F2)
    obtain ⟨P, hP⟩ : ∃ P, prodOf ((List.range i).map fun (i : Nat) => 1 + (i : Int)) = P := ⟨_, rfl⟩
    have hs := prod_range_succ i
    (try k_fold)
    rw [hP] at F2 hf hs
    (repeat' (first | (k_unfold; (try dsimp only)) | ((with_reducible refine isWp ?_); (fail_if_success (with_reducible first | refine halt 0 (by constructor) ?_)); (first | (walk1; (try dsimp only)) | (dsimp only; walk1))) | ((with_reducible show _ ∧ wpAny _ _ _ _ _ _); (refine And.intro (by first | k_in | exact FnAt_fr (by k_asm) (by assumption) | exact FnAt.of (by k_asm) (by k_mem)) ?_)) | ((fail_if_success (with_reducible refine isWp ?_)); dsimp only)))
    rename Fr _ _ _ _ => F3
    rename News _ _ _ _ => N3
    refine hQr _ _ ?_
    refine ⟨_, _, _, _, rfl, F3, N3, by assumption, rfl, ?_, ?tt, ?e1⟩
    case e1 => rw [hs]; exact rfl
    intro y h1 h2; simp [h1, h2]
  · rintro m₁ news₁ h tk ⟨rfl, hm, t, ht⟩ F2 N2
    rw [map2 hm, ht] at F2
    generalize m₁ (Str.ofString "x") = ux at F2
    dsimp only
    (repeat' (first | (k_unfold; (try dsimp only)) | ((with_reducible refine isWp ?_); (fail_if_success (with_reducible first | refine halt 0 (by constructor) ?_)); (first | (walk1; (try dsimp only)) | (dsimp only; walk1))) | ((with_reducible show _ ∧ wpAny _ _ _ _ _ _); (refine And.intro (by first | k_in | exact FnAt_fr (by k_asm) (by assumption) | exact FnAt.of (by k_asm) (by k_mem)) ?_)) | ((fail_if_success (with_reducible refine isWp ?_)); dsimp only)))
    refine hret _ _ _ F2.keep ⟨t, ?_⟩
    rw [show ((q : Int) + 1 - 1).toNat = q by omega]

section
open LCg
variable {prog : Program} {w : World} {A : Around} {E : Value → Shared → Prop} {s : Shared} {h₀ : Heap} {L : Addr} {m : Str → Option Value} {env : Env}
/-- a block has come to its end: the list D is ys, the block's own names are C -/
def CompOut (h₀ : Heap) (L : Addr) (m : Str → Option Value) (s : Shared) (Fin : List Value → List (Addr × Obj) → Prop) (acc : Value) (C : Addr) (r : Result) (s' : Shared) : Prop :=
  r = .ok .next ∧ ∃ D h tk m' ys news', acc = .ref D ∧ s' = { s with heap := h, toks := tk } ∧ Fr h₀ L h m ∧ News h₀ L h ((D, lst ys) :: news') ∧ Off1 D news' ∧ h.Ns C m' ∧ h₀.get? C = none ∧ C ≠ L ∧ C ≠ D ∧ (∀ p ∈ news', p.1 ≠ C) ∧ Fin ys news'
theorem CompOut.outE {Fin : List Value → List (Addr × Obj) → Prop} {Q : Value → Shared → Prop} {acc : Value} {C : Addr} {r : Result} {s' : Shared} (h : CompOut h₀ L m s Fin acc C r s') (hf : ∀ ys news, Fin ys news → FinE h₀ L m s Q ys news) : compPost (model prog w) A E none Q acc C r s' := by
  obtain ⟨rfl, D, h, tk, m', ys, news', rfl, rfl, F', N', o1, hn, hC₀, hCL, hCD, offC, fin⟩ := h
  refine ⟨m', hn, fun h'' hs'' => hf _ _ fin D h'' tk (F'.change hs'' hCL hC₀) (fun p hp => ?_) o1⟩
  refine ⟨hs''.extBut _ _ ?_ (N' p hp).1, (N' p hp).2⟩
  rcases List.mem_cons.mp hp with rfl | hp
  · exact Ne.symm hCD
  · exact offC p hp
theorem CompOut.outA {Fin : List Value → List (Addr × Obj) → Prop} {Q : Flow → Shared → Prop} {y : Str} {py : Pos} {acc : Value} {C : Addr} {r : Result} {s' : Shared} (hLe : env.locals = L) (hy : env.kindOf y = some .local) (hp : (env.scope.kind == .class || (env.scope.kind == .module && env.locals != env.globals)) = false)
    (h : CompOut h₀ L m s Fin acc C r s') (hf : ∀ ys news, Fin ys news → FinA h₀ L m s y Q ys news) : compPost (model prog w) A E (some (assign (.Name y py) env)) (fun _ s' => Q .next s') acc C r s' := by
  subst hLe
  obtain ⟨rfl, D, h, tk, m', ys, news', rfl, rfl, F', N', o1, hn, hC₀, hCL, hCD, offC, fin⟩ := h
  show wpAny _ A (assign (.Name y py) env (.ref D)) _ _ _
  refine wpAny_assign_Name (wpAny_storeName_local hy F'.ns (fun h₂ hn₂ hs₂ => ?_) hp)
  have hL₀ : h₀.get? env.locals = none := Heap.get?_none_of_le F'.above
  have F₂ : Fr h₀ env.locals h₂ (fun z => if z = y then some (.ref D) else m z) := ⟨hn₂, fun b o e => hs₂.extBut b o (fun q => by rw [q, hL₀] at e; cases e) (F'.keep b o e), F'.above⟩
  refine ⟨m', hn.sameBut hs₂ hCL, fun h'' hs'' => hf _ _ fin D h'' _ (F₂.change hs'' hCL hC₀) (fun p hp => ?_) o1⟩
  have z : h₂.get? p.1 = some p.2 := hs₂.extBut _ _ (N' p hp).2.1 (N' p hp).1
  refine ⟨hs''.extBut _ _ ?_ z, (N' p hp).2⟩
  rcases List.mem_cons.mp hp with rfl | hp
  · exact Ne.symm hCD
  · exact offC p hp
/-- the list and the names of a block are made -/
theorem comp_env {scope : Scope} {cl : List (Str × Addr)} {news : List (Addr × Obj)} {X : Value → Env → Shared → Prop} (hcell : ∀ y ∈ scope.names, y.2 ≠ .cell) (hkind : scope.kind = .function) (F : Fr h₀ L s.heap m) (N : News h₀ L s.heap news)
    (h : ∀ D C h₁ tk oC, Fr h₀ L h₁ m → News h₀ L h₁ ((C, oC) :: (D, lst []) :: news) → NsObj oC (fun _ => none) → (∀ b o, s.heap.get? b = some o → h₁.get? b = some o) → s.heap.objs.size = D → D < C →
      X (.ref D) (newEnv scope C env.globals cl env.qual none .none (some env) builtinsNs) { s with heap := h₁, toks := tk }) :
    wpAny (model prog w) A (newList []) (fun acc s₃ => wpAny (model prog w) A (newFunctionEnv scope env.globals cl [] env.qual none .none (some env)) (fun cenv s₄ => X acc cenv s₄) E s₃) E s := by
  refine wpAny_newObj_type (wpAny_newFunctionEnv hcell (by intro y hy; simp at hy) (fun h₁ hns₁ hsb₁ => ?_) hkind)
  dsimp only at hns₁ hsb₁ ⊢
  have F1 := F.push { cls := .type "list", dict := none, data := .seq ([] : List Value).toArray }
  have N1 : News h₀ L (s.heap.push { cls := .type "list", dict := none, data := .seq ([] : List Value).toArray }) ((s.heap.objs.size, lst []) :: news) := News.push F N _
  generalize hH2 : s.heap.push { cls := .type "list", dict := none, data := .seq ([] : List Value).toArray } = H2 at hns₁ hsb₁ F1 N1 ⊢
  have hC : H2.objs.size = s.heap.objs.size + 1 := by rw [← hH2, Heap.size_push]
  obtain ⟨oC, heC, hoC⟩ := ns_obj hns₁
  have up : ∀ b o, H2.get? b = some o → h₁.get? b = some o := fun b o e => hsb₁.extBut b o (Nat.ne_of_lt (Heap.lt_size e)) (Heap.get?_push_of_some _ e)
  refine h _ _ h₁ _ oC (F1.keeps up) ?_ hoC (fun b o e => up b o (hH2 ▸ Heap.get?_push_of_some _ e)) rfl (by rw [hC]; exact Nat.lt_succ_self _)
  intro p hp
  rcases List.mem_cons.mp hp with rfl | hp
  · exact ⟨heC, Ne.symm (Nat.ne_of_lt F1.ns.lt), next_is_new F1⟩
  · exact ⟨up _ _ (N1 p hp).1, (N1 p hp).2⟩
/-- the same where the block's one name is a cell -/
theorem comp_env_cell {scope : Scope} {cl : List (Str × Addr)} {x : Str} {news : List (Addr × Obj)} {X : Value → Env → Shared → Prop} (hcf : ∀ n, cellsFrom n scope.names cl = (x, n) :: cl) (hpc : ∀ h, pushCells h scope.names = h.push { cls := .type "cell", data := .cell none }) (F : Fr h₀ L s.heap m) (N : News h₀ L s.heap news)
    (h : ∀ D C c h₁ tk oC oc, Fr h₀ L h₁ m → News h₀ L h₁ ((c, oc) :: (C, oC) :: (D, lst []) :: news) → NsObj oC (fun _ => none) → oc.data = .cell none → (∀ b o, s.heap.get? b = some o → h₁.get? b = some o) → s.heap.objs.size = D → D < C → C < c →
      X (.ref D) (newEnv scope C env.globals ((x, c) :: cl) env.qual none .none (some env) builtinsNs) { s with heap := h₁, toks := tk }) :
    wpAny (model prog w) A (newList []) (fun acc s₃ => wpAny (model prog w) A (newFunctionEnv scope env.globals cl [] env.qual none .none (some env)) (fun cenv s₄ => X acc cenv s₄) E s₃) E s := by
  refine wpAny_newObj_type ?_
  have F1 := F.push { cls := .type "list", dict := none, data := .seq ([] : List Value).toArray }
  have N1 : News h₀ L (s.heap.push { cls := .type "list", dict := none, data := .seq ([] : List Value).toArray }) ((s.heap.objs.size, lst []) :: news) := News.push F N _
  have hC : (s.heap.push { cls := .type "list", dict := none, data := .seq ([] : List Value).toArray }).objs.size = s.heap.objs.size + 1 := by rw [Heap.size_push]
  have up1 : ∀ b o, s.heap.get? b = some o → (s.heap.push { cls := .type "list", dict := none, data := .seq ([] : List Value).toArray }).get? b = some o := fun b o e => Heap.get?_push_of_some _ e
  generalize s.heap.push { cls := .type "list", dict := none, data := .seq ([] : List Value).toArray } = H2 at F1 N1 hC up1 ⊢
  simp only [newFunctionEnv, Option.isSome_some, if_true]
  refine wpAny_bind (wpAny_alloc ?_)
  have hns : (H2.push { cls := .type "dict", data := .dict #[] }).Ns H2.objs.size (fun _ => none) := Heap.Ns.new H2 (.type "dict")
  have F2 := F1.push { cls := .type "dict", data := .dict #[] }
  obtain ⟨oC, heC, hoC⟩ := ns_obj hns
  have N2 : News h₀ L (H2.push { cls := .type "dict", data := .dict #[] }) ((H2.objs.size, oC) :: (s.heap.objs.size, lst []) :: news) := fun p hp => by
    rcases List.mem_cons.mp hp with rfl | hp
    · exact ⟨heC, Ne.symm (Nat.ne_of_lt F1.ns.lt), next_is_new F1⟩
    · exact ⟨Heap.get?_push_of_some _ (N1 p hp).1, (N1 p hp).2⟩
  have hC2 : (H2.push { cls := .type "dict", data := .dict #[] }).objs.size = H2.objs.size + 1 := by rw [Heap.size_push]
  have up2 : ∀ b o, H2.get? b = some o → (H2.push { cls := .type "dict", data := .dict #[] }).get? b = some o := fun b o e => Heap.get?_push_of_some _ e
  generalize H2.push { cls := .type "dict", data := .dict #[] } = H3 at F2 N2 hC2 up2 ⊢
  refine wpAny_bind (wpAny_layCells _ (fun name kind cells => by cases hkc : kind == NameKind.cell <;> simp [hkc]) _ _ _ _ ?_)
  rw [hcf, hpc]
  have N3 := News.push F2 N2 { cls := .type "cell", data := .cell none }
  rw [List.forIn_nil]
  refine wpAny_bind (wpAny_pure (wpAny_pure ?_))
  exact h _ _ _ _ _ _ _ (F2.push _) N3 hoC rfl (fun b o e => Heap.get?_push_of_some _ (up2 b o (up1 b o e))) rfl (by rw [hC]; exact Nat.lt_succ_self _) (by rw [hC2]; exact Nat.lt_succ_self _)
end
section
variable {prog : Program} {w : World} {A : Around} {E : Value → Shared → Prop} {s : Shared} {env : Env}
theorem comp_post {xv : Value} {scope : Scope} {cl : List (Str × Addr)} {c : Value → Value → Env → Code} {R1 R2 : Value → Addr → Result → Shared → Prop}
    (h : wpAny (model prog w) A (pyIter xv) (fun it s₂ => wpAny (model prog w) A (newList []) (fun acc s₃ => wpAny (model prog w) A (newFunctionEnv scope env.globals cl [] env.qual none .none (some env)) (fun cenv s₄ => codeAny (model prog w) A (c it acc cenv) (R1 acc cenv.locals) s₄) E s₃) E s₂) E s)
    (hR : ∀ acc C r s', R1 acc C r s' → R2 acc C r s') :
    wpAny (model prog w) A (pyIter xv) (fun it s₂ => wpAny (model prog w) A (newList []) (fun acc s₃ => wpAny (model prog w) A (newFunctionEnv scope env.globals cl [] env.qual none .none (some env)) (fun cenv s₄ => codeAny (model prog w) A (c it acc cenv) (R2 acc cenv.locals) s₄) E s₃) E s₂) E s :=
  wpAny_mono h (fun _ _ h => wpAny_mono h (fun _ _ h => wpAny_mono h (fun _ _ h => codeAny_mono h fun r s' x => hR _ _ r s' x) fun _ _ e => e) fun _ _ e => e) fun _ _ e => e
theorem assign_comp {elt : PySem.Expr} {target iter : PySem.Expr} {ifs : List PySem.Expr} {gs : List Comprehension} {y : Str} {py pos spos : Pos} {scope : Scope} {cl : List (Str × Addr)} {Q : Flow → Shared → Prop}
    (hsw : swapsWith (.ListComp elt (⟨target, iter, ifs, 0⟩ :: gs) scope pos) (some (.Name y py)) spos.line env = pure true)
    (hs : ∀ x, foldedSetIterable iter env x = pure x) (hclos : closureFor scope env = pure cl) (hkind : scope.kind = .function) (hnames : ∀ z ∈ scope.names, z.2 = .local → scope.names.lookup z.1 = some .local)
    (h : wpAny (model prog w) A (eval iter env) (fun xv s₁ => wpAny (model prog w) A (pyIter xv) (fun it s₂ => wpAny (model prog w) A (newList []) (fun acc s₃ => wpAny (model prog w) A (newFunctionEnv scope env.globals cl [] env.qual none .none (some env)) (fun cenv s₄ =>
      codeAny (model prog w) A (.compStart (.ListComp elt (⟨target, iter, ifs, 0⟩ :: gs) scope pos) 0 it acc { cenv with scope := relabel scope env }) (compPost (model prog w) A E (some (assign (.Name y py) env)) (fun _ s' => Q .next s') acc cenv.locals) s₄) E s₃) E s₂) E s₁) E s) :
    wpAny (model prog w) A (exec (.Assign [.Name y py] (.ListComp elt (⟨target, iter, ifs, 0⟩ :: gs) scope pos) spos) env) Q E s := by
  rw [exec_Assign_Name_used _ _ _ _ hsw]
  refine wpAny_bind (wpAny_standAt (wpAny_bind ?_))
  show wpAny _ A (do let _ ← comprehension (.ListComp elt (⟨target, iter, ifs, 0⟩ :: gs) scope pos) scope env _ (newList []) false (eval iter env) (some (assign (.Name y py) env))) _ _ s
  exact wpAny_bind (wpAny_mono (wpAny_comprehension_free (use := some (assign (.Name y py) env)) (Q := fun _ s' => Q .next s') rfl hs hclos hkind hnames h) (fun _ s' hq => wpAny_pure (wpAny_pure hq)) fun _ _ e => e)
theorem eval_comp {elt : PySem.Expr} {target iter : PySem.Expr} {ifs : List PySem.Expr} {gs : List Comprehension} {pos : Pos} {scope : Scope} {cl : List (Str × Addr)} {Q : Value → Shared → Prop}
    (hs : ∀ x, foldedSetIterable iter env x = pure x) (hclos : closureFor scope env = pure cl) (hkind : scope.kind = .function) (hnames : ∀ z ∈ scope.names, z.2 = .local → scope.names.lookup z.1 = some .local)
    (h : wpAny (model prog w) A (eval iter env) (fun xv s₁ => wpAny (model prog w) A (pyIter xv) (fun it s₂ => wpAny (model prog w) A (newList []) (fun acc s₃ => wpAny (model prog w) A (newFunctionEnv scope env.globals cl [] env.qual none .none (some env)) (fun cenv s₄ =>
      codeAny (model prog w) A (.compStart (.ListComp elt (⟨target, iter, ifs, 0⟩ :: gs) scope pos) 0 it acc { cenv with scope := relabel scope env }) (compPost (model prog w) A E none Q acc cenv.locals) s₄) E s₃) E s₂) E s₁) E s) :
    wpAny (model prog w) A (eval (.ListComp elt (⟨target, iter, ifs, 0⟩ :: gs) scope pos) env) Q E s := by
  rw [eval_ListComp]
  exact wpAny_comprehension_free (use := none) rfl hs hclos hkind hnames h
end
section
open LCg
variable {prog : Program} {w : World} {A : Around} {E : Value → Shared → Prop} {s : Shared} {h₀ : Heap} {L : Addr} {m : Str → Option Value} {env : Env}
theorem assign_compO {elt target iter : PySem.Expr} {ifs : List PySem.Expr} {gs : List Comprehension} {y : Str} {py pos spos : Pos} {scope : Scope} {cl : List (Str × Addr)} {Q : Flow → Shared → Prop} (_F : Fr h₀ L s.heap m) (hLe : env.locals = L)
    (hsw : swapsWith (.ListComp elt (⟨target, iter, ifs, 0⟩ :: gs) scope pos) (some (.Name y py)) spos.line env = pure true)
    (hs : ∀ x, foldedSetIterable iter env x = pure x) (hclos : closureFor scope env = pure cl) (hkind : scope.kind = .function) (hnames : ∀ z ∈ scope.names, z.2 = .local → scope.names.lookup z.1 = some .local)
    (hy : env.kindOf y = some .local) (hp : (env.scope.kind == .class || (env.scope.kind == .module && env.locals != env.globals)) = false)
    (h : wpAny (model prog w) A (eval iter env) (fun xv s₁ => wpAny (model prog w) A (pyIter xv) (fun it s₂ => wpAny (model prog w) A (newList []) (fun acc s₃ => wpAny (model prog w) A (newFunctionEnv scope env.globals cl [] env.qual none .none (some env)) (fun cenv s₄ =>
      codeAny (model prog w) A (.compStart (.ListComp elt (⟨target, iter, ifs, 0⟩ :: gs) scope pos) 0 it acc { cenv with scope := relabel scope env }) (CompOut h₀ L m s₁ (FinA h₀ L m s₁ y Q) acc cenv.locals) s₄) E s₃) E s₂) E s₁) E s) :
    wpAny (model prog w) A (exec (.Assign [.Name y py] (.ListComp elt (⟨target, iter, ifs, 0⟩ :: gs) scope pos) spos) env) Q E s :=
  assign_comp hsw hs hclos hkind hnames (wpAny_mono h (fun _ s₁ x => comp_post (R1 := CompOut h₀ L m s₁ (FinA h₀ L m s₁ y Q)) x fun _ _ _ _ z => CompOut.outA hLe hy hp z fun _ _ t => t) fun _ _ e => e)
theorem eval_compO {elt target iter : PySem.Expr} {ifs : List PySem.Expr} {gs : List Comprehension} {pos : Pos} {scope : Scope} {cl : List (Str × Addr)} {Q : Value → Shared → Prop} (_F : Fr h₀ L s.heap m)
    (hs : ∀ x, foldedSetIterable iter env x = pure x) (hclos : closureFor scope env = pure cl) (hkind : scope.kind = .function) (hnames : ∀ z ∈ scope.names, z.2 = .local → scope.names.lookup z.1 = some .local)
    (h : wpAny (model prog w) A (eval iter env) (fun xv s₁ => wpAny (model prog w) A (pyIter xv) (fun it s₂ => wpAny (model prog w) A (newList []) (fun acc s₃ => wpAny (model prog w) A (newFunctionEnv scope env.globals cl [] env.qual none .none (some env)) (fun cenv s₄ =>
      codeAny (model prog w) A (.compStart (.ListComp elt (⟨target, iter, ifs, 0⟩ :: gs) scope pos) 0 it acc { cenv with scope := relabel scope env }) (CompOut h₀ L m s₁ (FinE h₀ L m s₁ Q) acc cenv.locals) s₄) E s₃) E s₂) E s₁) E s) :
    wpAny (model prog w) A (eval (.ListComp elt (⟨target, iter, ifs, 0⟩ :: gs) scope pos) env) Q E s :=
  eval_comp hs hclos hkind hnames (wpAny_mono h (fun _ s₁ x => comp_post (R1 := CompOut h₀ L m s₁ (FinE h₀ L m s₁ Q)) x fun _ _ _ _ z => CompOut.outE z fun _ _ t => t) fun _ _ e => e)
end

section
open LCg
variable {prog : Program} {w : World} {A : Around} {E : Value → Shared → Prop} {s : Shared} {h₀ : Heap} {L : Addr} {m : Str → Option Value} {env : Env}
theorem cell_comp {elt iter : PySem.Expr} {x : Str} {px : Pos} {scope : Scope} {cl : List (Str × Addr)} {pos : Pos} {r : Addr} {a b : Int} {t u v : Tok} {n : Nat} {news : List (Addr × Obj)} {Fin : List Value → List (Addr × Obj) → Prop} (J : Nat → List Value → Prop)
    (hh : A.handled = none) (hcf : ∀ n, cellsFrom n scope.names cl = (x, n) :: cl) (hpc : ∀ h, pushCells h scope.names = h.push { cls := .type "cell", data := .cell none }) (hkind : scope.kind = .function)
    (hx : ∀ c C, (compEnvC scope ((x, c) :: cl) C env).kindOf x = some .cell) (F : Fr h₀ L s.heap m) (N : News h₀ L s.heap news) (hr : IsRange s.heap r a b 1 t u v) (hsm : Builtin.Range.small a b 1 = true) (hn : Builtin.Range.rangeSize a b 1 = ((n : Nat) : Int)) (hsz : n ≤ sizeLine) (hj : J 0 [])
    (turn : ∀ i ys tv I oI C oC c oc D h tk (E' : Value → Shared → Prop), i < n → J i ys → oc.data = .cell (some (.int (a + (i : Int)) tv)) → Fr h₀ L h m → News h₀ L h ((c, oc) :: (I, oI) :: (C, oC) :: (D, lst ys) :: news) →
      wpAny (model prog w) A (eval elt (compEnvC scope ((x, c) :: cl) C env)) (fun y s' => ∃ h' tk', s' = { s with heap := h', toks := tk' } ∧ Fr h₀ L h' m ∧ News h₀ L h' ((c, oc) :: (I, oI) :: (C, oC) :: (D, lst ys) :: news) ∧ J (i + 1) (ys ++ [y])) E' { s with heap := h, toks := tk })
    (fin : ∀ ys, J n ys → Fin ys news) :
    wpAny (model prog w) A (pyIter (.ref r)) (fun it s₂ => wpAny (model prog w) A (newList []) (fun acc s₃ => wpAny (model prog w) A (newFunctionEnv scope env.globals cl [] env.qual none .none (some env)) (fun cenv s₄ =>
      codeAny (model prog w) A (.compStart (.ListComp elt [⟨.Name x px, iter, [], 0⟩] scope pos) 0 it acc { cenv with scope := relabel scope env }) (CompOut h₀ L m s Fin acc cenv.locals) s₄) E s₃) E s₂) E s := by
  refine wpAny_pyIter_range hr hsm ?_
  have hI0 := next_is_new F
  have hIL : s.heap.objs.size ≠ L := Ne.symm (Nat.ne_of_lt F.ns.lt)
  have W := Walks.range (prog := prog) (w := w) hh s.heap.objs.size a 1 n
  have hnI : ∀ p ∈ news, p.1 < s.heap.objs.size := fun p hp => Heap.lt_size (N p hp).1
  have FI := F.push { cls := .type "range_iterator", data := .fields #[.int a 0, .int (Builtin.Range.rangeSize a b 1) 0, .int 1 0] }
  refine comp_env_cell (s := { s with heap := _ }) (X := fun acc cenv s₄ => codeAny (model prog w) A (.compStart (.ListComp elt [⟨.Name x px, iter, [], 0⟩] scope pos) 0 _ acc { cenv with scope := relabel scope env }) (CompOut h₀ L m s Fin acc cenv.locals) s₄) hcf hpc (F.push _) (fun p hp => ⟨Heap.get?_push_of_some _ (N p hp).1, (N p hp).2⟩) ?_
  intro D C c h₁ tk oC oc F₁ N₁ hoC hoc up hD hDC hCc
  have hID : s.heap.objs.size < D := by rw [← hD]; show _ < (Heap.push _ _).objs.size; rw [Heap.size_push]; exact Nat.lt_succ_self _
  have hI₁ : IsRangeIter h₁ s.heap.objs.size (a + ((0 : Nat) : Int) * 1) ((n : Int) - ((0 : Nat) : Int)) 1 := by
    refine up _ _ ?_
    rw [hn]; simpa using Heap.get?_push_size _ rfl
  clear FI
  have z := fun p hp => (N₁ p hp).2
  have zc := z _ (.head _)
  have zC := z _ (.tail _ (.head _))
  have zD := z _ (.tail _ (.tail _ (.head _)))
  dsimp only at zc zC zD
  show codeAny (model prog w) A (.compStart (.ListComp elt [⟨.Name x px, iter, [], 0⟩] scope pos) 0 _ _ (compEnvC scope ((x, c) :: cl) C env)) (CompOut h₀ L m s Fin _ C) _
  have loop : ∀ s₃ : Shared, s₃ = { s with heap := h₁, toks := tk } →
      codeAny (model prog w) A (.compLoop (.ListComp elt [⟨.Name x px, iter, [], 0⟩] scope pos) 0 (.ref s.heap.objs.size) (.ref D) (compEnvC scope ((x, c) :: cl) C env)) (CompOut h₀ L m s Fin (.ref D) C) s₃ := by
    rintro s₃ rfl
    refine codeAny_compLoop_tests
      (fun k s' => ∃ h' tk i ys oc oC, s' = { s with heap := h', toks := tk } ∧ i ≤ n ∧ k = n + 1 - i ∧ ys.length = i ∧ IsRangeIter h' s.heap.objs.size (a + ((i : Nat) : Int) * 1) ((n : Int) - ((i : Nat) : Int)) 1 ∧ Fr h₀ L h' m ∧ News h₀ L h' ((c, oc) :: (C, oC) :: (D, lst ys) :: news) ∧
        (∃ v, oc.data = .cell v) ∧ (∃ m', NsObj oC m') ∧ J i ys) ?_ (n + 1) ⟨h₁, tk, 0, [], oc, oC, rfl, Nat.zero_le _, rfl, rfl, hI₁, F₁, N₁, ⟨_, hoc⟩, ⟨_, hoC⟩, hj⟩
    rintro k s' ⟨h', tk', i, ys, oc', oC', rfl, hi, rfl, hyl, hst', F', N', ⟨v', hv'⟩, ⟨m', hm'⟩, hJ⟩
    have offI : ∀ p ∈ (c, oc') :: (C, oC') :: (D, lst ys) :: news, p.1 ≠ s.heap.objs.size := fun p hp => by
      simp only [List.mem_cons] at hp
      rcases hp with h | h | h | h
      · rw [h]; exact Nat.ne_of_gt (Nat.lt_trans hID (Nat.lt_trans hDC hCc))
      · rw [h]; exact Nat.ne_of_gt (Nat.lt_trans hID hDC)
      · rw [h]; exact Nat.ne_of_gt hID
      · exact Nat.ne_of_lt (hnI p h)
    have nextF : ∀ h₂ : Heap, (∀ b o, b ∉ [s.heap.objs.size] → h'.get? b = some o → h₂.get? b = some o) → Fr h₀ L h₂ m := fun h₂ hk₂ =>
      ⟨F'.ns.at' fun o e => hk₂ _ o (fun q => hIL (List.mem_singleton.mp q).symm) e, fun b o e => hk₂ b o (fun q => by rw [List.mem_singleton.mp q, hI0] at e; cases e) (F'.keep b o e), F'.above⟩
    have nextN : ∀ h₂ : Heap, (∀ b o, b ∉ [s.heap.objs.size] → h'.get? b = some o → h₂.get? b = some o) → News h₀ L h₂ ((c, oc') :: (C, oC') :: (D, lst ys) :: news) := fun h₂ hk₂ p hp =>
      ⟨hk₂ _ _ (fun q => offI p hp (List.mem_singleton.mp q)) (N' p hp).1, (N' p hp).2⟩
    by_cases hlt : i < n
    · refine W.item i _ _ _ hlt hst' fun v h₂ tk₂ hP hst₂ hk₂ => ?_
      obtain ⟨tv, rfl⟩ := hP
      obtain ⟨oI, hoI, hback⟩ : ∃ oI, h₂.get? s.heap.objs.size = some oI ∧ ∀ h : Heap, h.get? s.heap.objs.size = some oI → IsRangeIter h s.heap.objs.size (a + ((i + 1 : Nat) : Int) * 1) ((n : Int) - ((i + 1 : Nat) : Int)) 1 := ⟨_, hst₂, fun _ e => e⟩
      have F₂ := nextF h₂ hk₂
      have N₂ := nextN h₂ hk₂
      refine wpAny_assign_Name (wpAny_storeName_cell (c := c) (v₀ := v') (by simp [compEnvC, relabel, hkind]) (hx c C) (by simp [compEnvC]) ⟨_, (N₂ _ (.head _)).1, hv'⟩ fun h₃ hc₃ hs₃ => ?_)
      refine wpAny_tests_nil ?_
      simp only [if_true]
      obtain ⟨oc₃, hoc₃, hd₃⟩ := hc₃
      have F₃ : Fr h₀ L h₃ m := F₂.change hs₃ zc.1 zc.2
      have N₃ : News h₀ L h₃ ((c, oc₃) :: (s.heap.objs.size, oI) :: (C, oC') :: (D, lst ys) :: news) := fun p hp => by
        simp only [List.mem_cons] at hp
        rcases hp with h | h | h | h | h
        · rw [h]; exact ⟨hoc₃, zc⟩
        · rw [h]; exact ⟨hs₃.extBut _ _ (Nat.ne_of_lt (Nat.lt_trans hID (Nat.lt_trans hDC hCc))) hoI, hIL, hI0⟩
        · rw [h]; exact ⟨hs₃.extBut _ _ (Nat.ne_of_lt hCc) (N₂ _ (.tail _ (.head _))).1, zC⟩
        · rw [h]; exact ⟨hs₃.extBut _ _ (Nat.ne_of_lt (Nat.lt_trans hDC hCc)) (N₂ _ (.tail _ (.tail _ (.head _)))).1, zD⟩
        · exact ⟨hs₃.extBut _ _ (Nat.ne_of_lt (Nat.lt_trans (hnI p h) (Nat.lt_trans hID (Nat.lt_trans hDC hCc)))) (N₂ p (.tail _ (.tail _ (.tail _ h)))).1, (N₂ p (.tail _ (.tail _ (.tail _ h)))).2⟩
      refine wpAny_mono (turn i ys tv _ oI C oC' c oc₃ D h₃ _ _ hlt hJ (by rw [hd₃, Int.mul_one]) F₃ N₃) (fun y s₄ h₄ => ?_) fun _ _ e => e
      obtain ⟨h₄, tk₄, rfl, F₄, N₄, hJ₄⟩ := h₄
      refine append_at (hsz := by show ys.toArray.size ≤ sizeLine; rw [List.size_toArray, hyl]; exact Nat.le_trans hi hsz) (N₄ _ (.tail _ (.tail _ (.tail _ (.head _))))).1 fun h₅ hs₅ hD₅ => ?_
      refine ⟨n + 1 - (i + 1), by omega, h₅, tk₄, i + 1, ys ++ [y], oc₃, oC', rfl, hlt, rfl, by rw [List.length_append, List.length_singleton, hyl], hback _ (hs₅.extBut _ _ (Nat.ne_of_lt hID) (N₄ _ (.tail _ (.head _))).1), F₄.change hs₅ zD.1 zD.2, ?_, ⟨_, hd₃⟩, ⟨_, hm'⟩, hJ₄⟩
      intro p hp
      simp only [List.mem_cons] at hp
      rcases hp with h | h | h | h
      · rw [h]; exact ⟨hs₅.extBut _ _ (Nat.ne_of_gt (Nat.lt_trans hDC hCc)) (N₄ _ (.head _)).1, zc⟩
      · rw [h]; exact ⟨hs₅.extBut _ _ (Nat.ne_of_gt hDC) (N₄ _ (.tail _ (.tail _ (.head _)))).1, zC⟩
      · rw [h]; exact ⟨hD₅.trans (congrArg some (lst_snoc ys y)), zD⟩
      · exact ⟨hs₅.extBut _ _ (Nat.ne_of_lt (Nat.lt_trans (hnI p h) hID)) (N₄ p (.tail _ (.tail _ (.tail _ (.tail _ h))))).1, (N₄ p (.tail _ (.tail _ (.tail _ (.tail _ h))))).2⟩
    · obtain rfl : i = n := Nat.le_antisymm hi (Nat.not_lt.mp hlt)
      refine W.done _ _ _ hst' fun h₂ tk₂ hk₂ => ?_
      have N₂ := nextN h₂ hk₂
      exact ⟨rfl, D, h₂, tk₂, _, ys, news, rfl, rfl, nextF h₂ hk₂, fun p hp => N₂ p (.tail _ (.tail _ hp)), (Off3.of (I := D) (C := D) fun p hp => ⟨Nat.ne_of_lt (Nat.lt_trans (hnI p hp) hID), Nat.ne_of_lt (Nat.lt_trans (hnI p hp) hID), Nat.ne_of_lt (Nat.lt_trans (hnI p hp) hID)⟩).one, hm'.ns (N₂ _ (.tail _ (.head _))).1, zC.2, zC.1, Nat.ne_of_gt hDC, fun p hp => Nat.ne_of_lt (Nat.lt_trans (hnI p hp) (Nat.lt_trans hID hDC)), fin ys hJ⟩
  exact codeAny_compStart_list (loop _ rfl) (W.self 0 _ _ _ hI₁ (loop _ rfl))
end

section
open LCg
variable {prog : Program} {w : World} {A : Around} {E : Value → Shared → Prop} {s : Shared} {h₀ : Heap} {L : Addr} {m : Str → Option Value} {env : Env}
/-- a block over a list of pairs whose test never holds: an empty list -/
theorem pair_comp {elt iter ct : PySem.Expr} {x y : Str} {px py tp : Pos} {kk : Nat} {scope : Scope} {cl : List (Str × Addr)} {pos : Pos} {ax : Addr} {its : Array Value} {ne : Nat} {news : List (Addr × Obj)} {Fin : List Value → List (Addr × Obj) → Prop} 
    (hh : A.handled = none) (hcell : ∀ y ∈ scope.names, y.2 ≠ .cell) (hkind : scope.kind = .function) (hx : scope.names.lookup x = some .local) (hy : scope.names.lookup y = some .local) (hxy : x ≠ y)
    (F : Fr h₀ L s.heap m) (N : News h₀ L s.heap news) (hax : (ax, W.listOf its ne) ∈ news)
    (hits : ∀ (i : Nat) (v : Value), its[i]? = some v → ∃ (t : Addr) (v1 v2 : Value), v = Value.ref t ∧ (t, ({ cls := .type "tuple", data := .seq #[v1, v2] } : Obj)) ∈ news)
    (turn : ∀ (i : Nat) (t : Addr) (v1 v2 : Value) I oI C oC m₂ D h tk (E' : Value → Shared → Prop), its[i]? = some (.ref t) → (t, ({ cls := .type "tuple", data := .seq #[v1, v2] } : Obj)) ∈ news → NsObj oC m₂ → m₂ x = some v1 → m₂ y = some v2 → Fr h₀ L h m → News h₀ L h ((I, oI) :: (C, oC) :: (D, lst []) :: news) →
      wpAny (model prog w) A (isTrue ct (compEnvC scope cl C env) (eval ct (compEnvC scope cl C env))) (fun ok s' => ok = false ∧ ∃ h' tk', s' = { s with heap := h', toks := tk' } ∧ Fr h₀ L h' m ∧ News h₀ L h' ((I, oI) :: (C, oC) :: (D, lst []) :: news)) E' { s with heap := h, toks := tk })
    (fin : Fin [] news) :
    wpAny (model prog w) A (pyIter (.ref ax)) (fun it s₂ => wpAny (model prog w) A (newList []) (fun acc s₃ => wpAny (model prog w) A (newFunctionEnv scope env.globals cl [] env.qual none .none (some env)) (fun cenv s₄ =>
      codeAny (model prog w) A (.compStart (.ListComp elt [⟨.Tuple [.Name x px, .Name y py] kk tp, iter, [ct], 0⟩] scope pos) 0 it acc { cenv with scope := relabel scope env }) (CompOut h₀ L m s Fin acc cenv.locals) s₄) E s₃) E s₂) E s := by
  have hl : s.heap.IsList ax its := ⟨_, (N _ hax).1, rfl, ne, rfl⟩
  have hlt : ax < s.heap.objs.size := Heap.lt_size (N _ hax).1
  refine wpAny_pyIter_list hl ?_
  have hI0 := next_is_new F
  have hIL : s.heap.objs.size ≠ L := Ne.symm (Nat.ne_of_lt F.ns.lt)
  have W := Walks.list (prog := prog) (w := w) hh s.heap.objs.size ax (Nat.ne_of_lt hlt) its
  have hnI : ∀ p ∈ news, p.1 < s.heap.objs.size := fun p hp => Heap.lt_size (N p hp).1
  refine comp_env (s := { s with heap := _ }) (X := fun acc cenv s₄ => codeAny (model prog w) A (.compStart (.ListComp elt [⟨.Tuple [.Name x px, .Name y py] kk tp, iter, [ct], 0⟩] scope pos) 0 _ acc { cenv with scope := relabel scope env }) (CompOut h₀ L m s Fin acc cenv.locals) s₄) hcell hkind (F.push _) (fun p hp => ⟨Heap.get?_push_of_some _ (N p hp).1, (N p hp).2⟩) ?_
  intro D C h₁ tk oC F₁ N₁ hoC up hD hDC
  have hID : s.heap.objs.size < D := by rw [← hD]; show _ < (Heap.push _ _).objs.size; rw [Heap.size_push]; exact Nat.lt_succ_self _
  have hst₁ : h₁.IsListIter s.heap.objs.size ax 0 ∧ h₁.IsList ax its := ⟨⟨_, up _ _ (Heap.get?_push_size _ rfl), rfl, rfl⟩, ⟨_, (N₁ _ (.tail _ (.tail _ hax))).1, rfl, ne, rfl⟩⟩
  have z := fun p hp => (N₁ p hp).2
  have zC := z _ (.head _)
  have zD := z _ (.tail _ (.head _))
  dsimp only at zC zD
  show codeAny (model prog w) A (.compStart (.ListComp elt [⟨.Tuple [.Name x px, .Name y py] kk tp, iter, [ct], 0⟩] scope pos) 0 _ _ (compEnvC scope cl C env)) (CompOut h₀ L m s Fin _ C) _
  have loop : ∀ s₃ : Shared, s₃ = { s with heap := h₁, toks := tk } →
      codeAny (model prog w) A (.compLoop (.ListComp elt [⟨.Tuple [.Name x px, .Name y py] kk tp, iter, [ct], 0⟩] scope pos) 0 (.ref s.heap.objs.size) (.ref D) (compEnvC scope cl C env)) (CompOut h₀ L m s Fin (.ref D) C) s₃ := by
    rintro s₃ rfl
    refine kct_loop
      (fun k s' => ∃ h' tk i oC, s' = { s with heap := h', toks := tk } ∧ i ≤ its.size ∧ k = its.size + 1 - i ∧ (h'.IsListIter s.heap.objs.size ax i ∧ h'.IsList ax its) ∧ Fr h₀ L h' m ∧ News h₀ L h' ((C, oC) :: (D, lst []) :: news) ∧
        (∃ m', NsObj oC m')) ?_ (its.size + 1) ⟨h₁, tk, 0, oC, rfl, Nat.zero_le _, rfl, hst₁, F₁, N₁, ⟨_, hoC⟩⟩
    rintro k s' ⟨h', tk', i, oC', rfl, hi, rfl, hst', F', N', ⟨m', hm'⟩⟩
    have offI : ∀ p ∈ (C, oC') :: (D, lst []) :: news, p.1 ≠ s.heap.objs.size := fun p hp => by
      simp only [List.mem_cons] at hp
      rcases hp with h | h | h
      · rw [h]; exact Nat.ne_of_gt (Nat.lt_trans hID hDC)
      · rw [h]; exact Nat.ne_of_gt hID
      · exact Nat.ne_of_lt (hnI p h)
    have nextF : ∀ h₂ : Heap, (∀ b o, b ∉ [s.heap.objs.size] → h'.get? b = some o → h₂.get? b = some o) → Fr h₀ L h₂ m := fun h₂ hk₂ =>
      ⟨F'.ns.at' fun o e => hk₂ _ o (fun q => hIL (List.mem_singleton.mp q).symm) e, fun b o e => hk₂ b o (fun q => by rw [List.mem_singleton.mp q, hI0] at e; cases e) (F'.keep b o e), F'.above⟩
    have nextN : ∀ h₂ : Heap, (∀ b o, b ∉ [s.heap.objs.size] → h'.get? b = some o → h₂.get? b = some o) → News h₀ L h₂ ((C, oC') :: (D, lst []) :: news) := fun h₂ hk₂ p hp =>
      ⟨hk₂ _ _ (fun q => offI p hp (List.mem_singleton.mp q)) (N' p hp).1, (N' p hp).2⟩
    by_cases hlt : i < its.size
    · refine W.item i _ _ _ hlt hst' fun v h₂ tk₂ hP hst₂ hk₂ => ?_
      have F₂ := nextF h₂ hk₂
      have N₂ := nextN h₂ hk₂
      obtain ⟨t, v1, v2, rfl, htm⟩ := hits i v hP
      have ht : IsTup h₂ t #[v1, v2] := ⟨_, (N₂ _ (.tail _ (.tail _ htm))).1, rfl, 0, rfl⟩
      refine wpAny_letOwnedTupleGo_listiter hst₂.1 ?_
      refine assign_Tuple_tuple hh ht rfl rfl fun h₅ he => ?_
      have he' : ∀ b o, h₂.get? b = some o → h₅.get? b = some o := fun b o e => he b o (Nat.ne_of_lt (Heap.lt_size e)) e
      have hnC : h₂.Ns C m' := hm'.ns (N₂ _ (.head _)).1
      refine assignInOrder_cons (wpAny_assign_Name (wpAny_storeName_local (lookup_relabel_local hx) (hnC.at' fun o e => he' _ o e) (fun h₆ hn₆ hs₆ => ?_) (by simp [compEnvC, relabel, hkind])))
      refine assignInOrder_cons (wpAny_assign_Name (wpAny_storeName_local (lookup_relabel_local hy) hn₆ (fun h₃ hn₃ hs₃ => ?_) (by simp [compEnvC, relabel, hkind])))
      refine assignInOrder_nil ?_
      have old3 : ∀ b o, b ≠ C → h₂.get? b = some o → h₃.get? b = some o := fun b o hb e => hs₃.extBut b o hb (hs₆.extBut b o hb (he' b o e))
      have F₃ : Fr h₀ L h₃ m := ((F₂.keeps he').change hs₆ zC.1 zC.2).change hs₃ zC.1 zC.2
      obtain ⟨oI, hoI, _, _⟩ := id hst₂.1
      obtain ⟨oC₃, heC, hoC₃⟩ := ns_obj hn₃
      have N₃ : News h₀ L h₃ ((s.heap.objs.size, oI) :: (C, oC₃) :: (D, lst []) :: news) := fun p hp => by
        simp only [List.mem_cons] at hp
        rcases hp with h | h | h | h
        · rw [h]; exact ⟨old3 _ _ (Nat.ne_of_lt (Nat.lt_trans hID hDC)) hoI, hIL, hI0⟩
        · rw [h]; exact ⟨heC, zC⟩
        · rw [h]; exact ⟨old3 _ _ (Nat.ne_of_lt hDC) (N₂ _ (.tail _ (.head _))).1, zD⟩
        · exact ⟨old3 _ _ (Nat.ne_of_lt (Nat.lt_trans (hnI p h) (Nat.lt_trans hID hDC))) (N₂ p (.tail _ (.tail _ h))).1, (N₂ p (.tail _ (.tail _ h))).2⟩
      refine wpAny_mono (turn i t v1 v2 s.heap.objs.size oI C oC₃ _ D h₃ _ _ hP htm hoC₃ (by simp [hxy]) (by simp) F₃ N₃) (fun ok s₄ h₄ => ?_) fun _ _ e => e
      obtain ⟨rfl, h₄, tk₄, rfl, F₄, N₄⟩ := h₄
      simp only [Bool.false_eq_true, if_false]
      have hst₄ : h₄.IsListIter s.heap.objs.size ax (i + 1) ∧ h₄.IsList ax its := by
        obtain ⟨oI', e1, r1⟩ := hst₂.1
        rw [hoI] at e1; cases e1
        exact ⟨⟨oI, (N₄ _ (.head _)).1, r1⟩, ⟨_, (N₄ _ (.tail _ (.tail _ (.tail _ hax)))).1, rfl, ne, rfl⟩⟩
      exact ⟨its.size + 1 - (i + 1), by omega, h₄, tk₄, i + 1, oC₃, rfl, hlt, rfl, hst₄, F₄, fun p hp => N₄ p (.tail _ hp), ⟨_, hoC₃⟩⟩
    · obtain rfl : i = its.size := Nat.le_antisymm hi (Nat.not_lt.mp hlt)
      refine W.done _ _ _ hst' fun h₂ tk₂ hk₂ => ?_
      have N₂ := nextN h₂ hk₂
      exact ⟨rfl, D, h₂, tk₂, _, [], news, rfl, rfl, nextF h₂ hk₂, fun p hp => N₂ p (.tail _ hp), (Off3.of (I := D) (C := D) fun p hp => ⟨Nat.ne_of_lt (Nat.lt_trans (hnI p hp) hID), Nat.ne_of_lt (Nat.lt_trans (hnI p hp) hID), Nat.ne_of_lt (Nat.lt_trans (hnI p hp) hID)⟩).one, hm'.ns (N₂ _ (.head _)).1, zC.2, zC.1, Nat.ne_of_gt hDC, fun p hp => Nat.ne_of_lt (Nat.lt_trans (hnI p hp) (Nat.lt_trans hID hDC)), fin⟩
  exact codeAny_compStart_list (loop _ rfl) (W.self 0 _ _ _ hst₁ (loop _ rfl))
end

section
open LCg
variable {prog : Program} {w : World} {A : Around} {E : Value → Shared → Prop} {R : Result → Shared → Prop} {s : Shared}
theorem compTurn_out (elt t0 it0 t1 it1 : PySem.Expr) (scope : Scope) (pos : Pos) (it acc : Value) (env : Env) :
    compTurn (.ListComp elt [⟨t0, it0, [], 0⟩, ⟨t1, it1, [], 0⟩] scope pos) 0 it acc env = (standAt it0.pos >>= fun _ => pyNext it >>= fun r => match r with
      | none => pure (.done .next)
      | some v => letOwnedTupleGo t0 it v >>= fun _ => assign t0 env v >>= fun _ =>
        eval it1 env >>= fun x => standAt it1.pos >>= fun _ => foldedSetIterable it1 env x >>= fun x => holding [x] (pyIter x) >>= fun i1 =>
          runOwn (.compStart (.ListComp elt [⟨t0, it0, [], 0⟩, ⟨t1, it1, [], 0⟩] scope pos) 1 i1 acc env) env >>= fun _ =>
          again (.compLoop (.ListComp elt [⟨t0, it0, [], 0⟩, ⟨t1, it1, [], 0⟩] scope pos) 0 it acc env)) := by rfl
theorem compTurn_in (elt t0 it0 t1 it1 : PySem.Expr) (scope : Scope) (pos : Pos) (it acc : Value) (env : Env) :
    compTurn (.ListComp elt [⟨t0, it0, [], 0⟩, ⟨t1, it1, [], 0⟩] scope pos) 1 it acc env = (standAt it1.pos >>= fun _ => pyNext it >>= fun r => match r with
      | none => pure (.done .next)
      | some v => letOwnedTupleGo t1 it v >>= fun _ => assign t1 env v >>= fun _ =>
        (eval elt env >>= fun x => call (.builtin "list.append") [acc, x] >>= fun _ => pure ()) >>= fun _ =>
          again (.compLoop (.ListComp elt [⟨t0, it0, [], 0⟩, ⟨t1, it1, [], 0⟩] scope pos) 1 it acc env)) := by rfl
theorem loop_in {elt t0 it0 it1 : PySem.Expr} {y : Str} {py : Pos} {scope : Scope} {pos : Pos} {it acc : Value} {env : Env} (I : Nat → Shared → Prop)
    (turn : ∀ n s, I n s → wpAny (model prog w) A (pyNext it) (fun r s₁ => match r with
      | none => R (.ok .next) s₁
      | some v => wpAny (model prog w) A (assign (.Name y py) env v) (fun _ s₂ => wpAny (model prog w) A (eval elt env) (fun x s₃ =>
          wpAny (model prog w) A (call (.builtin "list.append") [acc, x]) (fun _ s₄ => ∃ m, m < n ∧ I m s₄) (notedBy (model prog w) A env fun e s' => R (.error e) s') s₃)
          (notedBy (model prog w) A env fun e s' => R (.error e) s') s₂) (notedBy (model prog w) A env fun e s' => R (.error e) s') s₁) (notedBy (model prog w) A env fun e s' => R (.error e) s') s)
    (n : Nat) (h : I n s) :
    codeAny (model prog w) A (.compLoop (.ListComp elt [⟨t0, it0, [], 0⟩, ⟨.Name y py, it1, [], 0⟩] scope pos) 1 it acc env) R s := by
  refine codeAny_loop rfl I (fun n s hI => ?_) n h
  show wpAny _ A ((compTurn (.ListComp elt [⟨t0, it0, [], 0⟩, ⟨.Name y py, it1, [], 0⟩] scope pos) 1 it acc env).onRaise (fun x => do noteFrame x env; theTreesLotGoes x)) _ _ s
  refine wpAny_noted ?_
  rw [compTurn_in]
  refine wpAny_bind (wpAny_standAt (wpAny_bind (wpAny_mono (turn n s hI) (fun r s₁ h₁ => ?_) fun _ _ h' => h')))
  cases r with
  | none => exact wpAny_pure h₁
  | some v =>
    refine wpAny_bind (wpAny_of_eq (show letOwnedTupleGo (.Name y py) it v = pure () from rfl) ?_)
    exact wpAny_bind (wpAny_mono h₁ (fun _ s₂ h₂ => wpAny_bind (wpAny_bind (wpAny_mono h₂ (fun x s₃ h₃ => wpAny_bind (wpAny_mono h₃
      (fun _ s₄ h₄ => wpAny_pure (wpAny_pure ⟨rfl, h₄⟩)) fun _ _ h' => h')) fun _ _ h' => h'))) fun _ _ h' => h')
theorem loop_out {elt it0 t1 it1 : PySem.Expr} {x : Str} {px : Pos} {scope : Scope} {pos : Pos} {it acc : Value} {env : Env} (I : Nat → Shared → Prop)
    (turn : ∀ n s, I n s → wpAny (model prog w) A (pyNext it) (fun r s₁ => match r with
      | none => R (.ok .next) s₁
      | some v => wpAny (model prog w) A (assign (.Name x px) env v) (fun _ s₂ => wpAny (model prog w) A (eval it1 env) (fun xv s₃ =>
          wpAny (model prog w) A (pyIter xv) (fun i1 s₄ => codeAny (model prog w) A (.compStart (.ListComp elt [⟨.Name x px, it0, [], 0⟩, ⟨t1, it1, [], 0⟩] scope pos) 1 i1 acc env) (fun r s' => r = .ok .next ∧ ∃ m, m < n ∧ I m s') s₄) (notedBy (model prog w) A env fun e s' => R (.error e) s') s₃)
          (notedBy (model prog w) A env fun e s' => R (.error e) s') s₂) (notedBy (model prog w) A env fun e s' => R (.error e) s') s₁) (notedBy (model prog w) A env fun e s' => R (.error e) s') s)
    (n : Nat) (h : I n s) (hs : ∀ x, foldedSetIterable it1 env x = pure x) :
    codeAny (model prog w) A (.compLoop (.ListComp elt [⟨.Name x px, it0, [], 0⟩, ⟨t1, it1, [], 0⟩] scope pos) 0 it acc env) R s := by
  refine codeAny_loop rfl I (fun n s hI => ?_) n h
  show wpAny _ A ((compTurn (.ListComp elt [⟨.Name x px, it0, [], 0⟩, ⟨t1, it1, [], 0⟩] scope pos) 0 it acc env).onRaise (fun x => do noteFrame x env; theTreesLotGoes x)) _ _ s
  refine wpAny_noted ?_
  rw [compTurn_out]
  refine wpAny_bind (wpAny_standAt (wpAny_bind (wpAny_mono (turn n s hI) (fun r s₁ h₁ => ?_) fun _ _ h' => h')))
  cases r with
  | none => exact wpAny_pure h₁
  | some v =>
    refine wpAny_bind (wpAny_of_eq (show letOwnedTupleGo (.Name x px) it v = pure () from rfl) ?_)
    refine wpAny_bind (wpAny_mono h₁ (fun _ s₂ h₂ => wpAny_bind (wpAny_mono h₂ (fun xv s₃ h₃ => wpAny_bind (wpAny_standAt (wpAny_bind (wpAny_of_eq (hs xv) (wpAny_bind (wpAny_holding (wpAny_mono h₃ (fun i1 s₄ h₄ => wpAny_bind (wpAny_runOwn (codeAny_mono h₄ fun r s' hr => ?_))) fun _ _ h' => h'))))))) fun _ _ h' => h')) fun _ _ h' => h')
    obtain ⟨rfl, hr⟩ := hr
    exact wpAny_pure ⟨rfl, hr⟩
theorem start_in {elt t0 it0 t1 it1 : PySem.Expr} {scope : Scope} {pos : Pos} {it acc : Value} {env : Env}
    (h0 : codeAny (model prog w) A (.compLoop (.ListComp elt [⟨t0, it0, [], 0⟩, ⟨t1, it1, [], 0⟩] scope pos) 1 it acc env) R s)
    (h : wpAny (model prog w) A (pyIter it) (fun it' s' => codeAny (model prog w) A (.compLoop (.ListComp elt [⟨t0, it0, [], 0⟩, ⟨t1, it1, [], 0⟩] scope pos) 1 it' acc env) R s')
      (notedBy (model prog w) A env fun x s' => R (.error x) s') s) :
    codeAny (model prog w) A (.compStart (.ListComp elt [⟨t0, it0, [], 0⟩, ⟨t1, it1, [], 0⟩] scope pos) 1 it acc env) R s := by
  refine codeAny_of_tree ?_
  show wpAny _ _ ((compStart (.ListComp elt [⟨t0, it0, [], 0⟩, ⟨t1, it1, [], 0⟩] scope pos) 1 it acc env).onRaise (fun x => do noteFrame x env; standAt theWindowsPlace)) _ _ s
  refine wpAny_notedAt ?_
  unfold compStart
  show wpAny _ _ (ask >>= _) _ _ s
  refine wpAny_bind (wpAny_askSetting (wpAny_ite ?_))
  split
  · first
      | exact wpAny_bind (wpAny_pure (wpAny_pure (And.intro rfl h0)))
      | exact wpAny_pure (And.intro rfl h0)
  · first
      | exact wpAny_bind (wpAny_rule (wpAny_bind (wpAny_standAt (wpAny_bind (wpAny_mono h (fun it' s' h' => wpAny_pure (And.intro rfl h')) fun _ _ x => x)))))
      | (refine wpAny_bind (wpAny_rule ?_); show wpAny _ _ (standAt it1.pos >>= _) _ _ s; exact wpAny_bind (wpAny_standAt (wpAny_bind (wpAny_mono h (fun it' s' h' => wpAny_pure (And.intro rfl h')) fun _ _ x => x))))
end
section
open LCg
variable {prog : Program} {w : World} {A : Around} {E : Value → Shared → Prop} {s : Shared} {h₀ : Heap} {L : Addr} {m : Str → Option Value} {env : Env}
theorem inner_comp {t0 it0 it1 : PySem.Expr} {y : Str} {pe py : Pos} {scope : Scope} {cl : List (Str × Addr)} {pos : Pos} {r I C D : Addr} {vs ys : List Value} {e : Nat} {oI oC : Obj} {m₂ : Str → Option Value} {news : List (Addr × Obj)}
    (hh : A.handled = none) (hkind : scope.kind = .function) (hy : scope.names.lookup y = some .local) (hdb : (y == ("__debug__" : Str)) = false)
    (F : Fr h₀ L s.heap m) (N : News h₀ L s.heap ((I, oI) :: (C, oC) :: (D, lst ys) :: news)) (hoC : NsObj oC m₂) (hr : (r, W.listOf vs.toArray e) ∈ news) (hIC : I ≠ C) (hID : I ≠ D) (hCD : C ≠ D) (hnC : ∀ p ∈ news, p.1 ≠ C) (hnD : ∀ p ∈ news, p.1 ≠ D) (hlen : ys.length + vs.length ≤ sizeLine) :
    wpAny (model prog w) A (pyIter (.ref r)) (fun i1 s₄ => codeAny (model prog w) A (.compStart (.ListComp (.Name y pe) [⟨t0, it0, [], 0⟩, ⟨.Name y py, it1, [], 0⟩] scope pos) 1 i1 (.ref D) (compEnvC scope cl C env))
      (fun r' s' => r' = .ok .next ∧ ∃ h' tk' oC' m', s' = { s with heap := h', toks := tk' } ∧ Fr h₀ L h' m ∧ News h₀ L h' ((I, oI) :: (C, oC') :: (D, lst (ys ++ vs)) :: news) ∧ NsObj oC' m') s₄) E s := by
  have hrm := N _ (.tail _ (.tail _ (.tail _ hr)))
  have hl : s.heap.IsList r vs.toArray := ⟨_, hrm.1, rfl, e, rfl⟩
  have hlt : r < s.heap.objs.size := Heap.lt_size hrm.1
  refine wpAny_pyIter_list hl ?_
  have hJ0 := next_is_new F
  have hJL : s.heap.objs.size ≠ L := Ne.symm (Nat.ne_of_lt F.ns.lt)
  have W := Walks.list (prog := prog) (w := w) hh s.heap.objs.size r (Nat.ne_of_lt hlt) vs.toArray
  have hlts : ∀ p ∈ (I, oI) :: (C, oC) :: (D, lst ys) :: news, p.1 < s.heap.objs.size := fun p hp => Heap.lt_size (N p hp).1
  have hIJ := hlts _ (.head _)
  have hCJ := hlts _ (.tail _ (.head _))
  have hDJ := hlts _ (.tail _ (.tail _ (.head _)))
  have hnJ : ∀ p ∈ news, p.1 < s.heap.objs.size := fun p hp => hlts p (.tail _ (.tail _ (.tail _ hp)))
  have z := fun p hp => (N p hp).2
  have zI := z _ (.head _)
  have zC := z _ (.tail _ (.head _))
  have zD := z _ (.tail _ (.tail _ (.head _)))
  dsimp only at zI zC zD hIJ hCJ hDJ
  clear hlts
  have loop : ∀ s₃ : Shared, s₃ = { s with heap := s.heap.push { cls := .type "list_iterator", data := .fields #[.ref r, .int 0 0] } } →
      codeAny (model prog w) A (.compLoop (.ListComp (.Name y pe) [⟨t0, it0, [], 0⟩, ⟨.Name y py, it1, [], 0⟩] scope pos) 1 (.ref s.heap.objs.size) (.ref D) (compEnvC scope cl C env))
        (fun r' s' => r' = .ok .next ∧ ∃ h' tk' oC' m', s' = { s with heap := h', toks := tk' } ∧ Fr h₀ L h' m ∧ News h₀ L h' ((I, oI) :: (C, oC') :: (D, lst (ys ++ vs)) :: news) ∧ NsObj oC' m') s₃ := by
    rintro s₃ rfl
    refine loop_in
      (fun k s' => ∃ h' tk i oC m', s' = { s with heap := h', toks := tk } ∧ i ≤ vs.length ∧ k = vs.length + 1 - i ∧ (h'.IsListIter s.heap.objs.size r i ∧ h'.IsList r vs.toArray) ∧ Fr h₀ L h' m ∧ News h₀ L h' ((I, oI) :: (C, oC) :: (D, lst (ys ++ vs.take i)) :: news) ∧ NsObj oC m') ?_ (vs.length + 1)
      ⟨_, _, 0, oC, m₂, rfl, Nat.zero_le _, rfl, ⟨⟨_, Heap.get?_push_size _ rfl, rfl, rfl⟩, hl.push _⟩, F.push _, fun p hp => ?_, hoC⟩
    · rintro k s' ⟨h', tk', i, oC', m', rfl, hi, rfl, hst', F', N', hm'⟩
      have offJ : ∀ p ∈ (I, oI) :: (C, oC') :: (D, lst (ys ++ vs.take i)) :: news, p.1 ≠ s.heap.objs.size := fun p hp => by
        simp only [List.mem_cons] at hp
        rcases hp with h | h | h | h
        · rw [h]; exact Nat.ne_of_lt hIJ
        · rw [h]; exact Nat.ne_of_lt hCJ
        · rw [h]; exact Nat.ne_of_lt hDJ
        · exact Nat.ne_of_lt (hnJ p h)
      have nextF : ∀ h₂ : Heap, (∀ b o, b ∉ [s.heap.objs.size] → h'.get? b = some o → h₂.get? b = some o) → Fr h₀ L h₂ m := fun h₂ hk₂ =>
        ⟨F'.ns.at' fun o e => hk₂ _ o (fun q => hJL (List.mem_singleton.mp q).symm) e, fun b o e => hk₂ b o (fun q => by rw [List.mem_singleton.mp q, hJ0] at e; cases e) (F'.keep b o e), F'.above⟩
      have nextN : ∀ h₂ : Heap, (∀ b o, b ∉ [s.heap.objs.size] → h'.get? b = some o → h₂.get? b = some o) → News h₀ L h₂ ((I, oI) :: (C, oC') :: (D, lst (ys ++ vs.take i)) :: news) := fun h₂ hk₂ p hp =>
        ⟨hk₂ _ _ (fun q => offJ p hp (List.mem_singleton.mp q)) (N' p hp).1, (N' p hp).2⟩
      by_cases hlt : i < vs.length
      · refine W.item i _ _ _ (by simpa using hlt) hst' fun v h₂ tk₂ hP hst₂ hk₂ => ?_
        have F₂ := nextF h₂ hk₂
        have N₂ := nextN h₂ hk₂
        have hv : vs[i]? = some v := by simpa using hP
        refine wpAny_assign_Name (wpAny_storeName_local (lookup_relabel_local hy) (hm'.ns (N₂ _ (.tail _ (.head _))).1) (fun h₃ hn₃ hs₃ => ?_) (by simp [compEnvC, relabel, hkind]))
        obtain ⟨oC₃, heC, hoC₃⟩ := ns_obj hn₃
        have F₃ : Fr h₀ L h₃ m := F₂.change hs₃ zC.1 zC.2
        have N₃ : News h₀ L h₃ ((I, oI) :: (C, oC₃) :: (D, lst (ys ++ vs.take i)) :: news) := fun p hp => by
          simp only [List.mem_cons] at hp
          rcases hp with h | h | h | h
          · rw [h]; exact ⟨hs₃.extBut _ _ hIC (N₂ _ (.head _)).1, zI⟩
          · rw [h]; exact ⟨heC, zC⟩
          · rw [h]; exact ⟨hs₃.extBut _ _ (Ne.symm hCD) (N₂ _ (.tail _ (.tail _ (.head _)))).1, zD⟩
          · exact ⟨hs₃.extBut _ _ (hnC p h) (N₂ p (.tail _ (.tail _ (.tail _ h)))).1, (N₂ p (.tail _ (.tail _ (.tail _ h)))).2⟩
        refine LCgL.ld_own N₃ (.tail _ (.head _)) hoC₃ (v := v) (by simp) ?_ (by simp [compEnvC, relabel, hkind]) (lookup_relabel_local hy) hdb
        refine append_at (hsz := by show (ys ++ vs.take i).toArray.size ≤ sizeLine; rw [List.size_toArray, List.length_append, List.length_take]; omega) (N₃ _ (.tail _ (.tail _ (.head _)))).1 fun h₅ hs₅ hD₅ => ?_
        refine ⟨vs.length + 1 - (i + 1), by omega, h₅, _, i + 1, oC₃, _, rfl, hlt, rfl, ?_, F₃.change hs₅ zD.1 zD.2, ?_, hoC₃⟩
        · obtain ⟨oJ, e1, r1⟩ := hst₂.1
          refine ⟨⟨oJ, hs₅.extBut _ _ (Nat.ne_of_gt hDJ) (hs₃.extBut _ _ (Nat.ne_of_gt hCJ) e1), r1⟩, ⟨_, hs₅.extBut _ _ (hnD _ hr) (N₃ _ (.tail _ (.tail _ (.tail _ hr)))).1, rfl, e, rfl⟩⟩
        · intro p hp
          simp only [List.mem_cons] at hp
          rcases hp with h | h | h | h
          · rw [h]; exact ⟨hs₅.extBut _ _ hID (N₃ _ (.head _)).1, zI⟩
          · rw [h]; exact ⟨hs₅.extBut _ _ hCD (N₃ _ (.tail _ (.head _))).1, zC⟩
          · rw [h]
            refine ⟨hD₅.trans (congrArg some ((lst_snoc _ v).trans ?_)), zD⟩
            rw [List.take_add_one, hv, List.append_assoc]; rfl
          · exact ⟨hs₅.extBut _ _ (hnD p h) (N₃ p (.tail _ (.tail _ (.tail _ h)))).1, (N₃ p (.tail _ (.tail _ (.tail _ h)))).2⟩
      · obtain rfl : i = vs.length := Nat.le_antisymm hi (Nat.not_lt.mp hlt)
        refine W.done _ _ _ (by simpa using hst') fun h₂ tk₂ hk₂ => ?_
        have N₂ := nextN h₂ hk₂
        rw [List.take_length] at N₂
        exact ⟨rfl, h₂, tk₂, oC', m', rfl, nextF h₂ hk₂, N₂, hm'⟩
    · rw [List.take_zero, List.append_nil] at hp
      exact ⟨Heap.get?_push_of_some _ (N p hp).1, (N p hp).2⟩
  exact start_in (loop _ rfl) (W.self 0 _ _ _ ⟨⟨_, Heap.get?_push_size _ rfl, rfl, rfl⟩, hl.push _⟩ (loop _ rfl))
end
section
open LCg
variable {prog : Program} {w : World} {A : Around} {E : Value → Shared → Prop} {s : Shared} {h₀ : Heap} {L : Addr} {m : Str → Option Value} {env : Env}
theorem two_comp {it0 it1 : PySem.Expr} {x y : Str} {pe px py : Pos} {scope : Scope} {cl : List (Str × Addr)} {pos : Pos} {ax : Addr} {its : Array Value} {ne : Nat} {news : List (Addr × Obj)} {Fin : List Value → List (Addr × Obj) → Prop} (J : Nat → List Value → Prop)
    (hh : A.handled = none) (hcell : ∀ y ∈ scope.names, y.2 ≠ .cell) (hkind : scope.kind = .function) (hx : scope.names.lookup x = some .local) (hy : scope.names.lookup y = some .local) (hdb : (y == ("__debug__" : Str)) = false) (hs : ∀ cl C x, foldedSetIterable it1 (compEnvC scope cl C env) x = pure x)
    (F : Fr h₀ L s.heap m) (N : News h₀ L s.heap news) (hax : (ax, W.listOf its ne) ∈ news) (hj : J 0 []) (hlen : ∀ i ys, J i ys → ys.length ≤ sizeLine)
    (turn : ∀ (i : Nat) (v : Value) ys I oI C oC m₂ D h tk (E' : Value → Shared → Prop), its[i]? = some v → J i ys → NsObj oC m₂ → m₂ x = some v → Fr h₀ L h m → News h₀ L h ((I, oI) :: (C, oC) :: (D, lst ys) :: news) →
      wpAny (model prog w) A (eval it1 (compEnvC scope cl C env)) (fun xv s' => ∃ (r : Addr) (vs : List Value) (e : Nat) (h' : Heap) (tk' : Nat), xv = .ref r ∧ (r, W.listOf vs.toArray e) ∈ news ∧ J (i + 1) (ys ++ vs) ∧ s' = { s with heap := h', toks := tk' } ∧ Fr h₀ L h' m ∧ News h₀ L h' ((I, oI) :: (C, oC) :: (D, lst ys) :: news)) E' { s with heap := h, toks := tk })
    (fin : ∀ ys, J its.size ys → Fin ys news) :
    wpAny (model prog w) A (pyIter (.ref ax)) (fun it s₂ => wpAny (model prog w) A (newList []) (fun acc s₃ => wpAny (model prog w) A (newFunctionEnv scope env.globals cl [] env.qual none .none (some env)) (fun cenv s₄ =>
      codeAny (model prog w) A (.compStart (.ListComp (.Name y pe) [⟨.Name x px, it0, [], 0⟩, ⟨.Name y py, it1, [], 0⟩] scope pos) 0 it acc { cenv with scope := relabel scope env }) (CompOut h₀ L m s Fin acc cenv.locals) s₄) E s₃) E s₂) E s := by
  have hl : s.heap.IsList ax its := ⟨_, (N _ hax).1, rfl, ne, rfl⟩
  have hlt : ax < s.heap.objs.size := Heap.lt_size (N _ hax).1
  refine wpAny_pyIter_list hl ?_
  have hI0 := next_is_new F
  have hIL : s.heap.objs.size ≠ L := Ne.symm (Nat.ne_of_lt F.ns.lt)
  have W := Walks.list (prog := prog) (w := w) hh s.heap.objs.size ax (Nat.ne_of_lt hlt) its
  have hnI : ∀ p ∈ news, p.1 < s.heap.objs.size := fun p hp => Heap.lt_size (N p hp).1
  refine comp_env (s := { s with heap := _ }) (X := fun acc cenv s₄ => codeAny (model prog w) A (.compStart (.ListComp (.Name y pe) [⟨.Name x px, it0, [], 0⟩, ⟨.Name y py, it1, [], 0⟩] scope pos) 0 _ acc { cenv with scope := relabel scope env }) (CompOut h₀ L m s Fin acc cenv.locals) s₄) hcell hkind (F.push _) (fun p hp => ⟨Heap.get?_push_of_some _ (N p hp).1, (N p hp).2⟩) ?_
  intro D C h₁ tk oC F₁ N₁ hoC up hD hDC
  have hID : s.heap.objs.size < D := by rw [← hD]; show _ < (Heap.push _ _).objs.size; rw [Heap.size_push]; exact Nat.lt_succ_self _
  have hst₁ : h₁.IsListIter s.heap.objs.size ax 0 ∧ h₁.IsList ax its := ⟨⟨_, up _ _ (Heap.get?_push_size _ rfl), rfl, rfl⟩, ⟨_, (N₁ _ (.tail _ (.tail _ hax))).1, rfl, ne, rfl⟩⟩
  have z := fun p hp => (N₁ p hp).2
  have zC := z _ (.head _)
  have zD := z _ (.tail _ (.head _))
  dsimp only at zC zD
  show codeAny (model prog w) A (.compStart (.ListComp (.Name y pe) [⟨.Name x px, it0, [], 0⟩, ⟨.Name y py, it1, [], 0⟩] scope pos) 0 _ _ (compEnvC scope cl C env)) (CompOut h₀ L m s Fin _ C) _
  have loop : ∀ s₃ : Shared, s₃ = { s with heap := h₁, toks := tk } →
      codeAny (model prog w) A (.compLoop (.ListComp (.Name y pe) [⟨.Name x px, it0, [], 0⟩, ⟨.Name y py, it1, [], 0⟩] scope pos) 0 (.ref s.heap.objs.size) (.ref D) (compEnvC scope cl C env)) (CompOut h₀ L m s Fin (.ref D) C) s₃ := by
    rintro s₃ rfl
    refine loop_out
      (fun k s' => ∃ h' tk i ys oC, s' = { s with heap := h', toks := tk } ∧ i ≤ its.size ∧ k = its.size + 1 - i ∧ (h'.IsListIter s.heap.objs.size ax i ∧ h'.IsList ax its) ∧ Fr h₀ L h' m ∧ News h₀ L h' ((C, oC) :: (D, lst ys) :: news) ∧
        (∃ m', NsObj oC m') ∧ J i ys) ?_ (its.size + 1) ⟨h₁, tk, 0, [], oC, rfl, Nat.zero_le _, rfl, hst₁, F₁, N₁, ⟨_, hoC⟩, hj⟩ (hs cl C)
    rintro k s' ⟨h', tk', i, ys, oC', rfl, hi, rfl, hst', F', N', ⟨m', hm'⟩, hJ⟩
    have offI : ∀ p ∈ (C, oC') :: (D, lst ys) :: news, p.1 ≠ s.heap.objs.size := fun p hp => by
      simp only [List.mem_cons] at hp
      rcases hp with h | h | h
      · rw [h]; exact Nat.ne_of_gt (Nat.lt_trans hID hDC)
      · rw [h]; exact Nat.ne_of_gt hID
      · exact Nat.ne_of_lt (hnI p h)
    have nextF : ∀ h₂ : Heap, (∀ b o, b ∉ [s.heap.objs.size] → h'.get? b = some o → h₂.get? b = some o) → Fr h₀ L h₂ m := fun h₂ hk₂ =>
      ⟨F'.ns.at' fun o e => hk₂ _ o (fun q => hIL (List.mem_singleton.mp q).symm) e, fun b o e => hk₂ b o (fun q => by rw [List.mem_singleton.mp q, hI0] at e; cases e) (F'.keep b o e), F'.above⟩
    have nextN : ∀ h₂ : Heap, (∀ b o, b ∉ [s.heap.objs.size] → h'.get? b = some o → h₂.get? b = some o) → News h₀ L h₂ ((C, oC') :: (D, lst ys) :: news) := fun h₂ hk₂ p hp =>
      ⟨hk₂ _ _ (fun q => offI p hp (List.mem_singleton.mp q)) (N' p hp).1, (N' p hp).2⟩
    by_cases hlt : i < its.size
    · refine W.item i _ _ _ hlt hst' fun v h₂ tk₂ hP hst₂ hk₂ => ?_
      have F₂ := nextF h₂ hk₂
      have N₂ := nextN h₂ hk₂
      refine wpAny_assign_Name (wpAny_storeName_local (lookup_relabel_local hx) (hm'.ns (N₂ _ (.head _)).1) (fun h₃ hn₃ hs₃ => ?_) (by simp [compEnvC, relabel, hkind]))
      have F₃ : Fr h₀ L h₃ m := F₂.change hs₃ zC.1 zC.2
      obtain ⟨oI, hoI, rI⟩ := id hst₂.1
      obtain ⟨oC₃, heC, hoC₃⟩ := ns_obj hn₃
      have N₃ : News h₀ L h₃ ((s.heap.objs.size, oI) :: (C, oC₃) :: (D, lst ys) :: news) := fun p hp => by
        simp only [List.mem_cons] at hp
        rcases hp with h | h | h | h
        · rw [h]; exact ⟨hs₃.extBut _ _ (Nat.ne_of_lt (Nat.lt_trans hID hDC)) hoI, hIL, hI0⟩
        · rw [h]; exact ⟨heC, zC⟩
        · rw [h]; exact ⟨hs₃.extBut _ _ (Nat.ne_of_lt hDC) (N₂ _ (.tail _ (.head _))).1, zD⟩
        · exact ⟨hs₃.extBut _ _ (Nat.ne_of_lt (Nat.lt_trans (hnI p h) (Nat.lt_trans hID hDC))) (N₂ p (.tail _ (.tail _ h))).1, (N₂ p (.tail _ (.tail _ h))).2⟩
      refine wpAny_mono (turn i v ys s.heap.objs.size oI C oC₃ _ D h₃ _ _ hP hJ hoC₃ (by simp) F₃ N₃) (fun xv s₄ h₄ => ?_) fun _ _ e => e
      obtain ⟨r, vs, e, h₄, tk₄, rfl, hr, hJ₄, rfl, F₄, N₄⟩ := h₄
      refine wpAny_mono (inner_comp (s := { s with heap := h₄, toks := tk₄ }) hh hkind hy hdb F₄ N₄ hoC₃ hr (Nat.ne_of_lt (Nat.lt_trans hID hDC)) (Nat.ne_of_lt hID) (Nat.ne_of_gt hDC) (fun p hp => Nat.ne_of_lt (Nat.lt_trans (hnI p hp) (Nat.lt_trans hID hDC))) (fun p hp => Nat.ne_of_lt (Nat.lt_trans (hnI p hp) hID)) (by have := hlen _ _ hJ₄; rwa [List.length_append] at this)) (fun i1 s₅ h₅ => codeAny_mono h₅ fun r' s₆ h₆ => ?_) fun _ _ e => e
      obtain ⟨rfl, h₆, tk₆, oC₆, m₆, rfl, F₆, N₆, hoC₆⟩ := h₆
      refine ⟨rfl, its.size + 1 - (i + 1), by omega, h₆, tk₆, i + 1, ys ++ vs, oC₆, rfl, hlt, rfl, ?_, F₆, fun p hp => N₆ p (.tail _ hp), ⟨_, hoC₆⟩, hJ₄⟩
      exact ⟨⟨oI, (N₆ _ (.head _)).1, rI⟩, ⟨_, (N₆ _ (.tail _ (.tail _ (.tail _ hax)))).1, rfl, ne, rfl⟩⟩
    · obtain rfl : i = its.size := Nat.le_antisymm hi (Nat.not_lt.mp hlt)
      refine W.done _ _ _ hst' fun h₂ tk₂ hk₂ => ?_
      have N₂ := nextN h₂ hk₂
      exact ⟨rfl, D, h₂, tk₂, _, ys, news, rfl, rfl, nextF h₂ hk₂, fun p hp => N₂ p (.tail _ hp), (Off3.of (I := D) (C := D) fun p hp => ⟨Nat.ne_of_lt (Nat.lt_trans (hnI p hp) hID), Nat.ne_of_lt (Nat.lt_trans (hnI p hp) hID), Nat.ne_of_lt (Nat.lt_trans (hnI p hp) hID)⟩).one, hm'.ns (N₂ _ (.head _)).1, zC.2, zC.1, Nat.ne_of_gt hDC, fun p hp => Nat.ne_of_lt (Nat.lt_trans (hnI p hp) (Nat.lt_trans hID hDC)), fin ys hJ⟩
  exact codeAny_compStart_list (loop _ rfl) (W.self 0 _ _ _ hst₁ (loop _ rfl))
end

theorem sum_ints {prog : Program} {w : World} {A : Around} {E : Value → Shared → Prop} {s : Shared} {l : Addr} {vs : List Value} {ns : List Int} {Q : Value → Shared → Prop} (hh : A.handled = none) (hl : s.heap.IsList l vs.toArray) (hi : IntsAre vs ns)
    (h : ∀ h' tk t', (∀ b o, s.heap.get? b = some o → h'.get? b = some o) → Q (.int ns.sum t') { s with heap := h', toks := tk }) : wpAny (model prog w) A (call (.builtin "sum") [.ref l]) Q E s := by
  obtain ⟨xs, hxs⟩ := hi.allInts.items
  rw [hxs] at hl
  refine sum_intListG hh hl fun h' tk t' hk => ?_
  have e : ns = xs.toList.map (·.1) := by
    rw [← nums_intItems, ← hxs]; exact hi.numsOf.symm
  have := h h' tk t' hk
  rw [e] at this
  rw [preSum_eq, List.take_of_length_le (by simp)]; exact this
section
variable {prog : Program} {w : World} {A : Around} {E : Value → Shared → Prop} {s : Shared} {env : Env} {h₀ : Heap} {x : Str} {body : List Stmt} {Q : Flow → Shared → Prop}
theorem iter_range2 {r : Addr} {a b c : Int} {t u v : Tok} {n : Nat} {m₀ : Str → Option Value} {news : List (Addr × Obj)} (J : (Str → Option Value) → Nat → (Str → Option Value) → List (Addr × Obj) → Prop)
    (hh : A.handled = none) (hr : IsRange s.heap r a b c t u v) (hsmall : Builtin.Range.small a b c = true) (hn : Builtin.Range.rangeSize a b c = (n : Int))
    (F : Fr h₀ env.locals s.heap m₀) (N : News h₀ env.locals s.heap news) (hj : J m₀ 0 m₀ news)
    (turn : ∀ I i k tv m₁ news₁ h tk own, i < n → k = a + (i : Int) * c → J m₀ i m₁ news₁ → (∀ p ∈ news₁, p.1 ≠ I) → (∀ p ∈ own, p.1 = I) → (∃ o, (I, o) ∈ own) →
      Fr h₀ env.locals h (fun y => if y = x then some (.int k tv) else m₁ y) → News h₀ env.locals h (own ++ news₁) →
      wpAny (model prog w) A (execs body env) (LEnd h₀ env.locals I own (J m₀ (i + 1)) { s with heap := h, toks := tk } Q) E { s with heap := h, toks := tk })
    (done : ∀ m₁ news₁ h tk, J m₀ n m₁ news₁ → Fr h₀ env.locals h m₁ → News h₀ env.locals h news₁ → Q .next { s with heap := h, toks := tk }) :
    wpAny (model prog w) A (pyIter (.ref r)) (fun it s₂ => LoopAtV prog w A h₀ env x body Q E it s₂) E s := by
  refine wpAny_pyIter_range hr hsmall ?_
  refine loop_gen2 J (Walks.range hh s.heap.objs.size a c n) ?_ (next_is_new F) (fun p hp => Nat.ne_of_lt (Heap.lt_size (N p hp).1))
    (by show IsRangeIter _ _ _ _ _; rw [hn]; simpa using Heap.get?_push_size _ rfl) (F.push _) (fun p hp => ⟨Heap.get?_push_of_some _ (N p hp).1, (N p hp).2⟩) hj ?_ (fun m₁ news₁ h tk => done m₁ news₁ h tk)
  · intro hm
    exact absurd F.ns.lt ((List.mem_singleton.mp hm) ▸ Nat.lt_irrefl _)
  · rintro i v m₁ news₁ h tk own hi ⟨tv, rfl⟩ hJ hI hown hall hst F₁ N₁
    exact turn _ i _ tv m₁ news₁ h tk own hi rfl hJ hI (fun p hp => List.mem_singleton.mp (hown p hp)) ⟨_, hall _ (.head _) (next_is_new F) _ hst⟩ F₁ N₁
theorem iter_list2 {l : Addr} {items : Array Value} {m₀ : Str → Option Value} {news : List (Addr × Obj)} (J : (Str → Option Value) → Nat → (Str → Option Value) → List (Addr × Obj) → Prop)
    (hh : A.handled = none) (hl : s.heap.IsList l items) (hlL : l ≠ env.locals)
    (F : Fr h₀ env.locals s.heap m₀) (N : News h₀ env.locals s.heap news) (hj : J m₀ 0 m₀ news)
    (turn : ∀ I i v m₁ news₁ h tk own, items[i]? = some v → J m₀ i m₁ news₁ → (∀ p ∈ news₁, p.1 ≠ I) → (∀ p ∈ own, p.1 = I ∨ p.1 = l) → h.IsList l items → (∃ o, (I, o) ∈ own) →
      Fr h₀ env.locals h (fun y => if y = x then some v else m₁ y) → News h₀ env.locals h (own ++ news₁) →
      wpAny (model prog w) A (execs body env) (LEnd h₀ env.locals I own (J m₀ (i + 1)) { s with heap := h, toks := tk } Q) E { s with heap := h, toks := tk })
    (done : ∀ m₁ news₁ h tk, J m₀ items.size m₁ news₁ → Fr h₀ env.locals h m₁ → News h₀ env.locals h news₁ → Q .next { s with heap := h, toks := tk }) :
    wpAny (model prog w) A (pyIter (.ref l)) (fun it s₂ => LoopAtV prog w A h₀ env x body Q E it s₂) E s := by
  obtain ⟨ol, hol, _⟩ := id hl
  have hlt : l < s.heap.objs.size := Heap.lt_size hol
  refine wpAny_pyIter_list hl ?_
  refine loop_gen2 J (Walks.list hh s.heap.objs.size l (Nat.ne_of_lt hlt) items) ?_ (next_is_new F) (fun p hp => Nat.ne_of_lt (Heap.lt_size (N p hp).1))
    ⟨⟨_, Heap.get?_push_size _ rfl, rfl, rfl⟩, hl.push _⟩ (F.push _) (fun p hp => ⟨Heap.get?_push_of_some _ (N p hp).1, (N p hp).2⟩) hj ?_ (fun m₁ news₁ h tk => done m₁ news₁ h tk)
  · intro hm
    rcases List.mem_cons.mp hm with e | hm
    · exact absurd F.ns.lt (e ▸ Nat.lt_irrefl _)
    · exact hlL (List.mem_singleton.mp hm).symm
  · intro i v m₁ news₁ h tk own _ hP hJ hI hown hall hst F₁ N₁
    obtain ⟨oI, eI, _⟩ := id hst.1
    refine turn _ i v m₁ news₁ h tk own hP hJ hI (fun p hp => ?_) hst.2 ⟨_, hall _ (.head _) (next_is_new F) _ eI⟩ F₁ N₁
    rcases List.mem_cons.mp (hown p hp) with e | e
    · exact .inl e
    · exact .inr (List.mem_singleton.mp e)
end
/-- pairs of ints, as the ledger bears them -/
inductive PairsL : List (Addr × Obj) → List (Int × Int) → Prop
  | nil : PairsL [] []
  | cons {r : Addr} {a b : Int} {t u : Tok} {l : List (Addr × Obj)} {ps : List (Int × Int)} : PairsL l ps → PairsL ((r, { cls := .type "tuple", data := .seq #[.int a t, .int b u] }) :: l) ((a, b) :: ps)
noncomputable def pairsOf (size y u : Int) : Nat → List (Int × Int)
  | 0 => [(1, 0)]
  | k + 1 => pairsOf size y u k ++ [((totalAt size y u (termsOf size y u k) (k + 1) (k + 1)).fdiv ((k : Int) + 1), (totalAt size y u (termsOf size y u k) (k + 1) (k + 1)).fmod ((k : Int) + 1))]
noncomputable def divsOf (k i : Nat) : List Int := ((List.range i).map fun (j : Nat) => 1 + (j : Int)).filter fun d => (k : Int).fmod d == 0
theorem divsOf_succ (k i : Nat) : divsOf k (i + 1) = divsOf k i ++ if (k : Int).fmod (1 + (i : Int)) = 0 then [1 + (i : Int)] else [] := by
  unfold divsOf
  rw [List.range_succ, List.map_append, List.filter_append]
  congr 1
  by_cases h : (k : Int).fmod (1 + (i : Int)) = 0 <;> simp [h]
theorem sumsAt_eq (k : Nat) : sumsAt k = (divsOf k k).sum := rfl
theorem PairsL.length : ∀ {l : List (Addr × Obj)} {ps : List (Int × Int)}, PairsL l ps → l.length = ps.length
  | _, _, .nil => rfl
  | _, _, .cons h => by rw [List.length_cons, List.length_cons, h.length]
theorem PairsL.append : ∀ {l l' : List (Addr × Obj)} {a b : List (Int × Int)}, PairsL l a → PairsL l' b → PairsL (l ++ l') (a ++ b)
  | _, _, _, _, .nil, h => h
  | _, _, _, _, .cons h1, h2 => .cons (h1.append h2)
theorem PairsL.at : ∀ {l : List (Addr × Obj)} {ps : List (Int × Int)}, PairsL l ps → ∀ (i : Nat), i < ps.length → ∃ (p : Addr × Obj) (t u : Tok), l[i]? = some p ∧ p ∈ l ∧ p.2 = { cls := .type "tuple", data := .seq #[.int ((ps.map (·.1)).getD i 0) t, .int ((ps.map (·.2)).getD i 0) u] }
  | _, _, .nil, i, h => absurd h (Nat.not_lt_zero _)
  | _, _, .cons h1, 0, h => ⟨_, _, _, rfl, .head _, rfl⟩
  | _, _, .cons h1, i + 1, h => by
    obtain ⟨p, t, u, h2, h3, h4⟩ := h1.at i (Nat.lt_of_succ_lt_succ h)
    exact ⟨p, t, u, h2, .tail _ h3, h4⟩
theorem pairsOf_fst (size y u : Int) : ∀ k, (pairsOf size y u k).map (·.1) = termsOf size y u k
  | 0 => rfl
  | k + 1 => by rw [pairsOf, List.map_append, pairsOf_fst size y u k]; rfl
theorem pairsOf_len (size y u : Int) : ∀ k, (pairsOf size y u k).length = k + 1
  | 0 => rfl
  | k + 1 => by rw [pairsOf, List.length_append, pairsOf_len size y u k]; rfl
theorem mulb {a b : Int} {A B : Nat} (ha : a.natAbs ≤ A) (hb : b.natAbs ≤ B) : (a * b).natAbs ≤ A * B := by rw [Int.natAbs_mul]; exact Nat.mul_le_mul ha hb
theorem sums_small : ∀ j, j ≤ 6 → 0 ≤ sumsAt j ∧ sumsAt j ≤ 12 := by
  have key : ∀ j : Fin 7, 0 ≤ sumsAt j.val ∧ sumsAt j.val ≤ 12 := by decide +kernel
  intro j hj
  exact key ⟨j, by omega⟩
theorem pow_small (y : Int) (m : Nat) (hm : m ≤ 6) (h1 : -20 ≤ y) (h2 : y ≤ 20) : (y ^ m).natAbs ≤ 64000000 := by
  rw [Int.natAbs_pow]
  refine Nat.le_trans (Nat.pow_le_pow_left (show y.natAbs ≤ 20 by omega) m) (Nat.le_trans (Nat.pow_le_pow_right (by decide) hm) (by decide))
theorem newTupleV_K {M : Model} {A : Around} {E : Value → Shared → Prop} {s : Shared} {g : Heap} {L : Addr} {m : Str → Option Value} {news : List (Addr × Obj)} {vs : List Value} {Q : Value → Shared → Prop} (F : Fr g L s.heap m) (N : News g L s.heap news) (hv : vs.length ≤ sizeLine)
    (h : ∀ D h', Fr g L h' m → News g L h' ((D, { cls := .type "tuple", data := .seq vs.toArray }) :: news) → L < D → (∀ p ∈ news, p.1 < D) → Q (.ref D) { s with heap := h' }) : wpAny M A (newTuple vs) Q E s :=
  wpAny_newTuple (h _ _ (F.push _) (News.push F N _) F.ns.lt fun p hp => Heap.lt_size (N p hp).1) hv
theorem off1_mem {D : Addr} : ∀ {l : List (Addr × Obj)}, LCg.Off1 D l → ∀ p ∈ l, p.1 ≠ D
  | [], _, _, h => nomatch h
  | _ :: _, x, p, h => by
    rcases List.mem_cons.mp h with rfl | h
    · exact x.1
    · exact off1_mem x.2 p h
theorem map4 {m m₀ : Str → Option Value} {a b c d : Str} (h : ∀ y, y ≠ a → y ≠ b → y ≠ c → y ≠ d → m y = m₀ y) : m = fun y => if y = a then m a else if y = b then m b else if y = c then m c else if y = d then m d else m₀ y := by
  funext y
  by_cases e1 : y = a
  · subst e1; simp
  · by_cases e2 : y = b
    · subst e2; simp [e1]
    · by_cases e3 : y = c
      · subst e3; simp [e1, e2]
      · by_cases e4 : y = d
        · subst e4; simp [e1, e2, e3]
        · simp [e1, e2, e3, e4, h y e1 e2 e3 e4]
theorem refsOf_push (rs : List (Addr × Obj)) (p : Addr × Obj) : (refsOf rs).toArray.push (Value.ref p.1) = (refsOf (rs ++ [p])).toArray := by unfold refsOf; simp
def Le6 (n : Nat) : Prop := n ≤ 6
section
open LCg
set_option maxHeartbeats 4000000 in
theorem terms_ok (w : World) (n : Nat) (size y u : Int) (tn tz ty tu : Tok) (hn : Le6 n) (hz1 : 1 ≤ size) (hz2 : size ≤ 3) (hy : -20 ≤ y ∧ y ≤ 20) (hu0 : -10 ≤ u ∧ u ≤ 10)
    (hT : ∀ k, k < n → -2 ^ 200 ≤ totalAt size y u (termsOf size y u k) (k + 1) (k + 1) ∧ totalAt size y u (termsOf size y u k) (k + 1) (k + 1) < 2 ^ 200) :
    PureT w 201 300 2700 [.int n tn, .int size tz, .int y ty, .int u tu] (fun _ => True)
      (fun z v h => ∃ D e rs, v = .ref D ∧ z ≤ D ∧ h.get? D = some (W.listOf (refsOf rs).toArray e) ∧ PairsL rs (pairsOf size y u n) ∧ (∀ p ∈ rs, z ≤ p.1 ∧ h.get? p.1 = some p.2)) := by
  unfold PureT; k_fill; intro loose mean mg mb A s Q E g tl hA hdp hu XK T hg hsz hTb hN _ hret
  obtain ⟨g', hg1, hsz1, hN1, X1, T1, hb1⟩ := hide_ground hg hN XK T
  refine wpAny_call ?_
  have XS := X1.keeps hg1
  have ho := XS 201 _ (by k_is)
  refine' enterG (binds := [("n", .int n tn), ("size", .int size tz), ("y", .int y ty), ("u", .int u tu)]) hg1 hsz1 hN1 T1 ho rfl (codeRec_of XS ?k7) ?k8 ?k9 ?kB ?_ ?c2 ?c3 ?c4 ?c5
  case k7 => k_is
  case k8 => omega
  case k9 => exact BindsTo.of_eq rfl
  case kB => exact locs rfl
  case c2 => exact rfl
  case c3 => exact rfl
  case c4 => exact rfl
  case c5 => decide
  intro L h₁ hL hk₁ F N
  (try dsimp only)
  k_unmd
  (try k_fold)
  clear hg hN XK T hsz ho XS
  (repeat' (first | (k_unfold; (try dsimp only)) | ((with_reducible refine isWp ?_); (fail_if_success (with_reducible first | refine halt 0 (by constructor) ?_ | refine halt 28 (by constructor) ?_)); (first | (walk1; (try dsimp only)) | (dsimp only; walk1))) | ((with_reducible show _ ∧ wpAny _ _ _ _ _ _); (refine And.intro (by first | k_in | exact FnAt_fr (by k_asm) (by assumption) | exact FnAt.of (by k_asm) (by k_mem)) ?_)) | ((fail_if_success (with_reducible refine isWp ?_)); dsimp only)))
  refine assign_compO (cl := []) F rfl (by with_unfolding_all rfl) (by intro _; with_unfolding_all rfl) (by with_unfolding_all rfl) (by rfl) (by decide) (by rfl) (by rfl) ?_
  (repeat' (first | (k_unfold; (try dsimp only)) | ((with_reducible refine isWp ?_); (fail_if_success (with_reducible first | refine halt 0 (by constructor) ?_ | refine halt 28 (by constructor) ?_)); (first | (walk1; (try dsimp only)) | (dsimp only; walk1))) | ((with_reducible show _ ∧ wpAny _ _ _ _ _ _); (refine And.intro (by first | k_in | exact FnAt_fr (by k_asm) (by assumption) | exact FnAt.of (by k_asm) (by k_mem)) ?_)) | ((fail_if_success (with_reducible refine isWp ?_)); dsimp only)))
  rename Fr _ _ _ _ => F2
  rename News _ _ _ _ => N2
  rename IsRange _ _ _ _ _ _ _ _ => R2
  refine cell_comp (cl := []) (a := 0) (b := (n : Int) + 1) (n := n + 1) (fun i ys => IntsAre ys ((List.range i).map fun k => sumsAt k)) hA (fun _ => rfl) (fun _ => rfl) rfl (fun _ _ => rfl) F2 N2 R2 (small_one (by omega) (by omega) (by omega) (by have h6 : n ≤ 6 := hn; omega)) ?_ (by have h6 : n ≤ 6 := hn; unfold sizeLine; omega) .nil ?_ ?_
  · rw [rangeSize_nat]; omega
  · rintro i ys tv I oI C oC c oc D h tk E' hi hys hoc F3 N3
    refine cutQ fun Qr hQr => ?_
    rw [Int.zero_add] at hoc
    (repeat' (first | (k_unfold; (try dsimp only)) | ((with_reducible refine isWp ?_); (fail_if_success (with_reducible first | refine halt 0 (by constructor) ?_ | refine halt 28 (by constructor) ?_)); (first | (walk1; (try dsimp only)) | (dsimp only; walk1))) | ((with_reducible show _ ∧ wpAny _ _ _ _ _ _); (refine And.intro (by first | k_in | exact FnAt_fr (by k_asm) (by assumption) | exact FnAt.of (by k_asm) (by k_mem)) ?_)) | ((fail_if_success (with_reducible refine isWp ?_)); dsimp only)))
    refine LCt.ListComp_T F3 (by with_unfolding_all rfl) (by decide) (by rfl) (by decide) (by rfl) ?_ (by intro _; with_unfolding_all rfl)
    (repeat' (first | (k_unfold; (try dsimp only)) | ((with_reducible refine isWp ?_); (fail_if_success (with_reducible first | refine halt 0 (by constructor) ?_ | refine halt 28 (by constructor) ?_)); (first | (walk1; (try dsimp only)) | (dsimp only; walk1))) | ((with_reducible show _ ∧ wpAny _ _ _ _ _ _); (refine And.intro (by first | k_in | exact FnAt_fr (by k_asm) (by assumption) | exact FnAt.of (by k_asm) (by k_mem)) ?_)) | ((fail_if_success (with_reducible refine isWp ?_)); dsimp only)))
    rename Fr _ _ _ _ => F4
    rename News _ _ _ _ => N4
    rename IsRange _ _ _ _ _ _ _ _ => R4
    refine LCt.CompSrcT.range hA F4 N4 R4 (small_one (by omega) (by omega) (by omega) (by have h6 : n ≤ 6 := hn; omega)) (n := i) (by rw [rangeSize_nat]; omega) (by have h6 : n ≤ 6 := hn; unfold sizeLine; omega) ?_
    intro g4
    refine CompRestT.inv (fun j ys2 news2 => news2 = _ ∧ IntsAre ys2 (divsOf i j)) ?_ ?_ _ 0 [] _ (Nat.zero_add _) ⟨rfl, .nil⟩
    · rintro j ys2 news2 v I2 oI2 C2 oC2 D2 m2 h5 tk5 E5 hj ⟨rfl, hys2⟩ ⟨td, rfl⟩ hC2 hx2 F5 N5 off5 ne5
      have hd0 : (1 : Int) + (j : Int) ≠ 0 := by omega
      (repeat' (first | (k_unfold; (try dsimp only)) | ((with_reducible refine isWp ?_); (fail_if_success (with_reducible first | refine halt 0 (by constructor) ?_ | refine halt 28 (by constructor) ?_)); (first | (walk1; (try dsimp only)) | (dsimp only; walk1))) | ((with_reducible show _ ∧ wpAny _ _ _ _ _ _); (refine And.intro (by first | k_in | exact FnAt_fr (by k_asm) (by assumption) | exact FnAt.of (by k_asm) (by k_mem)) ?_)) | ((fail_if_success (with_reducible refine isWp ?_)); dsimp only)))
      have hsucc := divsOf_succ i j
      by_cases hc : (i : Int).fmod (1 + (j : Int)) = 0
      · rw [if_pos (by simpa using hc)]
        rw [if_pos hc] at hsucc
        (repeat' (first | (k_unfold; (try dsimp only)) | ((with_reducible refine isWp ?_); (fail_if_success (with_reducible first | refine halt 0 (by constructor) ?_ | refine halt 28 (by constructor) ?_)); (first | (walk1; (try dsimp only)) | (dsimp only; walk1))) | ((with_reducible show _ ∧ wpAny _ _ _ _ _ _); (refine And.intro (by first | k_in | exact FnAt_fr (by k_asm) (by assumption) | exact FnAt.of (by k_asm) (by k_mem)) ?_)) | ((fail_if_success (with_reducible refine isWp ?_)); dsimp only)))
        rename Fr _ _ _ _ => F6
        rename News _ _ _ _ => N6
        exact LCg.CompEnd.intro F6 N6 _ (fun p hp => hp) off5 trivial ⟨rfl, by rw [hsucc]; exact hys2.append (.cons _ _ .nil)⟩
      · rw [if_neg (by simpa using hc)]
        rw [if_neg hc, List.append_nil] at hsucc
        rename Fr _ _ _ _ => F6
        rename News _ _ _ _ => N6
        exact LCg.CompEnd.intro F6 N6 _ (fun p hp => hp) off5 trivial ⟨rfl, by rw [hsucc]; exact hys2⟩
    · rintro ys2 news2 ⟨rfl, hys2⟩
      intro D4 h5 tk5 F5 N5 o5
      dsimp only
      (repeat' (first | (k_unfold; (try dsimp only)) | ((with_reducible refine isWp ?_); (fail_if_success (with_reducible first | refine halt 0 (by constructor) ?_ | refine halt 28 (by constructor) ?_)); (first | (walk1; (try dsimp only)) | (dsimp only; walk1))) | ((with_reducible show _ ∧ wpAny _ _ _ _ _ _); (refine And.intro (by first | k_in | exact FnAt_fr (by k_asm) (by assumption) | exact FnAt.of (by k_asm) (by k_mem)) ?_)) | ((fail_if_success (with_reducible refine isWp ?_)); dsimp only)))
      refine sum_ints hA (N5.isList (.head _)) hys2 fun h6 tk6 t6 hk6 => ?_
      refine hQr _ _ ?_
      refine ⟨h6, tk6, rfl, F5.keeps hk6, fun p hp => ?_, ?_⟩
      · exact (N5.grown hk6) p (.tail _ hp)
      · rw [List.range_succ, List.map_append]
        exact hys.append (.cons _ _ .nil)
  · intro ys hys
    intro D h tk F3 N3 o1
    clear F2 N2 R2
    dsimp only
    (repeat' (first | (k_unfold; (try dsimp only)) | ((with_reducible refine isWp ?_); (fail_if_success (with_reducible first | refine halt 0 (by constructor) ?_ | refine halt 28 (by constructor) ?_)); (first | (walk1; (try dsimp only)) | (dsimp only; walk1))) | ((with_reducible show _ ∧ wpAny _ _ _ _ _ _); (refine And.intro (by first | k_in | exact FnAt_fr (by k_asm) (by assumption) | exact FnAt.of (by k_asm) (by k_mem)) ?_)) | ((fail_if_success (with_reducible refine isWp ?_)); dsimp only)))
    rename Fr _ _ _ _ => F4
    rename News _ _ _ _ => N4
    refine newTupleV_K F4 N4 (Nat.le_of_ble_eq_true rfl) ?_
    intro T0 h5 F5 N5 hLT0 hnT0
    obtain ⟨ta, tb, N5b⟩ : ∃ ta tb : Tok, News g' L h5 ((T0, ({ cls := .type "tuple", data := .seq #[.int 1 ta, .int 0 tb] } : Obj)) :: (D, lst ys) :: tl) := ⟨_, _, N5⟩
    clear N5
    (try dsimp only)
    (repeat' (first | (k_unfold; (try dsimp only)) | ((with_reducible refine isWp ?_); (fail_if_success (with_reducible first | refine halt 0 (by constructor) ?_ | refine halt 28 (by constructor) ?_)); (first | (walk1; (try dsimp only)) | (dsimp only; walk1))) | ((with_reducible show _ ∧ wpAny _ _ _ _ _ _); (refine And.intro (by first | k_in | exact FnAt_fr (by k_asm) (by assumption) | exact FnAt.of (by k_asm) (by k_mem)) ?_)) | ((fail_if_success (with_reducible refine isWp ?_)); dsimp only)))
    rename Fr _ _ _ _ => F6
    rename News _ _ _ _ => N6
    refine newListV_K F6 N6 (Nat.le_of_ble_eq_true rfl) ?_
    intro Dt h7 F7 N7 hLDt hnDt
    (try dsimp only)
    have hDDt : D < Dt := hnDt (D, _) (.tail _ (.head _))
    have hT0Dt : T0 < Dt := hnDt (T0, _) (.head _)
    have hDT0 : D < T0 := hnT0 (D, _) (.head _)
    have htlT0 : ∀ p ∈ tl, p.1 < T0 := fun p hp => hnT0 p (.tail _ hp)
    (repeat' (first | (k_unfold; (try dsimp only)) | ((with_reducible refine isWp ?_); (fail_if_success (with_reducible first | refine halt 0 (by constructor) ?_ | refine halt 28 (by constructor) ?_)); (first | (walk1; (try dsimp only)) | (dsimp only; walk1))) | ((with_reducible show _ ∧ wpAny _ _ _ _ _ _); (refine And.intro (by first | k_in | exact FnAt_fr (by k_asm) (by assumption) | exact FnAt.of (by k_asm) (by k_mem)) ?_)) | ((fail_if_success (with_reducible refine isWp ?_)); dsimp only)))
    rename Fr _ _ _ _ => F8
    rename News _ _ _ _ => N8
    rename IsRange _ _ _ _ _ _ _ _ => R8
    have hLz : s.heap.objs.size ≤ L := Nat.le_of_eq hL
    have hDtl : ∀ p ∈ tl, p.1 ≠ D := fun p hp => off1_mem o1 p hp
    refine iter_range2 (env := envX _ _ L _ _ _) (fun m₀ i m news => ∃ rs e tlc, news = tlc ++ ((Dt, W.listOf (refsOf rs).toArray e) :: (D, lst ys) :: rs) ∧ (∀ y, y ≠ Str.ofString "k" → y ≠ Str.ofString "total" → y ≠ Str.ofString "j" → y ≠ Str.ofString "weight" → y ≠ Str.ofString "m" → m y = m₀ y) ∧
      PairsL rs (pairsOf size y u i) ∧ Tabs tlc ∧ (∀ p ∈ (D, lst ys) :: rs, p.1 ≠ Dt) ∧ (∀ p ∈ (Dt, W.listOf (refsOf rs).toArray e) :: (D, lst ys) :: rs, ∀ q ∈ tlc, p.1 ≠ q.1) ∧ (∀ p ∈ tlc, p.1 ∈ tl.map (·.1) ∨ s.heap.objs.size ≤ p.1) ∧ (∀ p ∈ rs, s.heap.objs.size ≤ p.1)) hA R8
      (small_one (by omega) (by omega) (by omega) (by have h6 : n ≤ 6 := hn; omega)) (rangeSize_nat _ _) F8 (newsSub N8 (l' := tl ++ ((Dt, W.listOf #[Value.ref T0] 0) :: (D, lst ys) :: [(T0, _)])) ?_) ⟨[(T0, { cls := .type "tuple", data := .seq #[.int 1 ta, .int 0 tb] })], 0, tl, rfl, fun _ _ _ _ _ _ => rfl, .cons .nil, hTb, ?_, ?_, ?_, ?_⟩ ?_ ?_
    · intro p hp
      revert p; ((repeat (first | exact List.forall_mem_nil _ | (refine List.forall_mem_cons.mpr ⟨?_, ?_⟩; focus ((with_reducible ((repeat (first | exact List.mem_cons_self | refine List.mem_cons_of_mem _ ?_ | (refine List.mem_append_left _ ?_; ((repeat (first | exact List.mem_cons_self | refine List.mem_cons_of_mem _ ?_ | assumption)); (first | done | fail "m"))) | refine List.mem_append_right _ ?_ | assumption)); (first | done | fail "m"))))) | (refine List.forall_mem_append.mpr ⟨?_, ?_⟩; focus (intro p hp; (with_reducible ((repeat (first | exact List.mem_cons_self | refine List.mem_cons_of_mem _ ?_ | (refine List.mem_append_left _ ?_; ((repeat (first | exact List.mem_cons_self | refine List.mem_cons_of_mem _ ?_ | assumption)); (first | done | fail "m"))) | refine List.mem_append_right _ ?_ | assumption)); (first | done | fail "m"))))) | (refine List.forall_mem_append.mpr ⟨?_, ?_⟩; focus ((repeat (first | exact List.forall_mem_nil _ | (refine List.forall_mem_cons.mpr ⟨?_, ?_⟩; focus ((with_reducible ((repeat (first | exact List.mem_cons_self | refine List.mem_cons_of_mem _ ?_ | (refine List.mem_append_left _ ?_; ((repeat (first | exact List.mem_cons_self | refine List.mem_cons_of_mem _ ?_ | assumption)); (first | done | fail "m"))) | refine List.mem_append_right _ ?_ | assumption)); (first | done | fail "m"))))))); (first | done | fail "m"))) | (intro p hp; (with_reducible ((repeat (first | exact List.mem_cons_self | refine List.mem_cons_of_mem _ ?_ | (refine List.mem_append_left _ ?_; ((repeat (first | exact List.mem_cons_self | refine List.mem_cons_of_mem _ ?_ | assumption)); (first | done | fail "m"))) | refine List.mem_append_right _ ?_ | assumption)); (first | done | fail "m")))))); (first | done | fail "m"))
    · intro p hp
      simp only [List.mem_cons, List.not_mem_nil, or_false] at hp
      rcases hp with h | h
      · rw [h]; exact Nat.ne_of_lt hDDt
      · rw [h]; exact Nat.ne_of_lt hT0Dt
    · intro p hp q hq
      simp only [List.mem_cons, List.not_mem_nil, or_false] at hp
      rcases hp with h | h | h
      · rw [h]; exact Nat.ne_of_gt (Nat.lt_trans (htlT0 q hq) hT0Dt)
      · rw [h]; exact fun e => hDtl q hq e.symm
      · rw [h]; exact Nat.ne_of_gt (htlT0 q hq)
    · intro p hp
      exact .inl (List.mem_map_of_mem hp)
    · intro p hp
      rw [List.mem_singleton.mp hp]
      exact Nat.le_trans hLz (Nat.le_of_lt hLT0)
    · rintro I i k tv m₁ news₁ h tk own hi hk ⟨rs, e, tlc, rfl, hm, hprs, hTc, hDtn, hoff, htlc, hrsz⟩ hnI hown ⟨oI, hoI⟩ F9 N9
      refine cutQ fun Qr hQr => ?_
      have hi2 : i + 1 ≤ n := by omega
      have hk' : k = 1 + (i : Int) := by omega
      subst hk'
      rw [map5 hm] at F9
      generalize m₁ (Str.ofString "k") = u1 at F9
      generalize m₁ (Str.ofString "total") = u2 at F9
      generalize m₁ (Str.ofString "j") = u3 at F9
      generalize m₁ (Str.ofString "weight") = u4 at F9
      generalize m₁ (Str.ofString "m") = u5 at F9
      clear hm m₁ F8 N8 R8 hk
      replace F9 : Fr g' L h _ := F9
      replace N9 : News g' L h _ := N9
      (try dsimp only at F9)
      (repeat' (first | (k_unfold; (try dsimp only)) | ((with_reducible refine isWp ?_); (fail_if_success (with_reducible first | refine halt 0 (by constructor) ?_ | refine halt 28 (by constructor) ?_)); (first | (walk1; (try dsimp only)) | (dsimp only; walk1))) | ((with_reducible show _ ∧ wpAny _ _ _ _ _ _); (refine And.intro (by first | k_in | exact FnAt_fr (by k_asm) (by assumption) | exact FnAt.of (by k_asm) (by k_mem)) ?_)) | ((fail_if_success (with_reducible refine isWp ?_)); dsimp only)))
      rename Fr _ _ _ _ => F10
      rename News _ _ _ _ => N10
      rename IsRange _ _ _ _ _ _ _ _ => R10
      have hmD : (D, lst ys) ∈ own ++ (tlc ++ (Dt, W.listOf (refsOf rs).toArray e) :: (D, lst ys) :: rs) := by simp
      have hmDt : (Dt, W.listOf (refsOf rs).toArray e) ∈ own ++ (tlc ++ (Dt, W.listOf (refsOf rs).toArray e) :: (D, lst ys) :: rs) := by simp
      have hmrs : ∀ p ∈ rs, p ∈ own ++ (tlc ++ (Dt, W.listOf (refsOf rs).toArray e) :: (D, lst ys) :: rs) := fun p hp => by simp [hp]
      generalize hNL : own ++ (tlc ++ (Dt, W.listOf (refsOf rs).toArray e) :: (D, lst ys) :: rs) = NL at N10 hmD hmDt hmrs
      have hplen : rs.length = i + 1 := by rw [hprs.length, pairsOf_len]
      refine iter_range (env := envX _ _ L _ _ _) (fun m₀ j m news => news = NL ∧ (∀ y, y ≠ Str.ofString "j" → y ≠ Str.ofString "weight" → y ≠ Str.ofString "m" → y ≠ Str.ofString "total" → m y = m₀ y) ∧ ∃ t, m (Str.ofString "total") = some (.int (totalAt size y u (termsOf size y u i) (i + 1) j) t)) hA R10
        (small_one (by omega) (by omega) (by omega) (by have h6 : n ≤ 6 := hn; omega)) (rangeSize_nat _ _) F10 N10 ⟨rfl, fun _ _ _ _ _ => rfl, _, rfl⟩ ?_ ?_
      · rintro I2 j kj tj m₂ news₂ h11 tk11 own2 hI2 hj hkj ⟨rfl, hm2, tt2, ht2⟩ hnI2 hown2 F11 N11
        refine cutQ fun Qr hQr => ?_
        have hj1 : j + 1 ≤ i + 1 := by omega
        have hkj' : kj = ((j + 1 : Nat) : Int) := by omega
        subst hkj'
        rw [map4 hm2, ht2] at F11
        generalize m₂ (Str.ofString "j") = w1 at F11
        generalize m₂ (Str.ofString "weight") = w2 at F11
        generalize m₂ (Str.ofString "m") = w3 at F11
        clear hm2 ht2 m₂ F10 N10 R10 hkj
        replace F11 : Fr g' L h11 _ := F11
        replace N11 : News g' L h11 _ := N11
        (try dsimp only at F11)
        obtain ⟨TT, hTT⟩ : ∃ TT, totalAt size y u (termsOf size y u i) (i + 1) j = TT := ⟨_, rfl⟩
        rw [hTT] at F11
        (repeat' (first | (k_unfold; (try dsimp only)) | ((with_reducible refine isWp ?_); (fail_if_success (with_reducible first | refine halt 0 (by constructor) ?_ | refine halt 28 (by constructor) ?_)); (first | (walk1; (try dsimp only)) | (dsimp only; walk1))) | ((with_reducible show _ ∧ wpAny _ _ _ _ _ _); (refine And.intro (by first | k_in | exact FnAt_fr (by k_asm) (by assumption) | exact FnAt.of (by k_asm) (by k_mem)) ?_)) | ((fail_if_success (with_reducible refine isWp ?_)); dsimp only)))
        have hlD := N11.isList (a := D) (items := ys.toArray) (List.mem_append_right _ hmD)
        refine item_anyK hlD hys (by omega) (by rw [List.length_map, List.length_range]; omega) (by have h6 : n ≤ 6 := hn; omega) fun t9 => ?_
        rw [show (List.map (fun k => sumsAt k) (List.range (n + 1))).getD (((j + 1 : Nat) : Int).toNat) 0 = sumsAt (j + 1) by rw [Int.toNat_natCast, List.getD_eq_getElem?_getD, List.getElem?_map, List.getElem?_range (by omega)]; rfl]
        (try dsimp only)
        (repeat' (first | (k_unfold; (try dsimp only)) | ((with_reducible refine isWp ?_); (fail_if_success (with_reducible first | refine halt 0 (by constructor) ?_ | refine halt 28 (by constructor) ?_)); (first | (walk1; (try dsimp only)) | (dsimp only; walk1))) | ((with_reducible show _ ∧ wpAny _ _ _ _ _ _); (refine And.intro (by first | k_in | exact FnAt_fr (by k_asm) (by assumption) | exact FnAt.of (by k_asm) (by k_mem)) ?_)) | ((fail_if_success (with_reducible refine isWp ?_)); dsimp only)))
        obtain ⟨p, tp, up, hp1, hp2, hp3⟩ := hprs.at (i - j) (by rw [pairsOf_len]; omega)
        have hs6 := sums_small (j + 1) (by have h6 : n ≤ 6 := hn; omega)
        by_cases hc : ((j + 1 : Nat) : Int).fmod size = 0
        · rw [if_pos (by simpa using hc)]
          obtain ⟨Q2, hQ, hQj⟩ : ∃ Q2 : Nat, ((j + 1 : Nat) : Int).fdiv size = (Q2 : Int) ∧ Q2 ≤ j + 1 := by
            refine ⟨(((j + 1 : Nat) : Int).fdiv size).toNat, ?_, ?_⟩
            · rw [Int.fdiv_eq_ediv_of_nonneg _ (by omega), Int.toNat_of_nonneg (Int.ediv_nonneg (by omega) (by omega))]
            · rw [Int.fdiv_eq_ediv_of_nonneg _ (by omega)]
              have := Int.ediv_le_self (a := ((j + 1 : Nat) : Int)) size (by omega)
              omega
          (repeat' (first | (k_unfold; (try dsimp only)) | ((with_reducible refine isWp ?_); (fail_if_success (with_reducible first | refine halt 0 (by constructor) ?_ | refine halt 28 (by constructor) ?_)); (first | (walk1; (try dsimp only)) | (dsimp only; walk1))) | ((with_reducible show _ ∧ wpAny _ _ _ _ _ _); (refine And.intro (by first | k_in | exact FnAt_fr (by k_asm) (by assumption) | exact FnAt.of (by k_asm) (by k_mem)) ?_)) | ((fail_if_success (with_reducible refine isWp ?_)); dsimp only)))
          rename Fr _ _ _ _ => F12
          rename News _ _ _ _ => N12
          rw [hQ] at F12
          rw [hQ]
          have hlD2 := N12.isList (a := D) (items := ys.toArray) (List.mem_append_right _ hmD)
          refine item_anyK hlD2 hys (by omega) (by rw [List.length_map, List.length_range]; omega) (by have h6 : n ≤ 6 := hn; omega) fun t10 => ?_
          rw [show (List.map (fun k => sumsAt k) (List.range (n + 1))).getD ((Q2 : Nat) : Int).toNat 0 = sumsAt Q2 by rw [Int.toNat_natCast, List.getD_eq_getElem?_getD, List.getElem?_map, List.getElem?_range (by omega)]; rfl]
          have hq6 := sums_small Q2 (by have h6 : n ≤ 6 := hn; omega)
          have hy6 := pow_small y Q2 (by have h6 : n ≤ 6 := hn; omega) hy.1 hy.2
          obtain ⟨S1, hS1⟩ : ∃ S1, sumsAt (j + 1) = S1 := ⟨_, rfl⟩
          obtain ⟨S2, hS2⟩ : ∃ S2, sumsAt Q2 = S2 := ⟨_, rfl⟩
          rw [hS1] at hs6 F12
          rw [hS2] at hq6 ⊢
          rw [hS1]
          obtain ⟨hs6a, hs6b⟩ := hs6
          obtain ⟨hq6a, hq6b⟩ := hq6
          (try dsimp only)
          (repeat' (first | (k_unfold; (try dsimp only)) | ((with_reducible refine isWp ?_); (fail_if_success (with_reducible first | refine halt 0 (by constructor) ?_ | refine halt 28 (by constructor) ?_)); (first | (walk1; (try dsimp only)) | (dsimp only; walk1))) | ((with_reducible show _ ∧ wpAny _ _ _ _ _ _); (refine And.intro (by first | k_in | exact FnAt_fr (by k_asm) (by assumption) | exact FnAt.of (by k_asm) (by k_mem)) ?_)) | ((fail_if_success (with_reducible refine isWp ?_)); dsimp only)))
          refine pow_int_small (by omega) (by have h6 : n ≤ 6 := hn; omega) (by omega) ?_
          rw [Int.toNat_natCast]
          obtain ⟨Y, hY⟩ : ∃ Y, y ^ Q2 = Y := ⟨_, rfl⟩
          rw [hY] at hy6 ⊢
          have hYa : -64000000 ≤ Y := by omega
          have hYb : Y ≤ 64000000 := by omega
          (try dsimp only)
          (repeat' (first | (k_unfold; (try dsimp only)) | ((with_reducible refine isWp ?_); (fail_if_success (with_reducible first | refine halt 0 (by constructor) ?_ | refine halt 28 (by constructor) ?_)); (first | (walk1; (try dsimp only)) | (dsimp only; walk1))) | ((with_reducible show _ ∧ wpAny _ _ _ _ _ _); (refine And.intro (by first | k_in | exact FnAt_fr (by k_asm) (by assumption) | exact FnAt.of (by k_asm) (by k_mem)) ?_)) | ((fail_if_success (with_reducible refine isWp ?_)); dsimp only)))
          have hzz : (size * size * S2).natAbs ≤ 3 * 3 * 12 := mulb (mulb (by omega) (by omega)) (by omega)
          have huY : ((u - 1) * Y).natAbs ≤ 11 * 64000000 := mulb (by omega) (by omega)
          have hzw : (size * size * S2 * (1 + (u - 1) * Y)).natAbs ≤ 3 * 3 * 12 * (1 + 11 * 64000000) := mulb hzz (Nat.le_trans (Int.natAbs_add_le _ _) (Nat.add_le_add_left huY 1))
          have hval : TT + (S1 - size * size * S2 * (1 + (u - 1) * Y)) * (termsOf size y u i).getD (i - j) 0 = totalAt size y u (termsOf size y u i) (i + 1) (j + 1) := by
            rw [totalAt, hTT, weightAt, if_pos hc, Nat.add_sub_add_right, hQ, Int.toNat_natCast, hS1, hS2, hY]
          have hW1 : -(2 ^ 63) < S1 - size * size * S2 * (1 + (u - 1) * Y) := by omega
          have hW2 : S1 - size * size * S2 * (1 + (u - 1) * Y) < 2 ^ 63 := by omega
          rename News _ _ _ _ => N14
          have hlDt := N14.isList (a := Dt) (items := (refsOf rs).toArray) (List.mem_append_right _ hmDt)
          rw [show (1 + (i : Int)) - ((j + 1 : Nat) : Int) = ((i - j : Nat) : Int) by omega]
          refine item_val (x := .ref p.1) hlDt (by omega) (small_sub hi2 hn) (by rw [Int.toNat_natCast, List.getElem?_toArray, refsOf, List.getElem?_map, hp1]; rfl) ?_
          (try dsimp only)
          (repeat' (first | (k_unfold; (try dsimp only)) | ((with_reducible refine isWp ?_); (fail_if_success (with_reducible first | refine halt 0 (by constructor) ?_ | refine halt 28 (by constructor) ?_)); (first | (walk1; (try dsimp only)) | (dsimp only; walk1))) | ((with_reducible show _ ∧ wpAny _ _ _ _ _ _); (refine And.intro (by first | k_in | exact FnAt_fr (by k_asm) (by assumption) | exact FnAt.of (by k_asm) (by k_mem)) ?_)) | ((fail_if_success (with_reducible refine isWp ?_)); dsimp only)))
          rename News _ _ _ _ => N15
          have hpT := N15 p (List.mem_append_right _ (hmrs p hp2))
          rw [hp3] at hpT
          refine PyProof.Rows.item_tupleT (l := [.int ((List.map (·.1) (pairsOf size y u i)).getD (i - j) 0) tp, .int ((List.map (·.2) (pairsOf size y u i)).getD (i - j) 0) up]) (j := 0) ⟨_, hpT.1, rfl, 0, rfl⟩ (by decide) (by decide) rfl rfl ?_
          rw [pairsOf_fst]
          (try dsimp only)
          (repeat' (first | (k_unfold; (try dsimp only)) | ((with_reducible refine isWp ?_); (fail_if_success (with_reducible first | refine halt 0 (by constructor) ?_ | refine halt 28 (by constructor) ?_)); (first | (walk1; (try dsimp only)) | (dsimp only; walk1))) | ((with_reducible show _ ∧ wpAny _ _ _ _ _ _); (refine And.intro (by first | k_in | exact FnAt_fr (by k_asm) (by assumption) | exact FnAt.of (by k_asm) (by k_mem)) ?_)) | ((fail_if_success (with_reducible refine isWp ?_)); dsimp only)))
          rename Fr _ _ _ _ => F16
          rename News _ _ _ _ => N16
          refine hQr _ _ ?_
          refine ⟨_, _, _, _, rfl, F16, N16, hnI2, rfl, ?_, ?tt3, ?e3⟩
          case e3 => rw [← hval]; exact rfl
          intro y h1 h2 h3 h4; simp [h1, h2, h3, h4]
        · rw [if_neg (by simpa using hc)]
          have hval : TT + sumsAt (j + 1) * (termsOf size y u i).getD (i - j) 0 = totalAt size y u (termsOf size y u i) (i + 1) (j + 1) := by
            rw [totalAt, hTT, weightAt, if_neg hc, Nat.add_sub_add_right]
          obtain ⟨Wt, hWt⟩ : ∃ Wt, sumsAt (j + 1) = Wt := ⟨_, rfl⟩
          rename Fr _ _ _ _ => F12
          rw [hWt] at F12 hs6 hval
          obtain ⟨hs6a, hs6b⟩ := hs6
          (repeat' (first | (k_unfold; (try dsimp only)) | ((with_reducible refine isWp ?_); (fail_if_success (with_reducible first | refine halt 0 (by constructor) ?_ | refine halt 28 (by constructor) ?_)); (first | (walk1; (try dsimp only)) | (dsimp only; walk1))) | ((with_reducible show _ ∧ wpAny _ _ _ _ _ _); (refine And.intro (by first | k_in | exact FnAt_fr (by k_asm) (by assumption) | exact FnAt.of (by k_asm) (by k_mem)) ?_)) | ((fail_if_success (with_reducible refine isWp ?_)); dsimp only)))
          rename News _ _ _ _ => N12
          have hlDt := N12.isList (a := Dt) (items := (refsOf rs).toArray) (List.mem_append_right _ hmDt)
          rw [show (1 + (i : Int)) - ((j + 1 : Nat) : Int) = ((i - j : Nat) : Int) by omega]
          refine item_val (x := .ref p.1) hlDt (by omega) (small_sub hi2 hn) (by rw [Int.toNat_natCast, List.getElem?_toArray, refsOf, List.getElem?_map, hp1]; rfl) ?_
          (try dsimp only)
          (repeat' (first | (k_unfold; (try dsimp only)) | ((with_reducible refine isWp ?_); (fail_if_success (with_reducible first | refine halt 0 (by constructor) ?_ | refine halt 28 (by constructor) ?_)); (first | (walk1; (try dsimp only)) | (dsimp only; walk1))) | ((with_reducible show _ ∧ wpAny _ _ _ _ _ _); (refine And.intro (by first | k_in | exact FnAt_fr (by k_asm) (by assumption) | exact FnAt.of (by k_asm) (by k_mem)) ?_)) | ((fail_if_success (with_reducible refine isWp ?_)); dsimp only)))
          rename News _ _ _ _ => N13
          have hpT := N13 p (List.mem_append_right _ (hmrs p hp2))
          rw [hp3] at hpT
          refine PyProof.Rows.item_tupleT (l := [.int ((List.map (·.1) (pairsOf size y u i)).getD (i - j) 0) tp, .int ((List.map (·.2) (pairsOf size y u i)).getD (i - j) 0) up]) (j := 0) ⟨_, hpT.1, rfl, 0, rfl⟩ (by decide) (by decide) rfl rfl ?_
          rw [pairsOf_fst]
          (try dsimp only)
          (repeat' (first | (k_unfold; (try dsimp only)) | ((with_reducible refine isWp ?_); (fail_if_success (with_reducible first | refine halt 0 (by constructor) ?_ | refine halt 28 (by constructor) ?_)); (first | (walk1; (try dsimp only)) | (dsimp only; walk1))) | ((with_reducible show _ ∧ wpAny _ _ _ _ _ _); (refine And.intro (by first | k_in | exact FnAt_fr (by k_asm) (by assumption) | exact FnAt.of (by k_asm) (by k_mem)) ?_)) | ((fail_if_success (with_reducible refine isWp ?_)); dsimp only)))
          rename Fr _ _ _ _ => F14
          rename News _ _ _ _ => N14
          refine hQr _ _ ?_
          refine ⟨_, _, _, _, rfl, F14, N14, hnI2, rfl, ?_, ?tt, ?e3⟩
          case e3 => rw [← hval]; exact rfl
          intro y h1 h2 h3 h4; simp [h1, h2, h3, h4]
      · rintro m₂ news₂ h11 tk11 ⟨rfl, hm2, tt2, ht2⟩ F11 N11
        rw [show ((1 + (i : Int)) + 1 - 1).toNat = i + 1 by omega] at ht2
        rw [map4 hm2, ht2] at F11
        generalize m₂ (Str.ofString "j") = w1 at F11
        generalize m₂ (Str.ofString "weight") = w2 at F11
        generalize m₂ (Str.ofString "m") = w3 at F11
        clear hm2 ht2 m₂ F10 N10 R10
        subst hNL
        replace F11 : Fr g' L h11 _ := F11
        replace N11 : News g' L h11 _ := N11
        (try dsimp only at F11)
        dsimp only
        obtain ⟨hT1, hT2⟩ := hT i (by omega)
        have hpk : pairsOf size y u (i + 1) = pairsOf size y u i ++ [((totalAt size y u (termsOf size y u i) (i + 1) (i + 1)).fdiv (1 + (i : Int)), (totalAt size y u (termsOf size y u i) (i + 1) (i + 1)).fmod (1 + (i : Int)))] := by
          rw [pairsOf, show (i : Int) + 1 = 1 + (i : Int) by omega]
        obtain ⟨TT, hTT⟩ : ∃ TT, totalAt size y u (termsOf size y u i) (i + 1) (i + 1) = TT := ⟨_, rfl⟩
        rw [hTT] at F11 hT1 hT2 hpk
        (repeat' (first | (k_unfold; (try dsimp only)) | ((with_reducible refine isWp ?_); (fail_if_success (with_reducible first | refine halt 0 (by constructor) ?_ | refine halt 28 (by constructor) ?_)); (first | (walk1; (try dsimp only)) | (dsimp only; walk1))) | ((with_reducible show _ ∧ wpAny _ _ _ _ _ _); (refine And.intro (by first | k_in | exact FnAt_fr (by k_asm) (by assumption) | exact FnAt.of (by k_asm) (by k_mem)) ?_)) | ((fail_if_success (with_reducible refine isWp ?_)); dsimp only)))
        rename Fr _ _ _ _ => F12
        rename News _ _ _ _ => N12
        have hLz2 := F12.ns.lt
        have hIlt := Heap.lt_size (N12 _ (List.mem_append_left _ hoI)).1
        have hDtlt := Heap.lt_size (N12 (Dt, W.listOf (refsOf rs).toArray e) (by first | (with_reducible ((repeat (first | exact List.mem_cons_self | refine List.mem_cons_of_mem _ ?_ | (refine List.mem_append_left _ ?_; ((repeat (first | exact List.mem_cons_self | refine List.mem_cons_of_mem _ ?_ | assumption)); (first | done | fail "m"))) | refine List.mem_append_right _ ?_ | assumption)); (first | done | fail "m"))) | simp)).1
        dsimp only at hIlt hDtlt
        refine (intdivmod_ok w TT (1 + (i : Int)) tt2 tv hT1 hT2 (by omega) (by have h6 : n ≤ 6 := hn; omega)).use (tl := tlc) (news := own ++ ((Dt, W.listOf (refsOf rs).toArray e) :: (D, lst ys) :: rs)) hA (by show A.depth + 1 + _ < _; exact room2 ‹_› (by with_unfolding_all exact rfl)) (by show A.units + 3 + _ < _; exact room2 ‹_› (by with_unfolding_all exact rfl)) X1 T1 F12 (newsSub N12 ?_) hTc ?_ trivial ?_
        · intro p hp
          revert p; ((repeat (first | exact List.forall_mem_nil _ | (refine List.forall_mem_cons.mpr ⟨?_, ?_⟩; focus ((with_reducible ((repeat (first | exact List.mem_cons_self | refine List.mem_cons_of_mem _ ?_ | (refine List.mem_append_left _ ?_; ((repeat (first | exact List.mem_cons_self | refine List.mem_cons_of_mem _ ?_ | assumption)); (first | done | fail "m"))) | refine List.mem_append_right _ ?_ | assumption)); (first | done | fail "m"))))) | (refine List.forall_mem_append.mpr ⟨?_, ?_⟩; focus (intro p hp; (with_reducible ((repeat (first | exact List.mem_cons_self | refine List.mem_cons_of_mem _ ?_ | (refine List.mem_append_left _ ?_; ((repeat (first | exact List.mem_cons_self | refine List.mem_cons_of_mem _ ?_ | assumption)); (first | done | fail "m"))) | refine List.mem_append_right _ ?_ | assumption)); (first | done | fail "m"))))) | (refine List.forall_mem_append.mpr ⟨?_, ?_⟩; focus ((repeat (first | exact List.forall_mem_nil _ | (refine List.forall_mem_cons.mpr ⟨?_, ?_⟩; focus ((with_reducible ((repeat (first | exact List.mem_cons_self | refine List.mem_cons_of_mem _ ?_ | (refine List.mem_append_left _ ?_; ((repeat (first | exact List.mem_cons_self | refine List.mem_cons_of_mem _ ?_ | assumption)); (first | done | fail "m"))) | refine List.mem_append_right _ ?_ | assumption)); (first | done | fail "m"))))))); (first | done | fail "m"))) | (intro p hp; (with_reducible ((repeat (first | exact List.mem_cons_self | refine List.mem_cons_of_mem _ ?_ | (refine List.mem_append_left _ ?_; ((repeat (first | exact List.mem_cons_self | refine List.mem_cons_of_mem _ ?_ | assumption)); (first | done | fail "m"))) | refine List.mem_append_right _ ?_ | assumption)); (first | done | fail "m")))))); (first | done | fail "m"))
        · intro p hp q hq
          rcases List.mem_append.mp hp with h | h
          · rw [hown p h]; exact fun e => hnI q (List.mem_append_left _ hq) e.symm
          · exact hoff p h q hq
        rintro _ h13 tk13 tl3 F13 N13 hT3 hoff3 hk13 ha3 ⟨T, v1, v2, rfl, hzT, hTg⟩
        have hTn := fresh_news F12 hzT hTg
        have hTtl : T ∉ tl3.map (·.1) := Tabs.off hT3 (fun p hp => (N13 p (List.mem_append_left _ hp)).1) hTg rfl
        have hTI : T ≠ I := Nat.ne_of_gt (Nat.lt_of_lt_of_le hIlt hzT)
        have hTDt : T ≠ Dt := Nat.ne_of_gt (Nat.lt_of_lt_of_le hDtlt hzT)
        have hzz : s.heap.objs.size ≤ h11.objs.size := Nat.le_trans hLz (Nat.le_of_lt hLz2)
        clear F12 N12
        dsimp only
        (repeat' (first | (k_unfold; (try dsimp only)) | ((with_reducible refine isWp ?_); (fail_if_success (with_reducible first | refine halt 0 (by constructor) ?_ | refine halt 28 (by constructor) ?_)); (first | (walk1; (try dsimp only)) | (dsimp only; walk1))) | ((with_reducible show _ ∧ wpAny _ _ _ _ _ _); (refine And.intro (by first | k_in | exact FnAt_fr (by k_asm) (by assumption) | exact FnAt.of (by k_asm) (by k_mem)) ?_)) | ((fail_if_success (with_reducible refine isWp ?_)); dsimp only)))
        have N14 : News g' L h13 ((Dt, W.listOf (refsOf rs).toArray e) :: (T, { cls := .type "tuple", data := .seq #[.int (TT.fdiv (1 + (i : Int))) v1, .int (TT.fmod (1 + (i : Int))) v2] }) :: (own ++ ((D, lst ys) :: (rs ++ tl3)))) := fun p hp => by
          simp only [List.mem_cons, List.mem_append] at hp
          rcases hp with h | h | h | h | h | h
          · exact N13 p (by first | (with_reducible ((repeat (first | exact List.mem_cons_self | refine List.mem_cons_of_mem _ ?_ | (refine List.mem_append_left _ ?_; ((repeat (first | exact List.mem_cons_self | refine List.mem_cons_of_mem _ ?_ | assumption)); (first | done | fail "m"))) | refine List.mem_append_right _ ?_ | assumption)); (first | done | fail "m"))) | (rw [h]; (with_reducible ((repeat (first | exact List.mem_cons_self | refine List.mem_cons_of_mem _ ?_ | (refine List.mem_append_left _ ?_; ((repeat (first | exact List.mem_cons_self | refine List.mem_cons_of_mem _ ?_ | assumption)); (first | done | fail "m"))) | refine List.mem_append_right _ ?_ | assumption)); (first | done | fail "m")))) | simp [h])
          · rw [h]; exact hTn
          · exact N13 p (by first | (with_reducible ((repeat (first | exact List.mem_cons_self | refine List.mem_cons_of_mem _ ?_ | (refine List.mem_append_left _ ?_; ((repeat (first | exact List.mem_cons_self | refine List.mem_cons_of_mem _ ?_ | assumption)); (first | done | fail "m"))) | refine List.mem_append_right _ ?_ | assumption)); (first | done | fail "m"))) | (rw [h]; (with_reducible ((repeat (first | exact List.mem_cons_self | refine List.mem_cons_of_mem _ ?_ | (refine List.mem_append_left _ ?_; ((repeat (first | exact List.mem_cons_self | refine List.mem_cons_of_mem _ ?_ | assumption)); (first | done | fail "m"))) | refine List.mem_append_right _ ?_ | assumption)); (first | done | fail "m")))) | simp [h])
          · exact N13 p (by first | (with_reducible ((repeat (first | exact List.mem_cons_self | refine List.mem_cons_of_mem _ ?_ | (refine List.mem_append_left _ ?_; ((repeat (first | exact List.mem_cons_self | refine List.mem_cons_of_mem _ ?_ | assumption)); (first | done | fail "m"))) | refine List.mem_append_right _ ?_ | assumption)); (first | done | fail "m"))) | (rw [h]; (with_reducible ((repeat (first | exact List.mem_cons_self | refine List.mem_cons_of_mem _ ?_ | (refine List.mem_append_left _ ?_; ((repeat (first | exact List.mem_cons_self | refine List.mem_cons_of_mem _ ?_ | assumption)); (first | done | fail "m"))) | refine List.mem_append_right _ ?_ | assumption)); (first | done | fail "m")))) | simp [h])
          · exact N13 p (by first | (with_reducible ((repeat (first | exact List.mem_cons_self | refine List.mem_cons_of_mem _ ?_ | (refine List.mem_append_left _ ?_; ((repeat (first | exact List.mem_cons_self | refine List.mem_cons_of_mem _ ?_ | assumption)); (first | done | fail "m"))) | refine List.mem_append_right _ ?_ | assumption)); (first | done | fail "m"))) | (rw [h]; (with_reducible ((repeat (first | exact List.mem_cons_self | refine List.mem_cons_of_mem _ ?_ | (refine List.mem_append_left _ ?_; ((repeat (first | exact List.mem_cons_self | refine List.mem_cons_of_mem _ ?_ | assumption)); (first | done | fail "m"))) | refine List.mem_append_right _ ?_ | assumption)); (first | done | fail "m")))) | simp [h])
          · exact N13 p (by first | (with_reducible ((repeat (first | exact List.mem_cons_self | refine List.mem_cons_of_mem _ ?_ | (refine List.mem_append_left _ ?_; ((repeat (first | exact List.mem_cons_self | refine List.mem_cons_of_mem _ ?_ | assumption)); (first | done | fail "m"))) | refine List.mem_append_right _ ?_ | assumption)); (first | done | fail "m"))) | (rw [h]; (with_reducible ((repeat (first | exact List.mem_cons_self | refine List.mem_cons_of_mem _ ?_ | (refine List.mem_append_left _ ?_; ((repeat (first | exact List.mem_cons_self | refine List.mem_cons_of_mem _ ?_ | assumption)); (first | done | fail "m"))) | refine List.mem_append_right _ ?_ | assumption)); (first | done | fail "m")))) | simp [h])
        have hDtm : (Dt, W.listOf (refsOf rs).toArray e) ∈ own ++ ((Dt, W.listOf (refsOf rs).toArray e) :: (D, lst ys) :: rs) := by simp
        refine append_head F13 N14 ?_ ?_ (by rw [List.size_toArray, refsOf, List.length_map, hplen]; have h6 : n ≤ 6 := hn; unfold sizeLine; omega)
        · intro p hp
          simp only [List.mem_cons, List.mem_append] at hp
          rcases hp with h | h | h | h | h
          · rw [h]; exact hTDt
          · rw [hown p h]; exact fun e2 => hnI (Dt, W.listOf (refsOf rs).toArray e) (by first | (with_reducible ((repeat (first | exact List.mem_cons_self | refine List.mem_cons_of_mem _ ?_ | (refine List.mem_append_left _ ?_; ((repeat (first | exact List.mem_cons_self | refine List.mem_cons_of_mem _ ?_ | assumption)); (first | done | fail "m"))) | refine List.mem_append_right _ ?_ | assumption)); (first | done | fail "m"))) | simp) e2.symm
          · rw [h]; exact hDtn _ (.head _)
          · exact hDtn p (.tail _ h)
          · exact fun e => hoff3 _ hDtm p h e.symm
        intro h15 F15 N15
        (try dsimp only)
        (repeat' (first | (k_unfold; (try dsimp only)) | ((with_reducible refine isWp ?_); (fail_if_success (with_reducible first | refine halt 0 (by constructor) ?_ | refine halt 28 (by constructor) ?_)); (first | (walk1; (try dsimp only)) | (dsimp only; walk1))) | ((with_reducible show _ ∧ wpAny _ _ _ _ _ _); (refine And.intro (by first | k_in | exact FnAt_fr (by k_asm) (by assumption) | exact FnAt.of (by k_asm) (by k_mem)) ?_)) | ((fail_if_success (with_reducible refine isWp ?_)); dsimp only)))
        rw [show (refsOf rs).toArray.push (Value.ref T) = (refsOf (rs ++ [(T, { cls := .type "tuple", data := .seq #[.int (TT.fdiv (1 + (i : Int))) v1, .int (TT.fmod (1 + (i : Int))) v2] })])).toArray from refsOf_push rs (T, { cls := .type "tuple", data := .seq #[.int (TT.fdiv (1 + (i : Int))) v1, .int (TT.fmod (1 + (i : Int))) v2] })] at N15
        refine hQr _ _ ?_
        refine ⟨_, _, _, tl3 ++ ((Dt, W.listOf (refsOf (rs ++ [(T, { cls := .type "tuple", data := .seq #[.int (TT.fdiv (1 + (i : Int))) v1, .int (TT.fmod (1 + (i : Int))) v2] })])).toArray (e + 1)) :: (D, lst ys) :: (rs ++ [(T, { cls := .type "tuple", data := .seq #[.int (TT.fdiv (1 + (i : Int))) v1, .int (TT.fmod (1 + (i : Int))) v2] })])), rfl, F15, newsSub N15 ?_, ?_, _, e + 1, tl3, rfl, ?_, ?_, hT3, ?_, ?_, ?_, ?_⟩
        · intro p hp
          revert p; ((repeat (first | exact List.forall_mem_nil _ | (refine List.forall_mem_cons.mpr ⟨?_, ?_⟩; focus ((with_reducible ((repeat (first | exact List.mem_cons_self | refine List.mem_cons_of_mem _ ?_ | (refine List.mem_append_left _ ?_; ((repeat (first | exact List.mem_cons_self | refine List.mem_cons_of_mem _ ?_ | assumption)); (first | done | fail "m"))) | refine List.mem_append_right _ ?_ | assumption)); (first | done | fail "m"))))) | (refine List.forall_mem_append.mpr ⟨?_, ?_⟩; focus (intro p hp; (with_reducible ((repeat (first | exact List.mem_cons_self | refine List.mem_cons_of_mem _ ?_ | (refine List.mem_append_left _ ?_; ((repeat (first | exact List.mem_cons_self | refine List.mem_cons_of_mem _ ?_ | assumption)); (first | done | fail "m"))) | refine List.mem_append_right _ ?_ | assumption)); (first | done | fail "m"))))) | (refine List.forall_mem_append.mpr ⟨?_, ?_⟩; focus ((repeat (first | exact List.forall_mem_nil _ | (refine List.forall_mem_cons.mpr ⟨?_, ?_⟩; focus ((with_reducible ((repeat (first | exact List.mem_cons_self | refine List.mem_cons_of_mem _ ?_ | (refine List.mem_append_left _ ?_; ((repeat (first | exact List.mem_cons_self | refine List.mem_cons_of_mem _ ?_ | assumption)); (first | done | fail "m"))) | refine List.mem_append_right _ ?_ | assumption)); (first | done | fail "m"))))))); (first | done | fail "m"))) | (intro p hp; (with_reducible ((repeat (first | exact List.mem_cons_self | refine List.mem_cons_of_mem _ ?_ | (refine List.mem_append_left _ ?_; ((repeat (first | exact List.mem_cons_self | refine List.mem_cons_of_mem _ ?_ | assumption)); (first | done | fail "m"))) | refine List.mem_append_right _ ?_ | assumption)); (first | done | fail "m")))))); (first | done | fail "m"))
        · intro p hp
          simp only [List.mem_cons, List.mem_append, List.not_mem_nil, or_false] at hp
          rcases hp with h | h | h | h | h
          · intro e2
            exact hoff3 (I, oI) (List.mem_append_left _ hoI) p h e2.symm
          · rw [h]; exact hnI (Dt, W.listOf (refsOf rs).toArray e) (by first | (with_reducible ((repeat (first | exact List.mem_cons_self | refine List.mem_cons_of_mem _ ?_ | (refine List.mem_append_left _ ?_; ((repeat (first | exact List.mem_cons_self | refine List.mem_cons_of_mem _ ?_ | assumption)); (first | done | fail "m"))) | refine List.mem_append_right _ ?_ | assumption)); (first | done | fail "m"))) | simp)
          · rw [h]; exact hnI (D, lst ys) (by first | (with_reducible ((repeat (first | exact List.mem_cons_self | refine List.mem_cons_of_mem _ ?_ | (refine List.mem_append_left _ ?_; ((repeat (first | exact List.mem_cons_self | refine List.mem_cons_of_mem _ ?_ | assumption)); (first | done | fail "m"))) | refine List.mem_append_right _ ?_ | assumption)); (first | done | fail "m"))) | simp)
          · exact hnI p (by first | (with_reducible ((repeat (first | exact List.mem_cons_self | refine List.mem_cons_of_mem _ ?_ | (refine List.mem_append_left _ ?_; ((repeat (first | exact List.mem_cons_self | refine List.mem_cons_of_mem _ ?_ | assumption)); (first | done | fail "m"))) | refine List.mem_append_right _ ?_ | assumption)); (first | done | fail "m"))) | (rw [h]; (with_reducible ((repeat (first | exact List.mem_cons_self | refine List.mem_cons_of_mem _ ?_ | (refine List.mem_append_left _ ?_; ((repeat (first | exact List.mem_cons_self | refine List.mem_cons_of_mem _ ?_ | assumption)); (first | done | fail "m"))) | refine List.mem_append_right _ ?_ | assumption)); (first | done | fail "m")))) | simp [h])
          · rw [h]; exact hTI
        · intro y h1 h2 h3 h4 h5; simp [h1, h2, h3, h4, h5]
        · rw [hpk]; exact hprs.append (.cons .nil)
        · intro p hp
          simp only [List.mem_cons, List.mem_append, List.not_mem_nil, or_false] at hp
          rcases hp with h | h | h
          · rw [h]; exact hDtn _ (.head _)
          · exact hDtn p (.tail _ h)
          · rw [h]; exact hTDt
        · intro p hp q hq
          simp only [List.mem_cons, List.mem_append, List.not_mem_nil, or_false] at hp
          rcases hp with h | h | h | h
          · rw [h]; exact hoff3 (Dt, W.listOf (refsOf rs).toArray e) (by first | (with_reducible ((repeat (first | exact List.mem_cons_self | refine List.mem_cons_of_mem _ ?_ | (refine List.mem_append_left _ ?_; ((repeat (first | exact List.mem_cons_self | refine List.mem_cons_of_mem _ ?_ | assumption)); (first | done | fail "m"))) | refine List.mem_append_right _ ?_ | assumption)); (first | done | fail "m"))) | simp) q hq
          · rw [h]; exact hoff3 (D, lst ys) (by first | (with_reducible ((repeat (first | exact List.mem_cons_self | refine List.mem_cons_of_mem _ ?_ | (refine List.mem_append_left _ ?_; ((repeat (first | exact List.mem_cons_self | refine List.mem_cons_of_mem _ ?_ | assumption)); (first | done | fail "m"))) | refine List.mem_append_right _ ?_ | assumption)); (first | done | fail "m"))) | simp) q hq
          · exact hoff3 p (by first | (with_reducible ((repeat (first | exact List.mem_cons_self | refine List.mem_cons_of_mem _ ?_ | (refine List.mem_append_left _ ?_; ((repeat (first | exact List.mem_cons_self | refine List.mem_cons_of_mem _ ?_ | assumption)); (first | done | fail "m"))) | refine List.mem_append_right _ ?_ | assumption)); (first | done | fail "m"))) | (rw [h]; (with_reducible ((repeat (first | exact List.mem_cons_self | refine List.mem_cons_of_mem _ ?_ | (refine List.mem_append_left _ ?_; ((repeat (first | exact List.mem_cons_self | refine List.mem_cons_of_mem _ ?_ | assumption)); (first | done | fail "m"))) | refine List.mem_append_right _ ?_ | assumption)); (first | done | fail "m")))) | simp [h]) q hq
          · rw [h]; exact fun e2 => hTtl (List.mem_map.mpr ⟨q, hq, e2.symm⟩)
        · intro p hp
          rcases ha3 p hp with h | h
          · obtain ⟨q, hq, e⟩ := List.mem_map.mp h
            rw [← e]; exact htlc q hq
          · exact .inr (Nat.le_trans hzz h)
        · intro p hp
          rcases List.mem_append.mp hp with h | h
          · exact hrsz p h
          · rw [List.mem_singleton.mp h]; exact Nat.le_trans hzz hzT
    · rintro m₁ news₁ h tk ⟨rs, e, tlc, rfl, hm, hprs, hTc, hDtn, hoff, htlc, hrsz⟩ F9 N9
      rw [map5 hm] at F9
      generalize m₁ (Str.ofString "k") = u1 at F9
      generalize m₁ (Str.ofString "total") = u2 at F9
      generalize m₁ (Str.ofString "j") = u3 at F9
      generalize m₁ (Str.ofString "weight") = u4 at F9
      generalize m₁ (Str.ofString "m") = u5 at F9
      clear hm m₁ F8 N8 R8
      replace F9 : Fr g' L h _ := F9
      replace N9 : News g' L h _ := N9
      (try dsimp only at F9)
      dsimp only
      (repeat' (first | (k_unfold; (try dsimp only)) | ((with_reducible refine isWp ?_); (fail_if_success (with_reducible first | refine halt 0 (by constructor) ?_ | refine halt 28 (by constructor) ?_)); (first | (walk1; (try dsimp only)) | (dsimp only; walk1))) | ((with_reducible show _ ∧ wpAny _ _ _ _ _ _); (refine And.intro (by first | k_in | exact FnAt_fr (by k_asm) (by assumption) | exact FnAt.of (by k_asm) (by k_mem)) ?_)) | ((fail_if_success (with_reducible refine isWp ?_)); dsimp only)))
      rw [show ((n : Int) + 1 - 1).toNat = n by omega] at hprs
      refine hret _ _ _ tlc (fun b o hb e => F9.keep b o (hb1 b o hb e)) hTc (fun p hp => ⟨(N9 p (List.mem_append_left _ hp)).1, htlc p hp⟩) ⟨Dt, e, rs, rfl, Nat.le_trans hLz (Nat.le_of_lt hLDt), (N9 (Dt, W.listOf (refsOf rs).toArray e) (by simp)).1, hprs, fun p hp => ⟨hrsz p hp, (N9 p (by first | (with_reducible ((repeat (first | exact List.mem_cons_self | refine List.mem_cons_of_mem _ ?_ | (refine List.mem_append_left _ ?_; ((repeat (first | exact List.mem_cons_self | refine List.mem_cons_of_mem _ ?_ | assumption)); (first | done | fail "m"))) | refine List.mem_append_right _ ?_ | assumption)); (first | done | fail "m"))) | (rw [hp]; (with_reducible ((repeat (first | exact List.mem_cons_self | refine List.mem_cons_of_mem _ ?_ | (refine List.mem_append_left _ ?_; ((repeat (first | exact List.mem_cons_self | refine List.mem_cons_of_mem _ ?_ | assumption)); (first | done | fail "m"))) | refine List.mem_append_right _ ?_ | assumption)); (first | done | fail "m")))) | simp [hp])).1⟩⟩
end

noncomputable def tableH : Nat → List (List Int)
  | 4 => [[1, 2, 3, 4], [1, 2, 4, 1], [2, 3, 1, 2], [1, 4, 2, 1], [4, 3, 2, 1]]
  | 5 => [[1, 2, 3, 4, 5], [1, 2, 3, 5, 1], [1, 3, 4, 1, 2], [1, 2, 5, 2, 1], [2, 4, 1, 3, 1], [1, 5, 3, 2, 1], [5, 4, 3, 2, 1]]
  | _ => [[1, 2, 3, 4, 5, 6], [1, 2, 3, 4, 6, 1], [1, 2, 4, 5, 1, 2], [1, 2, 3, 6, 2, 1], [2, 3, 4, 1, 2, 3], [1, 3, 5, 1, 3, 1], [1, 2, 6, 3, 2, 1], [3, 4, 2, 3, 1, 2], [2, 5, 1, 4, 2, 1], [1, 6, 4, 3, 2, 1], [6, 5, 4, 3, 2, 1]]
/-- the two substitutions as single runs over a list -/
noncomputable def nlS : Bool → List Nat → List Nat
  | _, [] => []
  | b, c :: r => if c = 13 then 13 :: 10 :: nlS true r else if c = 10 then (if b then nlS false r else 13 :: 10 :: nlS false r) else c :: nlS false r
noncomputable def dotS : Bool → List Nat → List Nat
  | _, [] => []
  | b, c :: r => if (b && c == 46) = true then 46 :: 46 :: dotS false r else c :: dotS (c == 10) r
theorem drop_at {t : Array Nat} {d : Nat} (h : d < t.size) : t.toList.drop d = t.getD d 0 :: t.toList.drop (d + 1) := by
  rw [List.drop_eq_getElem_cons (by simpa using h)]
  congr 1
  simp [Array.getD_eq_getD_getElem?, Array.getElem?_eq_getElem h]
theorem drop_out {t : Array Nat} {d : Nat} (h : ¬d < t.size) : t.toList.drop d = [] := List.drop_eq_nil_of_le (by rw [Array.length_toList]; omega)
theorem nl_ok (t : Array Nat) : ∀ f d, t.size ≤ d + f → subOut t (hitB t) [13, 10] f d = nlS false (t.toList.drop d)
  | 0, d, h => by rw [drop_out (by omega)]; rfl
  | f + 1, d, h => by
    rw [subOut]
    by_cases hd : d < t.size
    · rw [if_pos hd, drop_at hd, nlS]
      by_cases h13 : t.getD d 0 = 13
      · rw [if_pos h13]
        by_cases hn : d + 1 < t.size ∧ t.getD (d + 1) 0 = 10
        · have e : hitB t d = some (d + 2) := by unfold hitB; rw [if_pos ⟨hd, h13⟩, if_pos hn]
          rw [e, drop_at hn.1, nlS, hn.2, if_neg (by decide), if_pos rfl, if_pos rfl]
          dsimp only
          rw [nl_ok t f (d + 2) (by omega)]
          rfl
        · have e : hitB t d = some (d + 1) := by unfold hitB; rw [if_pos ⟨hd, h13⟩, if_neg hn]
          rw [e]
          dsimp only
          rw [nl_ok t f (d + 1) (by omega)]
          show 13 :: 10 :: _ = 13 :: 10 :: _
          congr 2
          by_cases h1 : d + 1 < t.size
          · rw [drop_at h1, nlS, nlS, if_neg (fun x => hn ⟨h1, x⟩), if_neg (fun x => hn ⟨h1, x⟩)]; rfl
          · rw [drop_out h1]; rfl
      · rw [if_neg h13]
        by_cases h10 : t.getD d 0 = 10
        · have e : hitB t d = some (d + 1) := by unfold hitB; rw [if_neg (fun x => h13 x.2), if_pos ⟨hd, h10⟩]
          rw [e, if_pos h10, if_neg (by decide)]
          dsimp only
          rw [nl_ok t f (d + 1) (by omega)]
          rfl
        · have e : hitB t d = none := by unfold hitB; rw [if_neg (fun x => h13 x.2), if_neg (fun x => h10 x.2)]
          rw [e, if_neg h10]
          dsimp only
          rw [nl_ok t f (d + 1) (by omega)]
    · rw [if_neg hd, drop_out hd]; rfl
theorem dot_ok (t : Array Nat) : ∀ f d, t.size ≤ d + f → subOut t (hitA t) [46, 46] f d = dotS (d == 0 || t.getD (d - 1) 0 == 10) (t.toList.drop d)
  | 0, d, h => by rw [drop_out (by omega)]; rfl
  | f + 1, d, h => by
    rw [subOut]
    by_cases hd : d < t.size
    · rw [if_pos hd, drop_at hd, dotS]
      have ih := dot_ok t f (d + 1) (by omega)
      have e1 : (d + 1 == 0) = false := rfl
      rw [e1, Bool.false_or, Nat.add_sub_cancel] at ih
      by_cases hc : ((d == 0 || t.getD (d - 1) 0 == 10) && t.getD d 0 == 46) = true
      · have e : hitA t d = some (d + 1) := if_pos ⟨hd, hc⟩
        rw [e, if_pos hc]
        dsimp only
        rw [ih]
        have e46 : t.getD d 0 = 46 := by rw [Bool.and_eq_true] at hc; exact eq_of_beq hc.2
        rw [e46]
        rfl
      · have e : hitA t d = none := if_neg fun x => hc x.2
        rw [e, if_neg hc]
        dsimp only
        rw [ih]
    · rw [if_neg hd, drop_out hd]; rfl
theorem crlf_list (l : List Nat) : crlfOut l = nlS false l := by
  unfold crlfOut
  rw [nl_ok l.toArray (l.length + 1) 0 (by simp)]
  rfl
theorem dots_list (l : List Nat) : dotsOut l = dotS true l := by
  unfold dotsOut
  rw [dot_ok l.toArray (l.length + 1) 0 (by simp)]
  rfl
/-- n dots ahead of r; rows of dots, each ended -/
noncomputable def dotsN : Nat → List Nat → List Nat
  | 0, r => r
  | n + 1, r => 46 :: dotsN n r
noncomputable def ren : List Nat → List Nat
  | [] => []
  | n :: r => dotsN n (13 :: 10 :: ren r)
theorem dotsN_rep : ∀ n r, dotsN n r = List.replicate n 46 ++ r
  | 0, _ => rfl
  | n + 1, r => by rw [dotsN, dotsN_rep n r, List.replicate_succ, List.cons_append]
theorem ren_append : ∀ a b, ren (a ++ b) = ren a ++ ren b
  | [], _ => rfl
  | n :: a, b => by rw [List.cons_append, ren, ren, ren_append a b, dotsN_rep, dotsN_rep, List.append_assoc]; rfl
theorem nl_dots (b : Bool) : ∀ n r, nlS b (dotsN (n + 1) r) = dotsN (n + 1) (nlS false r)
  | 0, r => by show (if _ then _ else _) = _; rw [if_neg (by decide), if_neg (by decide)]; rfl
  | n + 1, r => by
    rw [dotsN, nlS, if_neg (by decide), if_neg (by decide), nl_dots false n r]
    rfl
theorem nl_dots0 : ∀ n r, nlS false (dotsN n r) = dotsN n (nlS false r)
  | 0, _ => rfl
  | n + 1, r => nl_dots false n r
theorem nl_ren : ∀ rows tail, nlS false (ren rows ++ tail) = ren rows ++ nlS false tail
  | [], _ => rfl
  | n :: rows, tail => by
    rw [ren, dotsN_rep, List.append_assoc, ← dotsN_rep, nl_dots0, dotsN_rep, List.append_assoc]
    congr 1
    show nlS false (13 :: 10 :: (ren rows ++ tail)) = 13 :: 10 :: (ren rows ++ nlS false tail)
    rw [nlS, if_pos rfl, nlS, if_neg (by decide), if_pos rfl, if_pos rfl, nl_ren rows tail]
theorem dot_dots0 : ∀ n r, dotS false (dotsN n (13 :: 10 :: r)) = dotsN n (13 :: 10 :: dotS true r)
  | 0, r => rfl
  | n + 1, r => by
    rw [dotsN, dotS, if_neg (by decide)]
    show 46 :: dotS false _ = _
    rw [dot_dots0 n r]
    rfl
theorem dot_dots (n : Nat) (r : List Nat) (h : 1 ≤ n) : dotS true (dotsN n (13 :: 10 :: r)) = dotsN (n + 1) (13 :: 10 :: dotS true r) := by
  obtain ⟨k, rfl⟩ : ∃ k, n = k + 1 := ⟨n - 1, by omega⟩
  rw [dotsN, dotS, if_pos (by decide), dot_dots0]
  rfl
theorem dot_ren : ∀ rows : List Nat, (∀ n ∈ rows, 1 ≤ n) → dotS true (ren rows) = ren (rows.map (· + 1))
  | [], _ => rfl
  | n :: rows, h => by
    rw [ren, dot_dots n _ (h n (.head _)), dot_ren rows fun k hk => h k (.tail _ hk)]
    rfl
def IsEnd (e : Str) : Prop := e.cps.toList = [10] ∨ e.cps.toList = [13] ∨ e.cps.toList = [13, 10]
theorem nl_end {e : Str} (h : IsEnd e) : nlS false e.cps.toList = [13, 10] := by
  rcases h with h | h | h <;> rw [h] <;> rfl
theorem ends_are : ∀ (ee k : Fin 3), IsEnd ((endsAll.drop ee.val).getD k.val Str.empty) := by unfold IsEnd; decide +kernel
theorem mul_dots : ∀ a : Fin 7, (Txt.mul (Str.ofString ".") (a.val : Int)).cps.toList = List.replicate a.val 46 := by decide +kernel
theorem str_of {x : Str} {l : List Nat} (h : x.cps.toList = l) : x = ⟨l.toArray⟩ := by subst h; rfl
/-- the lengths of the rows after k passes -/
noncomputable def rowsAt (ps : List Int) : Nat → List Nat
  | 0 => []
  | k + 1 => (rowsAt ps k).map (· + 1) ++ [(ps.getD k 0).toNat + 1]
theorem rowsAt_pos (ps : List Int) : ∀ k, ∀ n ∈ rowsAt ps k, 1 ≤ n
  | 0, n, h => by cases h
  | k + 1, n, h => by
    rw [rowsAt, List.mem_append, List.mem_map, List.mem_singleton] at h
    rcases h with ⟨_, _, rfl⟩ | rfl <;> omega
theorem pre_list (ps : List Int) (es : List Str) (mail : Str) (k : Nat) (rows : List Nat) (hm : mail.cps.toList = ren rows) (h0 : 0 < ps.getD k 0) (h6 : ps.getD k 0 ≤ 6) :
    (preAt ps es mail k).cps.toList = ren rows ++ (dotsN (ps.getD k 0).toNat (es.getD (k % 3) Str.empty).cps.toList) := by
  have e := mul_dots ⟨(ps.getD k 0).toNat, by omega⟩
  dsimp only at e
  rw [Int.toNat_of_nonneg (by omega)] at e
  unfold preAt
  rw [Str.cps_append, Array.toList_append, Str.cps_append, Array.toList_append, hm, e, dotsN_rep, List.append_assoc]
theorem q1_list (ps : List Int) (es : List Str) (mail : Str) (k : Nat) (rows : List Nat) (hm : mail.cps.toList = ren rows) (h0 : 0 < ps.getD k 0) (h6 : ps.getD k 0 ≤ 6) (he : IsEnd (es.getD (k % 3) Str.empty)) :
    (q1 (preAt ps es mail k)).cps.toList = ren (rows ++ [(ps.getD k 0).toNat]) := by
  show crlfOut _ = _
  rw [crlf_list, pre_list ps es mail k rows hm h0 h6, nl_ren, nl_dots0, nl_end he, ren_append]
  rfl
theorem mail_list (ps : List Int) (es : List Str) (m : Nat) (hp : ∀ k, k < m → 0 < ps.getD k 0 ∧ ps.getD k 0 ≤ 6) (he : ∀ k, IsEnd (es.getD (k % 3) Str.empty)) : ∀ k, k ≤ m → (mailAt ps es k).cps.toList = ren (rowsAt ps k)
  | 0, _ => rfl
  | k + 1, h => by
    have ih := mail_list ps es m hp he k (by omega)
    obtain ⟨h0, h6⟩ := hp k (by omega)
    show dotsOut _ = _
    rw [dots_list, q1_list ps es _ k _ ih h0 h6 (he k), dot_ren, rowsAt, List.map_append]
    · rfl
    · intro n hn
      rcases List.mem_append.mp hn with hn | hn
      · exact rowsAt_pos ps k n hn
      · rw [List.mem_singleton] at hn; omega
noncomputable def preB : List Nat → List Nat → Bool
  | [], _ => true
  | _ :: _, [] => false
  | a :: s, b :: t => Nat.beq a b && preB s t
noncomputable def infixB (sub : List Nat) : List Nat → Bool
  | [] => preB sub []
  | c :: r => preB sub (c :: r) || infixB sub r
theorem preB_ok : ∀ s t : List Nat, preB s t = true ↔ t.take s.length = s
  | [], t => by simp [preB]
  | a :: s, [] => by simp [preB]
  | a :: s, b :: t => by
    rw [preB, Bool.and_eq_true, preB_ok s t, Nat.beq_eq, List.length_cons, List.take_succ_cons, List.cons_eq_cons]
    constructor
    · rintro ⟨h, h2⟩; exact ⟨h.symm, h2⟩
    · rintro ⟨h, h2⟩; exact ⟨h.symm, h2⟩
theorem infixB_ok (sub : List Nat) : ∀ t : List Nat, infixB sub t = true ↔ ∃ i, i ≤ t.length ∧ preB sub (t.drop i) = true
  | [] => by
    constructor
    · intro h; exact ⟨0, Nat.le_refl _, h⟩
    · rintro ⟨i, _, h⟩; rw [List.drop_nil] at h; exact h
  | c :: r => by
    rw [infixB, Bool.or_eq_true, infixB_ok sub r]
    constructor
    · rintro (h | ⟨i, hi, h⟩)
      · exact ⟨0, Nat.zero_le _, h⟩
      · exact ⟨i + 1, Nat.succ_le_succ hi, h⟩
    · rintro ⟨i, hi, h⟩
      cases i with
      | zero => exact .inl h
      | succ i => exact .inr ⟨i, Nat.le_of_succ_le_succ hi, h⟩
theorem contains_list (x y : Str) : Txt.contains x y = infixB y.cps.toList x.cps.toList := by
  apply Bool.eq_iff_iff.mpr
  unfold Txt.contains
  rw [StrLaws.found_iff, infixB_ok]
  have key : ∀ i, i + y.length ≤ x.length → (Builtin.Str.subAt x y i = true ↔ preB y.cps.toList (x.cps.toList.drop i) = true) := fun i hi => by
    rw [preB_ok]
    unfold Builtin.Str.subAt
    rw [beq_iff_eq, ← Array.toList_inj, Array.toList_extract, Array.length_toList]
    unfold List.extract
    rw [Nat.add_sub_cancel_left]
    rfl
  constructor
  · rintro ⟨i, hi, h⟩
    exact ⟨i, by rw [Array.length_toList]; exact Nat.le_trans (Nat.le_add_right _ _) hi, (key i hi).mp h⟩
  · rintro ⟨i, hi, h⟩
    have hl := congrArg List.length ((preB_ok _ _).mp h)
    rw [List.length_take, List.length_drop, Array.length_toList, Array.length_toList] at hl
    have hi2 : i + y.length ≤ x.length := by
      rw [Array.length_toList] at hi
      show i + y.cps.size ≤ x.cps.size
      omega
    exact ⟨i, hi2, (key i hi2).mpr h⟩
noncomputable def osN : Nat → List Nat → List Nat
  | 0, r => r
  | n + 1, r => 111 :: osN n r
noncomputable def renO : List Nat → List Nat
  | [] => []
  | n :: r => osN n (13 :: 10 :: renO r)
theorem mid_list : ∀ m : Fin 7, (midOf m.val).cps.toList = 13 :: 10 :: osN m.val [13, 10] := by decide +kernel
noncomputable def hookL (page : List Nat) (len : Nat) : List Int := ((List.range (len - 1)).filter fun i => !infixB (13 :: 10 :: osN (len - 1 - i) [13, 10]) page).map fun (i : Nat) => 1 + (i : Int)
theorem hookRow_list (page row : Str) (h : row.length ≤ 7) : hookRow page row (row.length - 1) = hookL page.cps.toList row.length := by
  unfold hookRow hookL
  congr 1
  apply List.filter_congr
  intro i hi
  rw [contains_list, mid_list ⟨row.length - 1 - i, by omega⟩]
theorem hookRows_list (page : Str) : ∀ rows : List Str, (∀ row ∈ rows, row.length ≤ 7) → hookRows page rows = (rows.map Str.length).flatMap (hookL page.cps.toList)
  | [], _ => rfl
  | row :: rows, h => by
    have ih := hookRows_list page rows fun r hr => h r (.tail _ hr)
    unfold hookRows at ih ⊢
    rw [List.flatMap_cons, List.map_cons, List.flatMap_cons, ih, hookRow_list page row (h row (.head _))]
/-- what the page and the split give for the rows of one partition -/
def PageFacts (p : List Int) : Prop :=
  p.length ≤ 6 ∧ (∀ x ∈ p, 0 < x ∧ x ≤ 6) ∧ (∀ k, k < p.length + 1 → (ren (rowsAt p k)).length ≤ 150) ∧
  (Txt.replace ⟨(ren (rowsAt p p.length)).toArray⟩ (Str.ofString ".") (Str.ofString "o")).cps.toList = renO (rowsAt p p.length) ∧ (renO (rowsAt p p.length)).length ≤ 150 ∧
  (Txt.split ⟨(ren (rowsAt p p.length)).toArray⟩ (Str.ofString "\r\n")).dropLast.map Str.length = rowsAt p p.length ∧ (rowsAt p p.length).length ≤ 6 ∧ ∀ n ∈ rowsAt p p.length, n ≤ 7
theorem page_4 : ∀ p ∈ partsOf 7 4 4, PageFacts p := by unfold PageFacts; decide +kernel
theorem page_5 : ∀ p ∈ partsOf 7 5 5, PageFacts p := by unfold PageFacts; decide +kernel
theorem page_6 : ∀ p ∈ partsOf 7 6 6, PageFacts p := by unfold PageFacts; decide +kernel
noncomputable def hooksL (p : List Int) : List Int := (rowsAt p p.length).flatMap (hookL (13 :: 10 :: renO (rowsAt p p.length)))
theorem tab_4 : (partsOf 7 4 4).map hooksL = tableH 4 := by decide +kernel
theorem tab_5 : (partsOf 7 5 5).map hooksL = tableH 5 := by decide +kernel
theorem tab_6 : (partsOf 7 6 6).map hooksL = tableH 6 := by decide +kernel
theorem page_all (n : Nat) (h1 : 4 ≤ n) (h2 : n ≤ 6) : (partsOf 7 n n).map hooksL = tableH n ∧ ∀ p ∈ partsOf 7 n n, PageFacts p := by
  rcases (show n = 4 ∨ n = 5 ∨ n = 6 by omega) with rfl | rfl | rfl
  · exact ⟨tab_4, page_4⟩
  · exact ⟨tab_5, page_5⟩
  · exact ⟨tab_6, page_6⟩
theorem end_at (ee : Nat) (he : ee ≤ 2) (k : Nat) : IsEnd ((endsAll.drop ee).getD (k % 3) Str.empty) := ends_are ⟨ee, by omega⟩ ⟨k % 3, Nat.mod_lt _ (by decide)⟩
theorem parts_at {p : List Int} (h : ∀ x ∈ p, 0 < x ∧ x ≤ 6) (k : Nat) (hk : k < p.length) : 0 < p.getD k 0 ∧ p.getD k 0 ≤ 6 := by
  rw [List.getD_eq_getElem?_getD, List.getElem?_eq_getElem hk]
  exact h _ (List.getElem_mem hk)
theorem end_len {e : Str} (h : IsEnd e) : e.cps.toList.length ≤ 2 := by
  rcases h with h | h | h <;> rw [h] <;> decide
theorem mail_str {p : List Int} (F : PageFacts p) (ee : Nat) (he : ee ≤ 2) : mailAt p (endsAll.drop ee) p.length = ⟨(ren (rowsAt p p.length)).toArray⟩ :=
  str_of (mail_list p _ p.length (fun k hk => parts_at F.2.1 k hk) (fun k => end_at ee he k) p.length (Nat.le_refl _))
theorem rows_small {p : List Int} (F : PageFacts p) (ee : Nat) (he : ee ≤ 2) : ∀ row ∈ (Txt.split (mailAt p (endsAll.drop ee) p.length) (Str.ofString "\r\n")).dropLast, row.length ≤ 7 := by
  intro row hr
  obtain ⟨_, _, _, _, _, hs, _, h7⟩ := F
  rw [mail_str ⟨‹_›, ‹_›, ‹_›, ‹_›, ‹_›, hs, ‹_›, h7⟩ ee he] at hr
  refine h7 _ ?_
  rw [← hs]
  exact List.mem_map_of_mem hr
theorem hooksOf_list {p : List Int} (F : PageFacts p) (ee : Nat) (he : ee ≤ 2) : hooksOf (endsAll.drop ee) p = hooksL p := by
  unfold hooksOf hooksL
  rw [hookRows_list _ _ (rows_small F ee he), mail_str F ee he]
  obtain ⟨_, _, _, hr, _, hs, _, _⟩ := F
  rw [hs]
  congr 2
  unfold pageOf
  rw [Str.cps_append, Array.toList_append, hr]
  rfl
theorem tabs_all (n ee : Nat) (h1 : 4 ≤ n) (h2 : n ≤ 6) (he : ee ≤ 2) : (partsOf 7 n n).map (hooksOf (endsAll.drop ee)) = tableH n := by
  rw [← (page_all n h1 h2).1]
  exact List.map_congr_left fun p hp => hooksOf_list ((page_all n h1 h2).2 p hp) ee he
theorem table_small : ∀ n : Fin 3, ∀ hs ∈ tableH (n.val + 4), hs.length = n.val + 4 ∧ ∀ h ∈ hs, 1 ≤ h ∧ h ≤ ((n.val + 4 : Nat) : Int) := by decide +kernel
theorem kept_tab : ∀ (n size : Fin 3), ∀ hs ∈ tableH (n.val + 4), KeptFacts ((n.val + 4 : Nat) : Int) ((size.val : Int) + 1) hs := by unfold KeptFacts; decide +kernel
theorem in_table (n ee : Nat) (h1 : 4 ≤ n) (h2 : n ≤ 6) (he : ee ≤ 2) {p : List Int} (hp : p ∈ partsOf 7 n n) : hooksOf (endsAll.drop ee) p ∈ tableH n := by
  rw [← tabs_all n ee h1 h2 he]; exact List.mem_map_of_mem hp
theorem size_facts {p : List Int} (F : PageFacts p) (ee : Nat) (he : ee ≤ 2) :
    (∀ k, k < p.length → (preAt p (endsAll.drop ee) (mailAt p (endsAll.drop ee) k) k).cps.size ≤ 300 ∧ (q1 (preAt p (endsAll.drop ee) (mailAt p (endsAll.drop ee) k) k)).cps.size ≤ 300) ∧
    (∀ k, k ≤ p.length → (mailAt p (endsAll.drop ee) k).length ≤ 300) ∧
    (Txt.replace (mailAt p (endsAll.drop ee) p.length) (Str.ofString ".") (Str.ofString "o")).length ≤ 300 ∧
    (Txt.split (mailAt p (endsAll.drop ee) p.length) (Str.ofString "\r\n")).length ≤ 20 := by
  have hS := mail_str F ee he
  obtain ⟨hl, hb, hz, hr, hrz, hs, hsz, h7⟩ := F
  have hm : ∀ k, k ≤ p.length → _ := mail_list p _ p.length (fun k hk => parts_at hb k hk) (fun k => end_at ee he k)
  refine ⟨fun k hk => ?_, fun k hk => ?_, ?_, ?_⟩
  · obtain ⟨h0, h6⟩ := parts_at hb k hk
    have h1 := hz k (by omega)
    have h2 := end_len (end_at ee he k)
    have e1 := congrArg List.length (pre_list p (endsAll.drop ee) _ k _ (hm k (by omega)) h0 h6)
    have e2 := congrArg List.length (q1_list p (endsAll.drop ee) _ k _ (hm k (by omega)) h0 h6 (end_at ee he k))
    rw [Array.length_toList, dotsN_rep, List.length_append, List.length_append, List.length_replicate] at e1
    rw [Array.length_toList, ren_append, List.length_append, ren, dotsN_rep, List.length_append, List.length_replicate] at e2
    have e3 : (13 :: 10 :: ren []).length = 2 := rfl
    omega
  · have e := congrArg List.length (hm k hk)
    rw [Array.length_toList] at e
    have h1 := hz k (by omega)
    show (mailAt p (endsAll.drop ee) k).cps.size ≤ 300
    omega
  · rw [hS]
    have e := congrArg List.length hr
    rw [Array.length_toList] at e
    show (Txt.replace _ _ _).cps.size ≤ 300
    omega
  · rw [hS]
    have e := congrArg List.length hs
    rw [List.length_map, List.length_dropLast] at e
    omega
theorem hook_facts (n ee : Nat) (h1 : 4 ≤ n) (h2 : n ≤ 6) (he : ee ≤ 2) : ∀ p ∈ partsOf 7 n n, HookFacts (endsAll.drop ee) p n := by
  intro p hp
  have F := (page_all n h1 h2).2 p hp
  obtain ⟨c, d, e, f⟩ := size_facts F ee he
  have hm := in_table n ee h1 h2 he hp
  obtain ⟨k, rfl⟩ : ∃ k, n = k + 4 := ⟨n - 4, by omega⟩
  obtain ⟨x, z⟩ := table_small ⟨k, by omega⟩ _ hm
  exact ⟨F.1, F.2.1, c, d, e, ⟨f, rows_small F ee he⟩, x, z⟩
theorem kept_facts (n ee : Nat) (size : Int) (h1 : 4 ≤ n) (h2 : n ≤ 6) (he : ee ≤ 2) (hz1 : 1 ≤ size) (hz2 : size ≤ 3) : ∀ p ∈ partsOf 7 n n, KeptFacts n size (hooksOf (endsAll.drop ee) p) := by
  intro p hp
  have hm := in_table n ee h1 h2 he hp
  obtain ⟨k, rfl⟩ : ∃ k, n = k + 4 := ⟨n - 4, by omega⟩
  obtain ⟨z, rfl⟩ : ∃ z : Nat, size = (z : Int) + 1 := ⟨(size - 1).toNat, by omega⟩
  exact kept_tab ⟨k, by omega⟩ ⟨z, by omega⟩ _ hm
/-- polynomials in y, the lowest coefficient first -/
noncomputable def pev (y : Int) : List Int → Int
  | [] => 0
  | c :: p => c + y * pev y p
noncomputable def padd : List Int → List Int → List Int
  | [], q => q
  | a :: p, [] => a :: p
  | a :: p, b :: q => (a + b) :: padd p q
noncomputable def pscale (c : Int) : List Int → List Int
  | [] => []
  | a :: p => c * a :: pscale c p
noncomputable def pmul : List Int → List Int → List Int
  | [], _ => []
  | a :: p, q => if a = 0 then 0 :: pmul p q else padd (pscale a q) (0 :: pmul p q)
noncomputable def mono (c : Int) : Nat → List Int
  | 0 => [c]
  | m + 1 => 0 :: mono c m
theorem pev_padd (y : Int) : ∀ p q, pev y (padd p q) = pev y p + pev y q
  | [], q => by simp [padd, pev]
  | a :: p, [] => by simp [padd, pev]
  | a :: p, b :: q => by simp only [padd, pev, pev_padd y p q]; grind
theorem pev_pscale (y c : Int) : ∀ p, pev y (pscale c p) = c * pev y p
  | [] => by simp [pscale, pev]
  | a :: p => by simp only [pscale, pev, pev_pscale y c p]; grind
theorem pev_pmul (y : Int) : ∀ p q, pev y (pmul p q) = pev y p * pev y q
  | [], q => by simp [pmul, pev]
  | a :: p, q => by
    rw [pmul]
    by_cases h : a = 0
    · rw [if_pos h]; simp only [pev, pev_pmul y p q]; grind
    · rw [if_neg h]; simp only [pev, pev_padd, pev_pscale, pev_pmul y p q]; grind
theorem pev_mono (y c : Int) : ∀ m, pev y (mono c m) = c * y ^ m
  | 0 => by simp [mono, pev]
  | m + 1 => by simp only [mono, pev, pev_mono y c m]; rw [Int.pow_succ]; grind
noncomputable def weightP (size u : Int) (j : Nat) : List Int :=
  if (j : Int).fmod size = 0 then padd [sumsAt j - size * size * sumsAt ((j : Int).fdiv size).toNat] (mono (-(size * size * sumsAt ((j : Int).fdiv size).toNat * (u - 1))) ((j : Int).fdiv size).toNat) else [sumsAt j]
theorem weightP_ok (size y u : Int) (j : Nat) : pev y (weightP size u j) = weightAt size y u j := by
  unfold weightP weightAt
  split
  · rw [pev_padd, pev_mono]; simp only [pev]; grind
  · simp [pev]
noncomputable def totalP (size u : Int) (terms : List (List Int)) (k : Nat) : Nat → List Int
  | 0 => []
  | j + 1 => padd (totalP size u terms k j) (pmul (weightP size u (j + 1)) (terms.getD (k - (j + 1)) []))
theorem totalP_ok (size y u : Int) (terms : List (List Int)) (k : Nat) : ∀ j, pev y (totalP size u terms k j) = totalAt size y u (terms.map (pev y)) k j
  | 0 => rfl
  | j + 1 => by
    rw [totalP, totalAt, pev_padd, pev_pmul, weightP_ok, totalP_ok size y u terms k j]
    congr 2
    rw [List.getD_eq_getElem?_getD, List.getD_eq_getElem?_getD, List.getElem?_map]
    cases terms[k - (j + 1)]? <;> rfl
noncomputable def pdiv (k : Int) : List Int → List Int
  | [] => []
  | a :: p => a.fdiv k :: pdiv k p
noncomputable def pok (k : Int) : List Int → Bool
  | [] => true
  | a :: p => a.fmod k == 0 && pok k p
theorem pdiv_ok (y k : Int) : ∀ p, pok k p = true → pev y p = k * pev y (pdiv k p)
  | [], _ => by simp [pdiv, pev]
  | a :: p, h => by
    rw [pok, Bool.and_eq_true] at h
    have h1 := eq_of_beq h.1
    have h2 := pdiv_ok y k p h.2
    have h3 := Int.mul_fdiv_add_fmod a k
    rw [h1] at h3
    simp only [pdiv, pev, h2]
    grind
noncomputable def pbound : List Int → Nat
  | [] => 0
  | a :: p => a.natAbs + 20 * pbound p
theorem pbound_ok (y : Int) (hy : y.natAbs ≤ 20) : ∀ p, (pev y p).natAbs ≤ pbound p
  | [] => Nat.le_refl _
  | a :: p => by
    have h := pbound_ok y hy p
    rw [pev, pbound]
    refine Nat.le_trans (Int.natAbs_add_le _ _) (Nat.add_le_add_left ?_ _)
    rw [Int.natAbs_mul]
    exact Nat.mul_le_mul hy h
noncomputable def termsP (size u : Int) : Nat → List (List Int)
  | 0 => [[1]]
  | k + 1 => termsP size u k ++ [pdiv ((k : Int) + 1) (totalP size u (termsP size u k) (k + 1) (k + 1))]
noncomputable def stepP (size u : Int) (k : Nat) : Bool :=
  pok ((k : Int) + 1) (totalP size u (termsP size u k) (k + 1) (k + 1)) && Nat.blt (pbound (totalP size u (termsP size u k) (k + 1) (k + 1))) (2 ^ 200)
theorem termsP_ok (size y u : Int) : ∀ n, (∀ k, k < n → stepP size u k = true) → termsOf size y u n = (termsP size u n).map (pev y)
  | 0, _ => by simp [termsOf, termsP, pev]
  | k + 1, h => by
    have ih := termsP_ok size y u k fun i hi => h i (by omega)
    have hs := h k (by omega)
    rw [stepP, Bool.and_eq_true] at hs
    rw [termsOf, termsP, List.map_append, ih]
    congr 1
    rw [← totalP_ok, pdiv_ok y _ _ hs.1]
    show [_] = [_]
    rw [Int.mul_fdiv_cancel_left _ (by omega)]
noncomputable def toldP (full u : Int) (kept : List Int) : List Int := mono (full.fdiv (prodOf kept) * full.fdiv (prodOf kept) * prodOf (kept.map fun s => s * s - u)) kept.length
theorem prodOf_init : ∀ (l : List Int) (a : Int), l.foldl (· * ·) a = a * prodOf l
  | [], a => by simp [prodOf]
  | x :: l, a => by
    unfold prodOf
    rw [List.foldl_cons, List.foldl_cons, prodOf_init l, prodOf_init l (1 * x)]
    grind
theorem prodOf_scaled (y u : Int) : ∀ l : List Int, prodOf (l.map fun s => y * (s * s - u)) = y ^ l.length * prodOf (l.map fun s => s * s - u)
  | [] => by simp [prodOf]
  | x :: l => by
    have h := prodOf_scaled y u l
    show List.foldl _ _ _ = _ * List.foldl _ _ _
    rw [List.map_cons, List.map_cons, List.foldl_cons, List.foldl_cons, prodOf_init, prodOf_init _ (1 * _), h, List.length_cons, Int.pow_succ]
    grind
theorem toldP_ok (full y u : Int) (kept : List Int) : pev y (toldP full u kept) = toldOf full y u kept := by
  unfold toldP toldOf
  rw [pev_mono, prodOf_scaled]
  grind
noncomputable def psum : List (List Int) → List Int
  | [] => []
  | p :: r => padd p (psum r)
theorem psum_ok (y : Int) : ∀ l, pev y (psum l) = (l.map (pev y)).sum
  | [] => rfl
  | p :: r => by rw [psum, pev_padd, psum_ok y r, List.map_cons, List.sum_cons]
noncomputable def pzero : List Int → Bool
  | [] => true
  | a :: p => a == 0 && pzero p
theorem pzero_ok (y : Int) : ∀ p, pzero p = true → pev y p = 0
  | [], _ => rfl
  | a :: p, h => by
    rw [pzero, Bool.and_eq_true] at h
    rw [pev, eq_of_beq h.1, pzero_ok y p h.2]
    simp
/-- the whole check for one size and one u: no y -/
noncomputable def chkP (size u : Int) : Bool :=
  (List.range 6).all (stepP size u) &&
  [4, 5, 6].all fun n => pzero (padd (psum ((tableH n).map fun hs => toldP (fullOf n size) u (keptOf size hs))) (pscale (-(fullOf n size * fullOf n size)) ((termsP size u n).getD n [])))
theorem chk_1 : ∀ i : Fin 21, chkP 1 ((i.val : Int) - 10) = true := by decide +kernel
theorem chk_2 : ∀ i : Fin 21, chkP 2 ((i.val : Int) - 10) = true := by decide +kernel
theorem chk_3 : ∀ i : Fin 21, chkP 3 ((i.val : Int) - 10) = true := by decide +kernel
theorem chk_all (size u : Int) (hz1 : 1 ≤ size) (hz2 : size ≤ 3) (hu1 : -10 ≤ u) (hu2 : u ≤ 10) : chkP size u = true := by
  obtain ⟨j, rfl⟩ : ∃ j : Nat, u = (j : Int) - 10 := ⟨(u + 10).toNat, by omega⟩
  rcases (show size = 1 ∨ size = 2 ∨ size = 3 by omega) with rfl | rfl | rfl
  · exact chk_1 ⟨j, by omega⟩
  · exact chk_2 ⟨j, by omega⟩
  · exact chk_3 ⟨j, by omega⟩
/-- what the walk of law asks of the sums -/
theorem sum_facts (n : Nat) (size y u : Int) (h1 : 4 ≤ n) (h2 : n ≤ 6) (hz1 : 1 ≤ size) (hz2 : size ≤ 3) (hy1 : -20 ≤ y) (hy2 : y ≤ 20) (hu1 : -10 ≤ u) (hu2 : u ≤ 10) :
    (∀ k, k < n → -2 ^ 200 ≤ totalAt size y u (termsOf size y u k) (k + 1) (k + 1) ∧ totalAt size y u (termsOf size y u k) (k + 1) (k + 1) < 2 ^ 200) ∧
    (∀ k, k < n → (totalAt size y u (termsOf size y u k) (k + 1) (k + 1)).fmod ((k : Int) + 1) = 0) ∧
    ((tableH n).map fun hs => toldOf (fullOf n size) y u (keptOf size hs)).sum = fullOf n size * fullOf n size * (termsOf size y u n).getD n 0 := by
  have h := chk_all size u hz1 hz2 hu1 hu2
  unfold chkP at h
  rw [Bool.and_eq_true, List.all_eq_true, List.all_eq_true] at h
  obtain ⟨ha, hb⟩ := h
  have hk : ∀ k, k < 6 → stepP size u k = true := fun k hk => ha k (List.mem_range.mpr hk)
  have ht : ∀ k, k ≤ 6 → termsOf size y u k = (termsP size u k).map (pev y) := fun k hk6 => termsP_ok size y u k fun i hi => hk i (by omega)
  have hT : ∀ k, k < 6 → totalAt size y u (termsOf size y u k) (k + 1) (k + 1) = pev y (totalP size u (termsP size u k) (k + 1) (k + 1)) := fun k hk6 => by
    rw [totalP_ok, ht k (by omega)]
  refine ⟨fun k hkn => ?_, fun k hkn => ?_, ?_⟩
  · have hs := hk k (by omega)
    rw [stepP, Bool.and_eq_true] at hs
    have hb := Nat.lt_of_lt_of_eq (Nat.lt_of_le_of_lt (pbound_ok y (by omega) (totalP size u (termsP size u k) (k + 1) (k + 1))) (Nat.le_of_ble_eq_true hs.2)) rfl
    rw [hT k (by omega)]
    generalize pev y (totalP size u (termsP size u k) (k + 1) (k + 1)) = z at hb ⊢
    omega
  · have hs := hk k (by omega)
    rw [stepP, Bool.and_eq_true] at hs
    rw [hT k (by omega), pdiv_ok y _ _ hs.1, Int.mul_fmod_right]
  · have hn : n ∈ [4, 5, 6] := by
      rcases (show n = 4 ∨ n = 5 ∨ n = 6 by omega) with rfl | rfl | rfl <;> decide
    have e := pzero_ok y _ (hb n hn)
    rw [pev_padd, psum_ok, pev_pscale, List.map_map] at e
    have e2 : pev y ((termsP size u n).getD n []) = (termsOf size y u n).getD n 0 := by
      rw [ht n h2, List.getD_eq_getElem?_getD, List.getD_eq_getElem?_getD, List.getElem?_map]
      cases (termsP size u n)[n]? <;> rfl
    have e3 : (pev y ∘ fun hs => toldP (fullOf n size) u (keptOf size hs)) = fun hs => toldOf (fullOf n size) y u (keptOf size hs) := by
      funext hs; exact toldP_ok _ _ _ _
    rw [e3, e2] at e
    grind
theorem term_facts (n ee : Nat) (size y u : Int) (h1 : 4 ≤ n) (h2 : n ≤ 6) (he : ee ≤ 2) (hz1 : 1 ≤ size) (hz2 : size ≤ 3) (hy1 : -20 ≤ y) (hy2 : y ≤ 20) (hu1 : -10 ≤ u) (hu2 : u ≤ 10) :
    (∀ k, k < n → -2 ^ 200 ≤ totalAt size y u (termsOf size y u k) (k + 1) (k + 1) ∧ totalAt size y u (termsOf size y u k) (k + 1) (k + 1) < 2 ^ 200) ∧
    (∀ k, k < n → (totalAt size y u (termsOf size y u k) (k + 1) (k + 1)).fmod ((k : Int) + 1) = 0) ∧
    (toldsOf (endsAll.drop ee) n size y u).sum = fullOf n size * fullOf n size * (termsOf size y u n).getD n 0 := by
  obtain ⟨a, b, e⟩ := sum_facts n size y u h1 h2 hz1 hz2 hy1 hy2 hu1 hu2
  refine ⟨a, b, ?_⟩
  rw [← e, ← tabs_all n ee h1 h2 he, List.map_map]
  rfl

theorem Tabs.grown {tl : List (Addr × Obj)} {h : Heap} (hT : Tabs tl) (hN : ∀ p ∈ tl, h.get? p.1 = some p.2) : GrownAll [(65, 61), (58, 54)] h := by
  obtain ⟨t1, t2, cs, rfl, _, h1, h2⟩ := hT
  have key : ∀ {line col : Int} {qual : Str} {t : Obj}, TabL line col qual t cs → ∃ ps, t = tabObj ps := by
    rintro line col qual t (rfl | ⟨c', oc, vs, tk, rfl, _⟩)
    · exact ⟨_, rfl⟩
    · exact ⟨_, rfl⟩
  obtain ⟨p1, rfl⟩ := key h1
  obtain ⟨p2, rfl⟩ := key h2
  exact ⟨⟨p2, hN _ (.tail _ (.head _))⟩, ⟨p1, hN _ (.head _)⟩, trivial⟩
theorem strs_drop : ∀ {vs : List Value} {es : List Str}, StrsAre vs es → ∀ k, StrsAre (vs.drop k) (es.drop k)
  | _, _, h, 0 => h
  | _, _, .nil, k + 1 => .nil
  | _, _, .cons y t h, k + 1 => strs_drop h k
theorem refs_at {rs : List (Addr × Obj)} {i : Nat} {v : Value} (h : (refsOf rs).toArray[i]? = some v) : ∃ p, rs[i]? = some p ∧ v = .ref p.1 := by
  rw [List.getElem?_toArray] at h
  unfold refsOf at h
  rw [List.getElem?_map] at h
  cases e : rs[i]? with
  | none => rw [e] at h; cases h
  | some p => rw [e] at h; exact ⟨p, rfl, (Option.some.inj h).symm⟩
theorem max_ints {prog : Program} {w : World} {A : Around} {E : Value → Shared → Prop} {s : Shared} {l : Addr} {vs : List Value} {ns : List Int} {Q : Value → Shared → Prop} (hh : A.handled = none) (hl : s.heap.IsList l vs.toArray) (hi : IntsAre vs ns) (hne : 0 < ns.length)
    (h : ∀ M h' tk t', M ∈ ns → (∀ b o, s.heap.get? b = some o → h'.get? b = some o) → Q (.int M t') { s with heap := h', toks := tk }) : wpAny (model prog w) A (call (.builtin "max") [.ref l]) Q E s := by
  obtain ⟨xs, hxs⟩ := hi.allInts.items
  have hsz : 0 < xs.size := by
    have : vs.toArray.size = xs.size := by rw [hxs]; simp [intItems]
    rw [← this, List.size_toArray, hi.length]; exact hne
  rw [hxs] at hl
  refine max_intList hh hl hsz fun v h' tk hv hk => ?_
  rw [← hxs, List.getElem?_toArray] at hv
  obtain ⟨a, t, rfl, ha⟩ := hi.at _ v hv
  exact h a h' tk t (List.mem_of_getElem? ha) hk
theorem kept_take (size : Int) (hk : List Int) (i : Nat) : (keptOf size (hk.take i)).length ≤ (keptOf size hk).length := by
  conv => rhs; rw [← List.take_append_drop i hk]
  unfold keptOf
  rw [List.flatMap_append, List.length_append]; omega
theorem kept_succ (size : Int) (hk : List Int) (i : Nat) (x : Int) (h : hk[i]? = some x) : keptOf size (hk.take (i + 1)) = keptOf size (hk.take i) ++ shareOf size x := by
  unfold keptOf
  rw [List.take_add_one, h, List.flatMap_append]; simp
theorem getD_zero {l : List Int} (h : ∀ x ∈ l, x = 0) (i : Nat) : l.getD i 0 = 0 := by
  rw [List.getD_eq_getElem?_getD]
  cases e : l[i]? with
  | none => rfl
  | some a => exact h a (List.mem_of_getElem? e)
theorem pairs_over (size y u : Int) : ∀ n, (∀ k, k < n → (totalAt size y u (termsOf size y u k) (k + 1) (k + 1)).fmod ((k : Int) + 1) = 0) → ∀ x ∈ (pairsOf size y u n).map (·.2), x = 0
  | 0, _, x, hx => by rw [List.mem_singleton.mp hx]
  | n + 1, h, x, hx => by
    rw [pairsOf, List.map_append] at hx
    rcases List.mem_append.mp hx with hx | hx
    · exact pairs_over size y u n (fun k hk => h k (by omega)) x hx
    · rw [List.mem_singleton.mp hx]; exact h n (by omega)
/-- what the body of law must end in -/
def LawEnd (g : Heap) (s : Shared) (f : Flow) (s' : Shared) : Prop :=
  f = .ret (.bool true) ∧ ∃ h' tk tl, s' = { s with heap := h', toks := tk } ∧ (∀ b o, g.get? b = some o → h'.get? b = some o) ∧ Tabs tl ∧ ∀ p ∈ tl, h'.get? p.1 = some p.2
theorem pick_ints {vs : List Value} {ns : List Int} (hI : IntsAre vs ns) (lo hi st : Option Int) : ∃ ws ms, slicePick vs.toArray lo hi st = ws.toArray ∧ IntsAre ws ms := by
  refine ⟨_, _, rfl, intsAre_ofList _ fun v hv => ?_⟩
  obtain ⟨j, _, hj⟩ := List.mem_filterMap.mp hv
  have hm : v ∈ vs := by
    obtain ⟨hlt, e⟩ := Array.getElem?_eq_some_iff.mp hj
    rw [← e]; simp
  obtain ⟨k, hk, e⟩ := List.getElem_of_mem hm
  obtain ⟨a, t, e2, _⟩ := hI.at k v (by rw [List.getElem?_eq_getElem hk, e])
  exact ⟨a, t, e2⟩
theorem slice5 : ∀ e : Fin 3, sliceBounds (some ((e.val : Nat) : Int)) none none 5 = (((e.val : Nat) : Int), ((5 : Nat) : Int), 1) := by decide
theorem cells_ne {L : Nat} (h : 61 < L) : (Apart (L + 1 + 1) (L + 1) ∧ Apart (L + 1 + 1 + 1 + 1 + 1) (L + 1 + 1) ∧ Apart (L + 1 + 1 + 1 + 1 + 1) (L + 1 + 1 + 1) ∧ Apart (L + 1 + 1 + 1 + 1 + 1) (L + 1 + 1 + 1 + 1)) ∧
    (Apart 54 (L + 1 + 1) ∧ Apart 54 (L + 1 + 1 + 1) ∧ Apart 54 (L + 1 + 1 + 1 + 1) ∧ Apart 54 (L + 1 + 1 + 1 + 1 + 1)) ∧ (Apart 61 (L + 1 + 1) ∧ Apart 61 (L + 1 + 1 + 1) ∧ Apart 61 (L + 1 + 1 + 1 + 1) ∧ Apart 61 (L + 1 + 1 + 1 + 1 + 1)) := by
  have h2 : 54 < L := Nat.lt_trans (by decide) h
  refine ⟨⟨?_, ?_, ?_, ?_⟩, ⟨?_, ?_, ?_, ?_⟩, ?_, ?_, ?_, ?_⟩ <;> (show (_ : Nat) ≠ _; (with_reducible first | assumption | exact Ne.symm (by assumption) | exact Apart.l (by assumption) | exact Apart.r (by assumption) | (refine Nat.ne_of_lt ?_; ((repeat (first | assumption | exact Nat.lt_add_one _ | exact Nat.lt_of_succ_lt (by assumption) | refine Nat.lt_add_one_of_lt ?_)); (first | done | fail "m"))) | (refine Nat.ne_of_gt ?_; ((repeat (first | assumption | exact Nat.lt_add_one _ | exact Nat.lt_of_succ_lt (by assumption) | refine Nat.lt_add_one_of_lt ?_)); (first | done | fail "m")))))
section
open LCg
set_option maxHeartbeats 8000000 in
theorem law_holds : PySem.Challenge.rw_sh0054_01.Holds := hd (by
  k_go0
  (all_goals try k_fold)
  rename Shared => s₁
  rename s₁.gens = #[] => hg0
  rename IntsAre _ _ => hI
  rename Fr _ _ _ _ => F
  rename News _ _ _ _ => N
  rename Top topProg _ _ _ _ _ => T1
  rename Frag.In _ _ => X1
  refine wpAny_mono (Q := LawEnd (ghostOf s₁.heap [(65, 61), (58, 54)]) s₁) (E := fun _ _ => False) ?_ ?_ (fun _ _ h => h.elim)
  rotate_left
  · rintro f s' ⟨rfl, h', tk, tl, rfl, hk, hT, hN⟩
    refine ⟨⟨.inl ⟨.bool true, .bool true, [], rfl, raisesW_false ?_, .bool true, ?_, unshared_nil⟩, hk, rfl, hg0⟩, hT.grown hN⟩
    · wrow_none_raised
    · wrow_post
  rename World => w
  rename_i o5 o4 o3 o2 o1 d5 d4 d3 d2 d1 X0 Y0 K0 l0
  clear K0 Y0 X0
  have hl0 := lifted
  clear lifted codeHd
  replace d5 : o5.data = .cell none := d5
  replace d4 : o4.data = .cell none := d4
  replace d3 : o3.data = .cell none := d3
  replace d2 : o2.data = .cell none := d2
  obtain ⟨sc, hsc⟩ : ∃ sc, o1.data = .cell (some (.ref sc)) ∧ (ghostOf s₁.heap [(65, 61), (58, 54)]).IsList sc _ := ⟨_, d1, hl0⟩
  obtain ⟨hsc, hl0⟩ := hsc
  clear d1
  generalize ghostOf s₁.heap [(65, 61), (58, 54)] = g at X1 T1 F N hl0 ⊢
  generalize s₁.heap.objs.size = L at F N l0 ⊢
  (try dsimp only at F)
  (try dsimp only)
  obtain ⟨l61, l54⟩ := l0
  obtain ⟨vs, ns, hI, hns, hl0⟩ : ∃ (vs : List Value) (ns : List Int), IntsAre vs ns ∧ ns.length ≤ 63 ∧ g.IsList sc vs.toArray := ⟨_, _, hI, by omega, hl0⟩
  replace F : Fr g L _ (fun _ => none) := F
  obtain ⟨⟨n21, n52, n53, n54⟩, ⟨m2, m3, m4, m5⟩, k2, k3, k4, k5⟩ := cells_ne (L := L) l61
  (repeat' (first | ((with_reducible refine tokN ?_); intro _) | (k_unfold; (try dsimp only)) | ((with_reducible refine isWp ?_); (fail_if_success (with_reducible first | refine halt 0 (by constructor) ?_ | refine halt 30 (by constructor) ?_)); (first | (walk1; (try dsimp only)) | (dsimp only; walk1))) | ((with_reducible show _ ∧ wpAny _ _ _ _ _ _); (refine And.intro (by first | k_in | exact FnAt_fr (by k_asm) (by assumption) | exact FnAt.of (by k_asm) (by k_mem)) ?_)) | ((fail_if_success (with_reducible refine isWp ?_)); dsimp only)))
  refine LCg.Assign_ListComp_U F rfl (by with_unfolding_all rfl) (by with_unfolding_all rfl) (by decide) (by rfl) (by decide) (by rfl) (by rfl) (by rfl) ?_ (by intro _; with_unfolding_all rfl)
  (repeat' (first | ((with_reducible refine tokN ?_); intro _) | (k_unfold; (try dsimp only)) | ((with_reducible refine isWp ?_); (fail_if_success (with_reducible first | refine halt 0 (by constructor) ?_ | refine halt 30 (by constructor) ?_)); (first | (walk1; (try dsimp only)) | (dsimp only; walk1))) | ((with_reducible show _ ∧ wpAny _ _ _ _ _ _); (refine And.intro (by first | k_in | exact FnAt_fr (by k_asm) (by assumption) | exact FnAt.of (by k_asm) (by k_mem)) ?_)) | ((fail_if_success (with_reducible refine isWp ?_)); dsimp only)))
  rename Fr _ _ _ _ => F1
  rename News _ _ _ _ => N1
  rename IsRange _ _ _ _ _ _ _ _ => R1
  refine LCg.CompSrc.range rfl F1 N1 R1 (by decide) (n := 5) (by decide) (by unfold sizeLine; omega) ?_
  intro g2
  refine CompRest.inv (fun i ys news => news = _ ∧ ys.length = i ∧ ∃ ms, IntsAre ys ms) ?_ ?_ _ 0 [] _ (Nat.zero_add _) ⟨rfl, rfl, [], .nil⟩
  · rintro i ys news v I oI C oC D m2 h2 tk2 E2 hi ⟨rfl, hyl, ms, hms⟩ ⟨tv, rfl⟩ hC hx F2 N2 off ne
    refine cutQ fun Qr hQr => ?_
    (repeat' (first | ((with_reducible refine tokN ?_); intro _) | (k_unfold; (try dsimp only)) | ((with_reducible refine isWp ?_); (fail_if_success (with_reducible first | refine halt 0 (by constructor) ?_ | refine halt 30 (by constructor) ?_)); (first | (walk1; (try dsimp only)) | (dsimp only; walk1))) | ((with_reducible show _ ∧ wpAny _ _ _ _ _ _); (refine And.intro (by first | k_in | exact FnAt_fr (by k_asm) (by assumption) | exact FnAt.of (by k_asm) (by k_mem)) ?_)) | ((fail_if_success (with_reducible refine isWp ?_)); dsimp only)))
    refine LCg.ListComp_U F2 (by with_unfolding_all rfl) (by decide) (by rfl) (by decide) (by rfl) ?_ (by intro _; with_unfolding_all rfl)
    (repeat' (first | ((with_reducible refine tokN ?_); intro _) | (k_unfold; (try dsimp only)) | ((with_reducible refine isWp ?_); (fail_if_success (with_reducible first | refine halt 0 (by constructor) ?_ | refine halt 30 (by constructor) ?_)); (first | (walk1; (try dsimp only)) | (dsimp only; walk1))) | ((with_reducible show _ ∧ wpAny _ _ _ _ _ _); (refine And.intro (by first | k_in | exact FnAt_fr (by k_asm) (by assumption) | exact FnAt.of (by k_asm) (by k_mem)) ?_)) | ((fail_if_success (with_reducible refine isWp ?_)); dsimp only)))
    refine' slice_list3 (s := ⟨h2, _, _, _, _⟩) (lo := some (0 + (i : Int))) (hi := some 20) (st := some 5) ?zF ?zN ?zl (IsPart.int _ _) (IsPart.int _ _) (IsPart.int _ _) (by decide) ?_ ?zs ?zt ?zz
    case zF => exact F2
    case zN => exact N2
    case zl => exact hl0.at fun o e => F2.keep sc o e
    case zs => with_unfolding_all rfl
    case zt => intro _; with_unfolding_all rfl
    case zz => rw [List.size_toArray, hI.length]; unfold sizeLine; omega
    intro h3 F3 N3
    obtain ⟨ws, wn, hws, hwn⟩ := pick_ints hI (some (0 + (i : Int))) (some 20) (some 5)
    have hwl : ws.length ≤ 63 := by
      have := slicePick_size_le vs.toArray (some (0 + (i : Int))) (some 20) (some 5)
      rw [hws, List.size_toArray, List.size_toArray, hI.length] at this
      omega
    rw [hws] at N3
    refine LCg.CompSrc.ledger rfl F3 N3 (.head _) (by rw [List.size_toArray]; unfold sizeLine; omega) ?_
    intro g4
    refine CompRest.inv (fun j ys2 news2 => news2 = _ ∧ ∃ ms2, IntsAre ys2 ms2) ?_ ?_ _ 0 [] _ (Nat.zero_add _) ⟨rfl, [], .nil⟩
    · rintro j ys2 news2 v I2 oI2 C2 oC2 D2 m3 h5 tk5 E5 hj ⟨rfl, ms2, hms2⟩ hv hC2 hx2 F5 N5 off5 ne5
      refine cutQ fun Qr hQr => ?_
      rw [List.getElem?_toArray] at hv
      obtain ⟨a, ta, rfl, _⟩ := hwn.at j v hv
      (repeat' (first | ((with_reducible refine tokN ?_); intro _) | (k_unfold; (try dsimp only)) | ((with_reducible refine isWp ?_); (fail_if_success (with_reducible first | refine halt 0 (by constructor) ?_ | refine halt 30 (by constructor) ?_)); (first | (walk1; (try dsimp only)) | (dsimp only; walk1))) | ((with_reducible show _ ∧ wpAny _ _ _ _ _ _); (refine And.intro (by first | k_in | exact FnAt_fr (by k_asm) (by assumption) | exact FnAt.of (by k_asm) (by k_mem)) ?_)) | ((fail_if_success (with_reducible refine isWp ?_)); dsimp only)))
      rename Fr _ _ _ _ => F6
      rename News _ _ _ _ => N6
      refine hQr _ _ ?_
      exact LCg.CompEnd.intro F6 N6 _ (fun p hp => hp) off5 (.inr ⟨_, .head _, rfl, _, rfl⟩) ⟨rfl, _, hms2.append (.cons _ _ .nil)⟩
    · rintro ys2 news2 ⟨rfl, ms2, hms2⟩
      intro D4 h5 tk5 F5 N5 o5'
      dsimp only
      (repeat' (first | ((with_reducible refine tokN ?_); intro _) | (k_unfold; (try dsimp only)) | ((with_reducible refine isWp ?_); (fail_if_success (with_reducible first | refine halt 0 (by constructor) ?_ | refine halt 30 (by constructor) ?_)); (first | (walk1; (try dsimp only)) | (dsimp only; walk1))) | ((with_reducible show _ ∧ wpAny _ _ _ _ _ _); (refine And.intro (by first | k_in | exact FnAt_fr (by k_asm) (by assumption) | exact FnAt.of (by k_asm) (by k_mem)) ?_)) | ((fail_if_success (with_reducible refine isWp ?_)); dsimp only)))
      rename Fr _ _ _ _ => F6
      rename News _ _ _ _ => N6
      refine hQr _ _ ?_
      refine LCg.CompEnd.intro F6 N6 _ (fun p hp => .tail _ (.tail _ hp)) off trivial ⟨rfl, ?_, _, hms.append (.cons _ _ .nil)⟩
      rw [List.length_append, hyl]; rfl
  · rintro ys news ⟨rfl, hyl, ms, hms⟩
    intro Dd h3 tk3 F3 N3 o3'
    clear F1 N1 R1
    have hml : ms.length = 5 := by rw [← hms.length, hyl]
    dsimp only
    (repeat' (first | ((with_reducible refine tokN ?_); intro _) | (k_unfold; (try dsimp only)) | ((with_reducible refine isWp ?_); (fail_if_success (with_reducible first | refine halt 0 (by constructor) ?_ | refine halt 30 (by constructor) ?_)); (first | (walk1; (try dsimp only)) | (dsimp only; walk1))) | ((with_reducible show _ ∧ wpAny _ _ _ _ _ _); (refine And.intro (by first | k_in | exact FnAt_fr (by k_asm) (by assumption) | exact FnAt.of (by k_asm) (by k_mem)) ?_)) | ((fail_if_success (with_reducible refine isWp ?_)); dsimp only)))
    rename News _ _ _ _ => N4
    refine item_anyK (N4.isList (.head _)) hms (by decide) (by rw [hml]; decide) (by decide) fun t0 => ?_
    generalize ms.getD (Int.toNat 0) 0 = e0
    obtain ⟨n, hn, hn1, hn2⟩ : ∃ n : Nat, (1 + e0).fmod 3 = (n : Int) - 4 ∧ 4 ≤ n ∧ n ≤ 6 := by
      have h1 := Int.fmod_nonneg_of_pos (1 + e0) (show (0 : Int) < 3 by decide)
      have h2 := Int.fmod_lt_of_pos (1 + e0) (show (0 : Int) < 3 by decide)
      exact ⟨((1 + e0).fmod 3).toNat + 4, by omega, by omega, by omega⟩
    (try dsimp only)
    (repeat' (first | ((with_reducible refine tokN ?_); intro _) | (k_unfold; (try dsimp only)) | ((with_reducible refine isWp ?_); (fail_if_success (with_reducible first | refine halt 0 (by constructor) ?_ | refine halt 30 (by constructor) ?_)); (first | (walk1; (try dsimp only)) | (dsimp only; walk1))) | ((with_reducible show _ ∧ wpAny _ _ _ _ _ _); (refine And.intro (by first | k_in | exact FnAt_fr (by k_asm) (by assumption) | exact FnAt.of (by k_asm) (by k_mem)) ?_)) | ((fail_if_success (with_reducible refine isWp ?_)); dsimp only)))
    rename Fr _ _ _ _ => F5
    rename News _ _ _ _ => N5
    rw [hn, show (4 : Int) + ((n : Int) - 4) = (n : Int) by omega] at F5
    clear hn
    refine item_anyK (N5.isList (.head _)) hms (by decide) (by rw [hml]; decide) (by decide) fun t1 => ?_
    generalize ms.getD (Int.toNat 1) 0 = e1
    obtain ⟨size, hz, hz1, hz2⟩ : ∃ size : Int, (1 + e1).fmod 3 = size - 1 ∧ 1 ≤ size ∧ size ≤ 3 := by
      have h1 := Int.fmod_nonneg_of_pos (1 + e1) (show (0 : Int) < 3 by decide)
      have h2 := Int.fmod_lt_of_pos (1 + e1) (show (0 : Int) < 3 by decide)
      exact ⟨(1 + e1).fmod 3 + 1, by omega, by omega, by omega⟩
    (try dsimp only)
    (repeat' (first | ((with_reducible refine tokN ?_); intro _) | (k_unfold; (try dsimp only)) | ((with_reducible refine isWp ?_); (fail_if_success (with_reducible first | refine halt 0 (by constructor) ?_ | refine halt 30 (by constructor) ?_)); (first | (walk1; (try dsimp only)) | (dsimp only; walk1))) | ((with_reducible show _ ∧ wpAny _ _ _ _ _ _); (refine And.intro (by first | k_in | exact FnAt_fr (by k_asm) (by assumption) | exact FnAt.of (by k_asm) (by k_mem)) ?_)) | ((fail_if_success (with_reducible refine isWp ?_)); dsimp only)))
    rename Fr _ _ _ _ => F6
    rename News _ _ _ _ => N6
    rw [hz, show (1 : Int) + (size - 1) = size by omega]
    clear hz
    obtain ⟨q5, q4, q3, q2, q1, q61, q54, _⟩ := o3'
    dsimp only at q5 q4 q3 q2 q1 q61 q54
    have s12 : L + 1 ≠ L + 1 + 1 := n21.r
    refine storeX_C F6 N6 rfl (.tail (Ne.symm q2) (.tail (by show @Ne Nat _ _; first | (with_reducible first | assumption | exact Ne.symm (by assumption) | exact Apart.l (by assumption) | exact Apart.r (by assumption) | (refine Nat.ne_of_lt ?_; ((repeat (first | assumption | exact Nat.lt_add_one _ | exact Nat.lt_of_succ_lt (by assumption) | refine Nat.lt_add_one_of_lt ?_)); (first | done | fail "m"))) | (refine Nat.ne_of_gt ?_; ((repeat (first | assumption | exact Nat.lt_add_one _ | exact Nat.lt_of_succ_lt (by assumption) | refine Nat.lt_add_one_of_lt ?_)); (first | done | fail "m")))) | omega) (.tail (by show @Ne Nat _ _; first | (with_reducible first | assumption | exact Ne.symm (by assumption) | exact Apart.l (by assumption) | exact Apart.r (by assumption) | (refine Nat.ne_of_lt ?_; ((repeat (first | assumption | exact Nat.lt_add_one _ | exact Nat.lt_of_succ_lt (by assumption) | refine Nat.lt_add_one_of_lt ?_)); (first | done | fail "m"))) | (refine Nat.ne_of_gt ?_; ((repeat (first | assumption | exact Nat.lt_add_one _ | exact Nat.lt_of_succ_lt (by assumption) | refine Nat.lt_add_one_of_lt ?_)); (first | done | fail "m")))) | omega) (.tail (by show @Ne Nat _ _; first | (with_reducible first | assumption | exact Ne.symm (by assumption) | exact Apart.l (by assumption) | exact Apart.r (by assumption) | (refine Nat.ne_of_lt ?_; ((repeat (first | assumption | exact Nat.lt_add_one _ | exact Nat.lt_of_succ_lt (by assumption) | refine Nat.lt_add_one_of_lt ?_)); (first | done | fail "m"))) | (refine Nat.ne_of_gt ?_; ((repeat (first | assumption | exact Nat.lt_add_one _ | exact Nat.lt_of_succ_lt (by assumption) | refine Nat.lt_add_one_of_lt ?_)); (first | done | fail "m")))) | omega) (.head (by ((repeat (first | exact List.forall_mem_nil _ | assumption | (refine List.forall_mem_cons.mpr ⟨?_, ?_⟩; focus (show @Ne Nat _ _; first | (with_reducible first | assumption | exact Ne.symm (by assumption) | exact Apart.l (by assumption) | exact Apart.r (by assumption) | (refine Nat.ne_of_lt ?_; ((repeat (first | assumption | exact Nat.lt_add_one _ | exact Nat.lt_of_succ_lt (by assumption) | refine Nat.lt_add_one_of_lt ?_)); (first | done | fail "m"))) | (refine Nat.ne_of_gt ?_; ((repeat (first | assumption | exact Nat.lt_add_one _ | exact Nat.lt_of_succ_lt (by assumption) | refine Nat.lt_add_one_of_lt ?_)); (first | done | fail "m")))) | omega)) | exact ne_of_lts (by assumption) (by omega) | exact ne_of_gts (by assumption) (by omega))); (first | done | fail "m")))))))) d2 ?_
    intro h7 o2' F7 N7 d2'
    (try k_fold)
    (repeat' (first | ((with_reducible refine tokN ?_); intro _) | (k_unfold; (try dsimp only)) | ((with_reducible refine isWp ?_); (fail_if_success (with_reducible first | refine halt 0 (by constructor) ?_ | refine halt 30 (by constructor) ?_)); (first | (walk1; (try dsimp only)) | (dsimp only; walk1))) | ((with_reducible show _ ∧ wpAny _ _ _ _ _ _); (refine And.intro (by first | k_in | exact FnAt_fr (by k_asm) (by assumption) | exact FnAt.of (by k_asm) (by k_mem)) ?_)) | ((fail_if_success (with_reducible refine isWp ?_)); dsimp only)))
    rename News _ _ _ _ => N8
    refine item_anyK (N8.isList (.head _)) hms (by decide) (by rw [hml]; decide) (by decide) fun t2 => ?_
    generalize ms.getD (Int.toNat 2) 0 = e2
    obtain ⟨y, hy, hy1, hy2⟩ : ∃ y : Int, (22 + e2).fmod 41 = y + 20 ∧ -20 ≤ y ∧ y ≤ 20 := by
      have h1 := Int.fmod_nonneg_of_pos (22 + e2) (show (0 : Int) < 41 by decide)
      have h2 := Int.fmod_lt_of_pos (22 + e2) (show (0 : Int) < 41 by decide)
      exact ⟨(22 + e2).fmod 41 - 20, by omega, by omega, by omega⟩
    (try dsimp only)
    (repeat' (first | ((with_reducible refine tokN ?_); intro _) | (k_unfold; (try dsimp only)) | ((with_reducible refine isWp ?_); (fail_if_success (with_reducible first | refine halt 0 (by constructor) ?_ | refine halt 30 (by constructor) ?_)); (first | (walk1; (try dsimp only)) | (dsimp only; walk1))) | ((with_reducible show _ ∧ wpAny _ _ _ _ _ _); (refine And.intro (by first | k_in | exact FnAt_fr (by k_asm) (by assumption) | exact FnAt.of (by k_asm) (by k_mem)) ?_)) | ((fail_if_success (with_reducible refine isWp ?_)); dsimp only)))
    rename Fr _ _ _ _ => F9
    rename News _ _ _ _ => N9
    rw [hy, show y + 20 - 20 = y by omega]
    clear hy
    refine storeX_C F9 N9 rfl (.tail (Ne.symm q3) (.tail (by show @Ne Nat _ _; first | (with_reducible first | assumption | exact Ne.symm (by assumption) | exact Apart.l (by assumption) | exact Apart.r (by assumption) | (refine Nat.ne_of_lt ?_; ((repeat (first | assumption | exact Nat.lt_add_one _ | exact Nat.lt_of_succ_lt (by assumption) | refine Nat.lt_add_one_of_lt ?_)); (first | done | fail "m"))) | (refine Nat.ne_of_gt ?_; ((repeat (first | assumption | exact Nat.lt_add_one _ | exact Nat.lt_of_succ_lt (by assumption) | refine Nat.lt_add_one_of_lt ?_)); (first | done | fail "m")))) | omega) (.tail (by show @Ne Nat _ _; first | (with_reducible first | assumption | exact Ne.symm (by assumption) | exact Apart.l (by assumption) | exact Apart.r (by assumption) | (refine Nat.ne_of_lt ?_; ((repeat (first | assumption | exact Nat.lt_add_one _ | exact Nat.lt_of_succ_lt (by assumption) | refine Nat.lt_add_one_of_lt ?_)); (first | done | fail "m"))) | (refine Nat.ne_of_gt ?_; ((repeat (first | assumption | exact Nat.lt_add_one _ | exact Nat.lt_of_succ_lt (by assumption) | refine Nat.lt_add_one_of_lt ?_)); (first | done | fail "m")))) | omega) (.head (by ((repeat (first | exact List.forall_mem_nil _ | assumption | (refine List.forall_mem_cons.mpr ⟨?_, ?_⟩; focus (show @Ne Nat _ _; first | (with_reducible first | assumption | exact Ne.symm (by assumption) | exact Apart.l (by assumption) | exact Apart.r (by assumption) | (refine Nat.ne_of_lt ?_; ((repeat (first | assumption | exact Nat.lt_add_one _ | exact Nat.lt_of_succ_lt (by assumption) | refine Nat.lt_add_one_of_lt ?_)); (first | done | fail "m"))) | (refine Nat.ne_of_gt ?_; ((repeat (first | assumption | exact Nat.lt_add_one _ | exact Nat.lt_of_succ_lt (by assumption) | refine Nat.lt_add_one_of_lt ?_)); (first | done | fail "m")))) | omega)) | exact ne_of_lts (by assumption) (by omega) | exact ne_of_gts (by assumption) (by omega))); (first | done | fail "m"))))))) d3 ?_
    intro h10 o3' F10 N10 d3'
    (try k_fold)
    (repeat' (first | ((with_reducible refine tokN ?_); intro _) | (k_unfold; (try dsimp only)) | ((with_reducible refine isWp ?_); (fail_if_success (with_reducible first | refine halt 0 (by constructor) ?_ | refine halt 30 (by constructor) ?_)); (first | (walk1; (try dsimp only)) | (dsimp only; walk1))) | ((with_reducible show _ ∧ wpAny _ _ _ _ _ _); (refine And.intro (by first | k_in | exact FnAt_fr (by k_asm) (by assumption) | exact FnAt.of (by k_asm) (by k_mem)) ?_)) | ((fail_if_success (with_reducible refine isWp ?_)); dsimp only)))
    rename News _ _ _ _ => N11
    refine item_anyK (N11.isList (.head _)) hms (by decide) (by rw [hml]; decide) (by decide) fun t3 => ?_
    generalize ms.getD (Int.toNat 3) 0 = e3
    obtain ⟨u, hu, hu1, hu2⟩ : ∃ u : Int, (15 + e3).fmod 21 = u + 10 ∧ -10 ≤ u ∧ u ≤ 10 := by
      have h1 := Int.fmod_nonneg_of_pos (15 + e3) (show (0 : Int) < 21 by decide)
      have h2 := Int.fmod_lt_of_pos (15 + e3) (show (0 : Int) < 21 by decide)
      exact ⟨(15 + e3).fmod 21 - 10, by omega, by omega, by omega⟩
    (try dsimp only)
    (repeat' (first | ((with_reducible refine tokN ?_); intro _) | (k_unfold; (try dsimp only)) | ((with_reducible refine isWp ?_); (fail_if_success (with_reducible first | refine halt 0 (by constructor) ?_ | refine halt 30 (by constructor) ?_)); (first | (walk1; (try dsimp only)) | (dsimp only; walk1))) | ((with_reducible show _ ∧ wpAny _ _ _ _ _ _); (refine And.intro (by first | k_in | exact FnAt_fr (by k_asm) (by assumption) | exact FnAt.of (by k_asm) (by k_mem)) ?_)) | ((fail_if_success (with_reducible refine isWp ?_)); dsimp only)))
    rename Fr _ _ _ _ => F12
    rename News _ _ _ _ => N12
    rw [hu, show u + 10 - 10 = u by omega]
    clear hu
    refine storeX_C F12 N12 rfl (.tail (Ne.symm q4) (.tail (by show @Ne Nat _ _; first | (with_reducible first | assumption | exact Ne.symm (by assumption) | exact Apart.l (by assumption) | exact Apart.r (by assumption) | (refine Nat.ne_of_lt ?_; ((repeat (first | assumption | exact Nat.lt_add_one _ | exact Nat.lt_of_succ_lt (by assumption) | refine Nat.lt_add_one_of_lt ?_)); (first | done | fail "m"))) | (refine Nat.ne_of_gt ?_; ((repeat (first | assumption | exact Nat.lt_add_one _ | exact Nat.lt_of_succ_lt (by assumption) | refine Nat.lt_add_one_of_lt ?_)); (first | done | fail "m")))) | omega) (.head (by ((repeat (first | exact List.forall_mem_nil _ | assumption | (refine List.forall_mem_cons.mpr ⟨?_, ?_⟩; focus (show @Ne Nat _ _; first | (with_reducible first | assumption | exact Ne.symm (by assumption) | exact Apart.l (by assumption) | exact Apart.r (by assumption) | (refine Nat.ne_of_lt ?_; ((repeat (first | assumption | exact Nat.lt_add_one _ | exact Nat.lt_of_succ_lt (by assumption) | refine Nat.lt_add_one_of_lt ?_)); (first | done | fail "m"))) | (refine Nat.ne_of_gt ?_; ((repeat (first | assumption | exact Nat.lt_add_one _ | exact Nat.lt_of_succ_lt (by assumption) | refine Nat.lt_add_one_of_lt ?_)); (first | done | fail "m")))) | omega)) | exact ne_of_lts (by assumption) (by omega) | exact ne_of_gts (by assumption) (by omega))); (first | done | fail "m")))))) d4 ?_
    intro h13 o4' F13 N13 d4'
    (try k_fold)
    (repeat' (first | ((with_reducible refine tokN ?_); intro _) | (k_unfold; (try dsimp only)) | ((with_reducible refine isWp ?_); (fail_if_success (with_reducible first | refine halt 0 (by constructor) ?_ | refine halt 30 (by constructor) ?_)); (first | (walk1; (try dsimp only)) | (dsimp only; walk1))) | ((with_reducible show _ ∧ wpAny _ _ _ _ _ _); (refine And.intro (by first | k_in | exact FnAt_fr (by k_asm) (by assumption) | exact FnAt.of (by k_asm) (by k_mem)) ?_)) | ((fail_if_success (with_reducible refine isWp ?_)); dsimp only)))
    rename Fr _ _ _ _ => F14
    rename News _ _ _ _ => N14
    refine newListV_K F14 N14 (Nat.le_of_ble_eq_true rfl) ?_
    intro Le h15 F15 N15a hLLe hnLe
    obtain ⟨v5, N15, hv5, hv5l⟩ : ∃ v5 : List Value, News g L h15 ((Le, W.listOf v5.toArray 0) :: (Dd, lst ys) :: (L + 1 + 1 + 1 + 1 + 1, o5) :: (L + 1 + 1 + 1 + 1, o4') :: (L + 1 + 1 + 1, o3') :: (L + 1 + 1, o2') :: (L + 1, o1) :: [(61, tabObj #[]), (54, tabObj #[])]) ∧ StrsAre v5 endsAll ∧ v5.length = 5 :=
      ⟨_, N15a, .cons _ _ (.cons _ _ (.cons _ _ (.cons _ _ (.cons _ _ .nil)))), rfl⟩
    clear N15a
    (try dsimp only)
    (repeat' (first | ((with_reducible refine tokN ?_); intro _) | (k_unfold; (try dsimp only)) | ((with_reducible refine isWp ?_); (fail_if_success (with_reducible first | refine halt 0 (by constructor) ?_ | refine halt 30 (by constructor) ?_)); (first | (walk1; (try dsimp only)) | (dsimp only; walk1))) | ((with_reducible show _ ∧ wpAny _ _ _ _ _ _); (refine And.intro (by first | k_in | exact FnAt_fr (by k_asm) (by assumption) | exact FnAt.of (by k_asm) (by k_mem)) ?_)) | ((fail_if_success (with_reducible refine isWp ?_)); dsimp only)))
    rename Fr _ _ _ _ => F16
    rename News _ _ _ _ => N16
    refine item_anyK (N16.isList (.tail _ (.head _))) hms (by decide) (by rw [hml]; decide) (by decide) fun t4 => ?_
    generalize ms.getD (Int.toNat 4) 0 = e4
    obtain ⟨ee, he, he2⟩ : ∃ ee : Nat, e4.fmod 3 = (ee : Int) ∧ ee ≤ 2 := by
      have h1 := Int.fmod_nonneg_of_pos e4 (show (0 : Int) < 3 by decide)
      have h2 := Int.fmod_lt_of_pos e4 (show (0 : Int) < 3 by decide)
      exact ⟨(e4.fmod 3).toNat, by omega, by omega⟩
    (try dsimp only)
    (repeat' (first | ((with_reducible refine tokN ?_); intro _) | (k_unfold; (try dsimp only)) | ((with_reducible refine isWp ?_); (fail_if_success (with_reducible first | refine halt 0 (by constructor) ?_ | refine halt 30 (by constructor) ?_)); (first | (walk1; (try dsimp only)) | (dsimp only; walk1))) | ((with_reducible show _ ∧ wpAny _ _ _ _ _ _); (refine And.intro (by first | k_in | exact FnAt_fr (by k_asm) (by assumption) | exact FnAt.of (by k_asm) (by k_mem)) ?_)) | ((fail_if_success (with_reducible refine isWp ?_)); dsimp only)))
    rw [he]
    clear he hml hyl hns
    refine kba_turn (value' := PySem.Expr.Name (Str.ofString "_") ⟨0, 0, 0, 0⟩) (fun _ => rfl) ?_
    k_dflt refine' kmk_slice (s := ⟨h15, _, _, _, _⟩) (lo := some (ee : Int)) (hi := none) (its := v5.toArray) ?zF ?zN ?zl ?zp ?zq ?_ ?zs ?zt ?zz
    case zF => exact F16
    case zN => exact N16
    case zl => exact N16.isList (.head _)
    case zp => exact IsPart.int _ _
    case zq => exact IsPart.none
    case zs => with_unfolding_all rfl
    case zt => intro _; with_unfolding_all rfl
    case zz => rw [List.size_toArray, hv5l]; unfold sizeLine; omega
    intro De h17 F17 N17 hnDe
    have hpk : slicePick v5.toArray (some (ee : Int)) none none = (v5.drop ee).toArray := by
      rw [kmk_pick_nat (a := ee) (b := 5) _ (by rw [List.size_toArray, hv5l]; exact slice5 ⟨ee, Nat.lt_succ_of_le he2⟩)]
      rw [List.take_of_length_le (by simp; omega)]
    rw [hpk] at N17
    clear hpk hv5l
    have hDe5 : ∀ p ∈ [((L + 1 + 1 + 1 + 1 + 1 : Addr), o5), (L + 1 + 1 + 1 + 1, o4'), (L + 1 + 1 + 1, o3'), (L + 1 + 1, o2'), (L + 1, o1), (61, tabObj #[]), (54, tabObj #[])], p.1 < De := fun p hp => hnDe p (.tail _ (.tail _ hp))
    (try dsimp only)
    (repeat' (first | ((with_reducible refine tokN ?_); intro _) | (k_unfold; (try dsimp only)) | ((with_reducible refine isWp ?_); (fail_if_success (with_reducible first | refine halt 0 (by constructor) ?_ | refine halt 30 (by constructor) ?_)); (first | (walk1; (try dsimp only)) | (dsimp only; walk1))) | ((with_reducible show _ ∧ wpAny _ _ _ _ _ _); (refine And.intro (by first | k_in | exact FnAt_fr (by k_asm) (by assumption) | exact FnAt.of (by k_asm) (by k_mem)) ?_)) | ((fail_if_success (with_reducible refine isWp ?_)); dsimp only)))
    rename Fr _ _ _ _ => F18
    rename News _ _ _ _ => N18
    have hn6 : Le6 n := hn2
    clear hn2 hnDe hnLe
    walk1
    (try dsimp only)
    refine LCg.ListComp_U F18 (by with_unfolding_all rfl) (by decide) (by rfl) (by decide) (by rfl) ?_ (by intro _; with_unfolding_all rfl)
    (repeat' (first | ((with_reducible refine tokN ?_); intro _) | (k_unfold; (try dsimp only)) | ((with_reducible refine isWp ?_); (fail_if_success (with_reducible first | refine halt 0 (by constructor) ?_ | refine halt 30 (by constructor) ?_)); (first | (walk1; (try dsimp only)) | (dsimp only; walk1))) | ((with_reducible show _ ∧ wpAny _ _ _ _ _ _); (refine And.intro (by first | k_in | exact FnAt_fr (by k_asm) (by assumption) | exact FnAt.of (by k_asm) (by k_mem)) ?_)) | ((fail_if_success (with_reducible refine isWp ?_)); dsimp only)))
    rename Fr _ _ _ _ => F19
    rename News _ _ _ _ => N19
    rename IsRange _ _ _ _ _ _ _ _ => R19
    have hTb0 : Tabs [((54 : Addr), tabObj #[]), (61, tabObj #[])] := ⟨_, _, [], rfl, (fun _ h => nomatch h), .inl rfl, .inl rfl⟩
    have N20 : News g L _ ((L + 1 + 1 + 1 + 1 + 1, o5) :: (L + 1 + 1, o2') :: (L + 1 + 1 + 1, o3') :: (L + 1 + 1 + 1 + 1, o4') :: (De, W.listOf (v5.drop ee).toArray 0) :: ([(54, tabObj #[]), (61, tabObj #[])] ++ [])) := newsSub N19 ?_
    refine LCg.CompSrc.range rfl F19 N20 R19 (small_one (by omega) (by omega) (by omega) (by have h6 : n ≤ 6 := hn6; omega)) (n := n) (by rw [rangeSize_nat]; omega) (by have h6 : n ≤ 6 := hn6; unfold sizeLine; omega) ?_
    rotate_left
    · intro p hp
      revert p; ((repeat (first | exact List.forall_mem_nil _ | (refine List.forall_mem_cons.mpr ⟨?_, ?_⟩; focus ((with_reducible ((repeat (first | exact List.mem_cons_self | refine List.mem_cons_of_mem _ ?_ | (refine List.mem_append_left _ ?_; ((repeat (first | exact List.mem_cons_self | refine List.mem_cons_of_mem _ ?_ | assumption)); (first | done | fail "m"))) | refine List.mem_append_right _ ?_ | assumption)); (first | done | fail "m"))))) | (refine List.forall_mem_append.mpr ⟨?_, ?_⟩; focus (intro p hp; (with_reducible ((repeat (first | exact List.mem_cons_self | refine List.mem_cons_of_mem _ ?_ | (refine List.mem_append_left _ ?_; ((repeat (first | exact List.mem_cons_self | refine List.mem_cons_of_mem _ ?_ | assumption)); (first | done | fail "m"))) | refine List.mem_append_right _ ?_ | assumption)); (first | done | fail "m"))))) | (refine List.forall_mem_append.mpr ⟨?_, ?_⟩; focus ((repeat (first | exact List.forall_mem_nil _ | (refine List.forall_mem_cons.mpr ⟨?_, ?_⟩; focus ((with_reducible ((repeat (first | exact List.mem_cons_self | refine List.mem_cons_of_mem _ ?_ | (refine List.mem_append_left _ ?_; ((repeat (first | exact List.mem_cons_self | refine List.mem_cons_of_mem _ ?_ | assumption)); (first | done | fail "m"))) | refine List.mem_append_right _ ?_ | assumption)); (first | done | fail "m"))))))); (first | done | fail "m"))) | (intro p hp; (with_reducible ((repeat (first | exact List.mem_cons_self | refine List.mem_cons_of_mem _ ?_ | (refine List.mem_append_left _ ?_; ((repeat (first | exact List.mem_cons_self | refine List.mem_cons_of_mem _ ?_ | assumption)); (first | done | fail "m"))) | refine List.mem_append_right _ ?_ | assumption)); (first | done | fail "m")))))); (first | done | fail "m"))
    intro g20
    refine CompRest.inv (fun i ys news => ∃ rs tlc, ys = refsOf rs ∧ news = (L + 1 + 1 + 1 + 1 + 1, o5) :: (L + 1 + 1, o2') :: (L + 1 + 1 + 1, o3') :: (L + 1 + 1 + 1 + 1, o4') :: (De, W.listOf (v5.drop ee).toArray 0) :: (tlc ++ rs) ∧
      RowsL rs ((List.range i).map fun (j : Nat) => shareOf size (1 + (j : Int))) ∧ Tabs tlc ∧ (∀ p ∈ (L + 1 + 1 + 1 + 1 + 1, o5) :: (L + 1 + 1, o2') :: (L + 1 + 1 + 1, o3') :: (L + 1 + 1 + 1 + 1, o4') :: (De, W.listOf (v5.drop ee).toArray 0) :: rs, ∀ q ∈ tlc, p.1 ≠ q.1) ∧ (∀ p ∈ rs, De < p.1)) ?_ ?_ _ 0 [] _ (Nat.zero_add _) ⟨[], _, rfl, rfl, .nil, hTb0, ?_, fun _ h => nomatch h⟩
    · rintro i ys news v I oI C oC D m2 h21 tk21 E2 hi ⟨rs, tlc, rfl, rfl, hrs, hTc, hoff, hrsD⟩ ⟨tv, rfl⟩ hC hx F21 N21 off ne
      refine cutQ fun Qr hQr => ?_
      (repeat' (first | ((with_reducible refine tokN ?_); intro _) | (k_unfold; (try dsimp only)) | ((with_reducible refine isWp ?_); (fail_if_success (with_reducible first | refine halt 0 (by constructor) ?_ | refine halt 30 (by constructor) ?_)); (first | (walk1; (try dsimp only)) | (dsimp only; walk1))) | ((with_reducible show _ ∧ wpAny _ _ _ _ _ _); (refine And.intro (by first | k_in | exact FnAt_fr (by k_asm) (by assumption) | exact FnAt.of (by k_asm) (by k_mem)) ?_)) | ((fail_if_success (with_reducible refine isWp ?_)); dsimp only)))
      have hlts : ∀ p ∈ (I, oI) :: (C, oC) :: (D, lst (refsOf rs)) :: (L + 1 + 1 + 1 + 1 + 1, o5) :: (L + 1 + 1, o2') :: (L + 1 + 1 + 1, o3') :: (L + 1 + 1 + 1 + 1, o4') :: (De, W.listOf (v5.drop ee).toArray 0) :: (tlc ++ rs), p.1 < h21.objs.size := fun p hp => Heap.lt_size (N21 p hp).1
      rename Fr _ _ _ _ => F22
      rename News _ _ _ _ => N22
      have h6 : n ≤ 6 := hn6
      refine (share_ok w (1 + (i : Int)) size tv _ (by omega) (by omega) hz1 hz2).use (tl := tlc) (news := (I, oI) :: (C, oC) :: (D, lst (refsOf rs)) :: (L + 1 + 1 + 1 + 1 + 1, o5) :: (L + 1 + 1, o2') :: (L + 1 + 1 + 1, o3') :: (L + 1 + 1 + 1 + 1, o4') :: (De, W.listOf (v5.drop ee).toArray 0) :: rs) rfl (Nat.le_of_ble_eq_true rfl) (Nat.le_of_ble_eq_true rfl) X1 T1 F22 (newsSub N22 ?_) hTc ?_ trivial ?_
      · intro p hp
        revert p; ((repeat (first | exact List.forall_mem_nil _ | (refine List.forall_mem_cons.mpr ⟨?_, ?_⟩; focus ((with_reducible ((repeat (first | exact List.mem_cons_self | refine List.mem_cons_of_mem _ ?_ | (refine List.mem_append_left _ ?_; ((repeat (first | exact List.mem_cons_self | refine List.mem_cons_of_mem _ ?_ | assumption)); (first | done | fail "m"))) | refine List.mem_append_right _ ?_ | assumption)); (first | done | fail "m"))))) | (refine List.forall_mem_append.mpr ⟨?_, ?_⟩; focus (intro p hp; (with_reducible ((repeat (first | exact List.mem_cons_self | refine List.mem_cons_of_mem _ ?_ | (refine List.mem_append_left _ ?_; ((repeat (first | exact List.mem_cons_self | refine List.mem_cons_of_mem _ ?_ | assumption)); (first | done | fail "m"))) | refine List.mem_append_right _ ?_ | assumption)); (first | done | fail "m"))))) | (refine List.forall_mem_append.mpr ⟨?_, ?_⟩; focus ((repeat (first | exact List.forall_mem_nil _ | (refine List.forall_mem_cons.mpr ⟨?_, ?_⟩; focus ((with_reducible ((repeat (first | exact List.mem_cons_self | refine List.mem_cons_of_mem _ ?_ | (refine List.mem_append_left _ ?_; ((repeat (first | exact List.mem_cons_self | refine List.mem_cons_of_mem _ ?_ | assumption)); (first | done | fail "m"))) | refine List.mem_append_right _ ?_ | assumption)); (first | done | fail "m"))))))); (first | done | fail "m"))) | (intro p hp; (with_reducible ((repeat (first | exact List.mem_cons_self | refine List.mem_cons_of_mem _ ?_ | (refine List.mem_append_left _ ?_; ((repeat (first | exact List.mem_cons_self | refine List.mem_cons_of_mem _ ?_ | assumption)); (first | done | fail "m"))) | refine List.mem_append_right _ ?_ | assumption)); (first | done | fail "m")))))); (first | done | fail "m"))
      · ((repeat (first | exact List.forall_mem_nil _ | (refine List.forall_mem_cons.mpr ⟨?_, ?_⟩; focus (first | exact hoff _ (by (with_reducible ((repeat (first | exact List.mem_cons_self | refine List.mem_cons_of_mem _ ?_ | (refine List.mem_append_left _ ?_; ((repeat (first | exact List.mem_cons_self | refine List.mem_cons_of_mem _ ?_ | assumption)); (first | done | fail "m"))) | refine List.mem_append_right _ ?_ | assumption)); (first | done | fail "m")))) | exact fun q hq => Ne.symm (off.mem q (by (with_reducible ((repeat (first | exact List.mem_cons_self | refine List.mem_cons_of_mem _ ?_ | (refine List.mem_append_left _ ?_; ((repeat (first | exact List.mem_cons_self | refine List.mem_cons_of_mem _ ?_ | assumption)); (first | done | fail "m"))) | refine List.mem_append_right _ ?_ | assumption)); (first | done | fail "m"))))).1 | exact fun q hq => Ne.symm (off.mem q (by (with_reducible ((repeat (first | exact List.mem_cons_self | refine List.mem_cons_of_mem _ ?_ | (refine List.mem_append_left _ ?_; ((repeat (first | exact List.mem_cons_self | refine List.mem_cons_of_mem _ ?_ | assumption)); (first | done | fail "m"))) | refine List.mem_append_right _ ?_ | assumption)); (first | done | fail "m"))))).2.1 | exact fun q hq => Ne.symm (off.mem q (by (with_reducible ((repeat (first | exact List.mem_cons_self | refine List.mem_cons_of_mem _ ?_ | (refine List.mem_append_left _ ?_; ((repeat (first | exact List.mem_cons_self | refine List.mem_cons_of_mem _ ?_ | assumption)); (first | done | fail "m"))) | refine List.mem_append_right _ ?_ | assumption)); (first | done | fail "m"))))).2.2)) | (refine List.forall_mem_append.mpr ⟨?_, ?_⟩; focus (intro p hp; first | exact hoff _ (by (with_reducible ((repeat (first | exact List.mem_cons_self | refine List.mem_cons_of_mem _ ?_ | (refine List.mem_append_left _ ?_; ((repeat (first | exact List.mem_cons_self | refine List.mem_cons_of_mem _ ?_ | assumption)); (first | done | fail "m"))) | refine List.mem_append_right _ ?_ | assumption)); (first | done | fail "m")))) | exact fun q hq => Ne.symm (off.mem q (by (with_reducible ((repeat (first | exact List.mem_cons_self | refine List.mem_cons_of_mem _ ?_ | (refine List.mem_append_left _ ?_; ((repeat (first | exact List.mem_cons_self | refine List.mem_cons_of_mem _ ?_ | assumption)); (first | done | fail "m"))) | refine List.mem_append_right _ ?_ | assumption)); (first | done | fail "m"))))).1 | exact fun q hq => Ne.symm (off.mem q (by (with_reducible ((repeat (first | exact List.mem_cons_self | refine List.mem_cons_of_mem _ ?_ | (refine List.mem_append_left _ ?_; ((repeat (first | exact List.mem_cons_self | refine List.mem_cons_of_mem _ ?_ | assumption)); (first | done | fail "m"))) | refine List.mem_append_right _ ?_ | assumption)); (first | done | fail "m"))))).2.1 | exact fun q hq => Ne.symm (off.mem q (by (with_reducible ((repeat (first | exact List.mem_cons_self | refine List.mem_cons_of_mem _ ?_ | (refine List.mem_append_left _ ?_; ((repeat (first | exact List.mem_cons_self | refine List.mem_cons_of_mem _ ?_ | assumption)); (first | done | fail "m"))) | refine List.mem_append_right _ ?_ | assumption)); (first | done | fail "m"))))).2.2)) | (intro p hp; first | exact hoff _ (by (with_reducible ((repeat (first | exact List.mem_cons_self | refine List.mem_cons_of_mem _ ?_ | (refine List.mem_append_left _ ?_; ((repeat (first | exact List.mem_cons_self | refine List.mem_cons_of_mem _ ?_ | assumption)); (first | done | fail "m"))) | refine List.mem_append_right _ ?_ | assumption)); (first | done | fail "m")))) | exact fun q hq => Ne.symm (off.mem q (by (with_reducible ((repeat (first | exact List.mem_cons_self | refine List.mem_cons_of_mem _ ?_ | (refine List.mem_append_left _ ?_; ((repeat (first | exact List.mem_cons_self | refine List.mem_cons_of_mem _ ?_ | assumption)); (first | done | fail "m"))) | refine List.mem_append_right _ ?_ | assumption)); (first | done | fail "m"))))).1 | exact fun q hq => Ne.symm (off.mem q (by (with_reducible ((repeat (first | exact List.mem_cons_self | refine List.mem_cons_of_mem _ ?_ | (refine List.mem_append_left _ ?_; ((repeat (first | exact List.mem_cons_self | refine List.mem_cons_of_mem _ ?_ | assumption)); (first | done | fail "m"))) | refine List.mem_append_right _ ?_ | assumption)); (first | done | fail "m"))))).2.1 | exact fun q hq => Ne.symm (off.mem q (by (with_reducible ((repeat (first | exact List.mem_cons_self | refine List.mem_cons_of_mem _ ?_ | (refine List.mem_append_left _ ?_; ((repeat (first | exact List.mem_cons_self | refine List.mem_cons_of_mem _ ?_ | assumption)); (first | done | fail "m"))) | refine List.mem_append_right _ ?_ | assumption)); (first | done | fail "m"))))).2.2))); (first | done | fail "m"))
      rintro _ h23 tk23 tl3 F23 N23 hT3 hoff3 hk23 ha3 ⟨R, vsR, eR, rfl, hzR, hRg, hRi⟩
      have hRn := fresh_news F22 hzR hRg
      have hRI : I < R := Nat.lt_of_lt_of_le (hlts _ (.head _)) hzR
      have hRC : C < R := Nat.lt_of_lt_of_le (hlts _ (.tail _ (.head _))) hzR
      have hRD : D < R := Nat.lt_of_lt_of_le (hlts _ (.tail _ (.tail _ (.head _)))) hzR
      have hRDe : De < R := Nat.lt_of_lt_of_le (hlts (De, W.listOf (v5.drop ee).toArray 0) (by first | (with_reducible ((repeat (first | exact List.mem_cons_self | refine List.mem_cons_of_mem _ ?_ | (refine List.mem_append_left _ ?_; ((repeat (first | exact List.mem_cons_self | refine List.mem_cons_of_mem _ ?_ | assumption)); (first | done | fail "m"))) | refine List.mem_append_right _ ?_ | assumption)); (first | done | fail "m"))) | simp)) hzR
      have hRt : R ∉ tl3.map (·.1) := Tabs.off hT3 (fun p hp => (N23 p (List.mem_append_left _ hp)).1) hRg rfl
      refine hQr _ _ ?_
      refine LCg.CompEnd.intro F23 (news_cons (p := (R, W.listOf vsR.toArray eR)) hRn N23) ((L + 1 + 1 + 1 + 1 + 1, o5) :: (L + 1 + 1, o2') :: (L + 1 + 1 + 1, o3') :: (L + 1 + 1 + 1 + 1, o4') :: (De, W.listOf (v5.drop ee).toArray 0) :: (tl3 ++ (rs ++ [(R, W.listOf vsR.toArray eR)]))) ?_ ?_ trivial ⟨rs ++ [(R, W.listOf vsR.toArray eR)], tl3, ?_, rfl, ?_, hT3, ?_, ?_⟩
      · intro p hp
        revert p; ((repeat (first | exact List.forall_mem_nil _ | (refine List.forall_mem_cons.mpr ⟨?_, ?_⟩; focus ((with_reducible ((repeat (first | exact List.mem_cons_self | refine List.mem_cons_of_mem _ ?_ | (refine List.mem_append_left _ ?_; ((repeat (first | exact List.mem_cons_self | refine List.mem_cons_of_mem _ ?_ | assumption)); (first | done | fail "m"))) | refine List.mem_append_right _ ?_ | assumption)); (first | done | fail "m"))))) | (refine List.forall_mem_append.mpr ⟨?_, ?_⟩; focus (intro p hp; (with_reducible ((repeat (first | exact List.mem_cons_self | refine List.mem_cons_of_mem _ ?_ | (refine List.mem_append_left _ ?_; ((repeat (first | exact List.mem_cons_self | refine List.mem_cons_of_mem _ ?_ | assumption)); (first | done | fail "m"))) | refine List.mem_append_right _ ?_ | assumption)); (first | done | fail "m"))))) | (refine List.forall_mem_append.mpr ⟨?_, ?_⟩; focus ((repeat (first | exact List.forall_mem_nil _ | (refine List.forall_mem_cons.mpr ⟨?_, ?_⟩; focus ((with_reducible ((repeat (first | exact List.mem_cons_self | refine List.mem_cons_of_mem _ ?_ | (refine List.mem_append_left _ ?_; ((repeat (first | exact List.mem_cons_self | refine List.mem_cons_of_mem _ ?_ | assumption)); (first | done | fail "m"))) | refine List.mem_append_right _ ?_ | assumption)); (first | done | fail "m"))))))); (first | done | fail "m"))) | (intro p hp; (with_reducible ((repeat (first | exact List.mem_cons_self | refine List.mem_cons_of_mem _ ?_ | (refine List.mem_append_left _ ?_; ((repeat (first | exact List.mem_cons_self | refine List.mem_cons_of_mem _ ?_ | assumption)); (first | done | fail "m"))) | refine List.mem_append_right _ ?_ | assumption)); (first | done | fail "m")))))); (first | done | fail "m"))
      · refine Off3.of ?_; ((repeat (first | exact List.forall_mem_nil _ | (refine List.forall_mem_cons.mpr ⟨?_, ?_⟩; focus (first | exact off.mem _ (by (with_reducible ((repeat (first | exact List.mem_cons_self | refine List.mem_cons_of_mem _ ?_ | (refine List.mem_append_left _ ?_; ((repeat (first | exact List.mem_cons_self | refine List.mem_cons_of_mem _ ?_ | assumption)); (first | done | fail "m"))) | refine List.mem_append_right _ ?_ | assumption)); (first | done | fail "m")))) | exact ⟨fun e => hoff3 (I, oI) (.head _) p hp e.symm, fun e => hoff3 (C, oC) (.tail _ (.head _)) p hp e.symm, fun e => hoff3 (D, lst (refsOf rs)) (.tail _ (.tail _ (.head _))) p hp e.symm⟩ | exact ⟨Nat.ne_of_gt hRI, Nat.ne_of_gt hRC, Nat.ne_of_gt hRD⟩)) | (refine List.forall_mem_append.mpr ⟨?_, ?_⟩; focus (intro p hp; first | exact off.mem _ (by (with_reducible ((repeat (first | exact List.mem_cons_self | refine List.mem_cons_of_mem _ ?_ | (refine List.mem_append_left _ ?_; ((repeat (first | exact List.mem_cons_self | refine List.mem_cons_of_mem _ ?_ | assumption)); (first | done | fail "m"))) | refine List.mem_append_right _ ?_ | assumption)); (first | done | fail "m")))) | exact ⟨fun e => hoff3 (I, oI) (.head _) p hp e.symm, fun e => hoff3 (C, oC) (.tail _ (.head _)) p hp e.symm, fun e => hoff3 (D, lst (refsOf rs)) (.tail _ (.tail _ (.head _))) p hp e.symm⟩ | exact ⟨Nat.ne_of_gt hRI, Nat.ne_of_gt hRC, Nat.ne_of_gt hRD⟩)) | (intro p hp; first | exact off.mem _ (by (with_reducible ((repeat (first | exact List.mem_cons_self | refine List.mem_cons_of_mem _ ?_ | (refine List.mem_append_left _ ?_; ((repeat (first | exact List.mem_cons_self | refine List.mem_cons_of_mem _ ?_ | assumption)); (first | done | fail "m"))) | refine List.mem_append_right _ ?_ | assumption)); (first | done | fail "m")))) | exact ⟨fun e => hoff3 (I, oI) (.head _) p hp e.symm, fun e => hoff3 (C, oC) (.tail _ (.head _)) p hp e.symm, fun e => hoff3 (D, lst (refsOf rs)) (.tail _ (.tail _ (.head _))) p hp e.symm⟩ | exact ⟨Nat.ne_of_gt hRI, Nat.ne_of_gt hRC, Nat.ne_of_gt hRD⟩))); (first | done | fail "m"))
      · unfold refsOf; simp
      · rw [List.range_succ, List.map_append]; exact hrs.append (.cons hRi .nil)
      · ((repeat (first | exact List.forall_mem_nil _ | (refine List.forall_mem_cons.mpr ⟨?_, ?_⟩; focus (first | exact hoff3 _ (by (with_reducible ((repeat (first | exact List.mem_cons_self | refine List.mem_cons_of_mem _ ?_ | (refine List.mem_append_left _ ?_; ((repeat (first | exact List.mem_cons_self | refine List.mem_cons_of_mem _ ?_ | assumption)); (first | done | fail "m"))) | refine List.mem_append_right _ ?_ | assumption)); (first | done | fail "m")))) | exact fun q hq e2 => hRt (List.mem_map.mpr ⟨q, hq, e2.symm⟩))) | (refine List.forall_mem_append.mpr ⟨?_, ?_⟩; focus (intro p hp; first | exact hoff3 _ (by (with_reducible ((repeat (first | exact List.mem_cons_self | refine List.mem_cons_of_mem _ ?_ | (refine List.mem_append_left _ ?_; ((repeat (first | exact List.mem_cons_self | refine List.mem_cons_of_mem _ ?_ | assumption)); (first | done | fail "m"))) | refine List.mem_append_right _ ?_ | assumption)); (first | done | fail "m")))) | exact fun q hq e2 => hRt (List.mem_map.mpr ⟨q, hq, e2.symm⟩))) | (intro p hp; first | exact hoff3 _ (by (with_reducible ((repeat (first | exact List.mem_cons_self | refine List.mem_cons_of_mem _ ?_ | (refine List.mem_append_left _ ?_; ((repeat (first | exact List.mem_cons_self | refine List.mem_cons_of_mem _ ?_ | assumption)); (first | done | fail "m"))) | refine List.mem_append_right _ ?_ | assumption)); (first | done | fail "m")))) | exact fun q hq e2 => hRt (List.mem_map.mpr ⟨q, hq, e2.symm⟩)))); (first | done | fail "m"))
      · intro p hp
        rcases List.mem_append.mp hp with h | h
        · exact hrsD p h
        · rw [List.mem_singleton.mp h]; exact hRDe
    · rintro ys news ⟨rs, tlc, rfl, rfl, hrs, hTc, hoff, hrsD⟩
      intro Ds h24 tk24 F24 N24 o24
      clear F19 N19 R19 N20
      obtain ⟨qs5, qs2, qs3, qs4, qsDe, qsr⟩ := o24
      dsimp only at qs5 qs2 qs3 qs4 qsDe
      have hDe1 : L + 1 + 1 + 1 + 1 + 1 < De := hDe5 _ (.head _)
      dsimp only
      (repeat' (first | ((with_reducible refine tokN ?_); intro _) | (k_unfold; (try dsimp only)) | ((with_reducible refine isWp ?_); (fail_if_success (with_reducible first | refine halt 0 (by constructor) ?_ | refine halt 30 (by constructor) ?_)); (first | (walk1; (try dsimp only)) | (dsimp only; walk1))) | ((with_reducible show _ ∧ wpAny _ _ _ _ _ _); (refine And.intro (by first | k_in | exact FnAt_fr (by k_asm) (by assumption) | exact FnAt.of (by k_asm) (by k_mem)) ?_)) | ((fail_if_success (with_reducible refine isWp ?_)); dsimp only)))
      refine storeX_C F24 N24 rfl (.tail (Ne.symm qs5) (.head ?_)) d5 ?_
      · ((repeat (first | exact List.forall_mem_nil _ | (refine List.forall_mem_cons.mpr ⟨?_, ?_⟩; focus (first | exact n52.r | exact n53.r | exact n54.r | exact Nat.ne_of_gt hDe1 | exact fun e => hoff _ (.head _) p hp e.symm | exact Nat.ne_of_gt (Nat.lt_trans hDe1 (hrsD p hp)))) | (refine List.forall_mem_append.mpr ⟨?_, ?_⟩; focus (intro p hp; first | exact n52.r | exact n53.r | exact n54.r | exact Nat.ne_of_gt hDe1 | exact fun e => hoff _ (.head _) p hp e.symm | exact Nat.ne_of_gt (Nat.lt_trans hDe1 (hrsD p hp)))) | (intro p hp; first | exact n52.r | exact n53.r | exact n54.r | exact Nat.ne_of_gt hDe1 | exact fun e => hoff _ (.head _) p hp e.symm | exact Nat.ne_of_gt (Nat.lt_trans hDe1 (hrsD p hp))))); (first | done | fail "m"))
      intro h25 o5' F25 N25 d5'
      (try k_fold)
      have h0n : 0 ≤ (n : Int).fdiv size := by rw [Int.fdiv_eq_ediv_of_nonneg _ (by omega)]; exact Int.ediv_nonneg (by omega) (by omega)
      obtain ⟨q, hq, hqn⟩ : ∃ q : Nat, (n : Int).fdiv size = (q : Int) ∧ q ≤ n := by
        refine ⟨((n : Int).fdiv size).toNat, by omega, ?_⟩
        rw [Int.fdiv_eq_ediv_of_nonneg _ (by omega)]
        have := Int.ediv_le_self (a := (n : Int)) size (by omega)
        omega
      clear h0n
      (repeat' (first | ((with_reducible refine tokN ?_); intro _) | (k_unfold; (try dsimp only)) | ((with_reducible refine isWp ?_); (fail_if_success (with_reducible first | refine halt 0 (by constructor) ?_ | refine halt 30 (by constructor) ?_)); (first | (walk1; (try dsimp only)) | (dsimp only; walk1))) | ((with_reducible show _ ∧ wpAny _ _ _ _ _ _); (refine And.intro (by first | k_in | exact FnAt_fr (by k_asm) (by assumption) | exact FnAt.of (by k_asm) (by k_mem)) ?_)) | ((fail_if_success (with_reducible refine isWp ?_)); dsimp only)))
      rename Fr _ _ _ _ => F26
      rename News _ _ _ _ => N26
      rename IsRange _ _ _ _ _ _ _ _ => R26
      rw [hq] at R26
      have hq6 : q ≤ 6 := by have h6 : n ≤ 6 := hn6; omega
      have hfull : fullOf n size = prodOf ((List.range q).map fun (i : Nat) => 1 + (i : Int)) := by unfold fullOf; rw [hq]; rfl
      have hfl := fac_le q hq6
      rw [← hfull] at hfl
      refine Pure.use (prodrange_ok w _ q _ _ _ hq6) rfl (Nat.le_of_ble_eq_true rfl) (Nat.le_of_ble_eq_true rfl) X1 T1 F26 N26 R26 ?_
      rintro _ h27 tk27 F27 N27 _ ⟨t27, rfl⟩
      rw [← hfull]
      obtain ⟨full, hfu⟩ : ∃ full, fullOf n size = full := ⟨_, rfl⟩
      rw [hfu] at hfl ⊢
      clear hfull hq6
      (try dsimp only)
      (repeat' (first | ((with_reducible refine tokN ?_); intro _) | (k_unfold; (try dsimp only)) | ((with_reducible refine isWp ?_); (fail_if_success (with_reducible first | refine halt 0 (by constructor) ?_ | refine halt 30 (by constructor) ?_)); (first | (walk1; (try dsimp only)) | (dsimp only; walk1))) | ((with_reducible show _ ∧ wpAny _ _ _ _ _ _); (refine And.intro (by first | k_in | exact FnAt_fr (by k_asm) (by assumption) | exact FnAt.of (by k_asm) (by k_mem)) ?_)) | ((fail_if_success (with_reducible refine isWp ?_)); dsimp only)))
      rename Fr _ _ _ _ => F28
      rename News _ _ _ _ => N28
      refine newListV_K F28 N28 (Nat.le_of_ble_eq_true rfl) ?_
      intro Dk h29 F29 N29 hLDk hnDk
      (try dsimp only)
      (repeat' (first | ((with_reducible refine tokN ?_); intro _) | (k_unfold; (try dsimp only)) | ((with_reducible refine isWp ?_); (fail_if_success (with_reducible first | refine halt 0 (by constructor) ?_ | refine halt 30 (by constructor) ?_)); (first | (walk1; (try dsimp only)) | (dsimp only; walk1))) | ((with_reducible show _ ∧ wpAny _ _ _ _ _ _); (refine And.intro (by first | k_in | exact FnAt_fr (by k_asm) (by assumption) | exact FnAt.of (by k_asm) (by k_mem)) ?_)) | ((fail_if_success (with_reducible refine isWp ?_)); dsimp only)))
      rename Fr _ _ _ _ => F30
      rename News _ _ _ _ => N30
      have hDkz := Heap.lt_size (N30 _ (.head _)).1
      dsimp only at hDkz
      refine Pure.use (parts_ok w 6 n n _ _ hn6 (by decide) hn6) rfl (Nat.le_of_ble_eq_true rfl) (Nat.le_of_ble_eq_true rfl) X1 T1 F30 N30 trivial ?_
      rintro _ h31 tk31 F31 N31 hk31 ⟨Dp, ep, prs, rfl, hzDp, hDpg, hprs, hprz⟩
      (try dsimp only)
      (repeat' (first | ((with_reducible refine tokN ?_); intro _) | (k_unfold; (try dsimp only)) | ((with_reducible refine isWp ?_); (fail_if_success (with_reducible first | refine halt 0 (by constructor) ?_ | refine halt 30 (by constructor) ?_)); (first | (walk1; (try dsimp only)) | (dsimp only; walk1))) | ((with_reducible show _ ∧ wpAny _ _ _ _ _ _); (refine And.intro (by first | k_in | exact FnAt_fr (by k_asm) (by assumption) | exact FnAt.of (by k_asm) (by k_mem)) ?_)) | ((fail_if_success (with_reducible refine isWp ?_)); dsimp only)))
      have hDpn := fresh_news F30 hzDp hDpg
      have hprD : ∀ p ∈ prs, Dk < p.1 := fun p hp => Nat.lt_of_lt_of_le hDkz (hprz p hp).1
      have NP : News g L h31 prs := fun p hp => fresh_news F30 (hprz p hp).1 (hprz p hp).2
      have hlpr := hprs.length
      have hpl11 := (parts_len 7 n n (by decide) hn6 hn6 (Nat.le_succ_of_le hn6)).1
      have hFixD : ∀ p ∈ (L + 1 + 1 + 1 + 1 + 1, o5') :: (L + 1 + 1, o2') :: (L + 1 + 1 + 1, o3') :: (L + 1 + 1 + 1 + 1, o4') :: (Ds, lst (refsOf rs)) :: (De, W.listOf (v5.drop ee).toArray 0) :: (rs ++ prs), p.1 ≠ Dk := by
        ((repeat (first | exact List.forall_mem_nil _ | (refine List.forall_mem_cons.mpr ⟨?_, ?_⟩; focus (first | exact Nat.ne_of_lt (hnDk _ (by (with_reducible ((repeat (first | exact List.mem_cons_self | refine List.mem_cons_of_mem _ ?_ | (refine List.mem_append_left _ ?_; ((repeat (first | exact List.mem_cons_self | refine List.mem_cons_of_mem _ ?_ | assumption)); (first | done | fail "m"))) | refine List.mem_append_right _ ?_ | assumption)); (first | done | fail "m"))))) | exact Nat.ne_of_gt (hprD p hp))) | (refine List.forall_mem_append.mpr ⟨?_, ?_⟩; focus (intro p hp; first | exact Nat.ne_of_lt (hnDk _ (by (with_reducible ((repeat (first | exact List.mem_cons_self | refine List.mem_cons_of_mem _ ?_ | (refine List.mem_append_left _ ?_; ((repeat (first | exact List.mem_cons_self | refine List.mem_cons_of_mem _ ?_ | assumption)); (first | done | fail "m"))) | refine List.mem_append_right _ ?_ | assumption)); (first | done | fail "m"))))) | exact Nat.ne_of_gt (hprD p hp))) | (intro p hp; first | exact Nat.ne_of_lt (hnDk _ (by (with_reducible ((repeat (first | exact List.mem_cons_self | refine List.mem_cons_of_mem _ ?_ | (refine List.mem_append_left _ ?_; ((repeat (first | exact List.mem_cons_self | refine List.mem_cons_of_mem _ ?_ | assumption)); (first | done | fail "m"))) | refine List.mem_append_right _ ?_ | assumption)); (first | done | fail "m"))))) | exact Nat.ne_of_gt (hprD p hp)))); (first | done | fail "m"))
      refine iter_list2 (env := envOfC _ _ L _ _) (fun m₀ i m news => ∃ tv e tlc, news = (Dk, W.listOf tv.toArray e) :: (L + 1 + 1 + 1 + 1 + 1, o5') :: (L + 1 + 1, o2') :: (L + 1 + 1 + 1, o3') :: (L + 1 + 1 + 1 + 1, o4') :: (Ds, lst (refsOf rs)) :: (De, W.listOf (v5.drop ee).toArray 0) :: (tlc ++ (rs ++ prs)) ∧
        (∀ y, y ≠ Str.ofString "parts" → y ≠ Str.ofString "hooks" → y ≠ Str.ofString "kept" → y ≠ Str.ofString "times" → y ≠ Str.ofString "rest" → m y = m₀ y) ∧ IntsAre tv ((toldsOf (endsAll.drop ee) n size y u).take i) ∧ Tabs tlc ∧
        (∀ p ∈ (L + 1 + 1 + 1 + 1 + 1, o5') :: (L + 1 + 1, o2') :: (L + 1 + 1 + 1, o3') :: (L + 1 + 1 + 1 + 1, o4') :: (Ds, lst (refsOf rs)) :: (De, W.listOf (v5.drop ee).toArray 0) :: (rs ++ prs), ∀ q ∈ tlc, p.1 ≠ q.1) ∧ (∀ q ∈ tlc, Dk ≠ q.1)) rfl ⟨_, hDpg, rfl, ep, rfl⟩ hDpn.2.1 F31
        (news := (Dk, W.listOf #[] 0) :: (L + 1 + 1 + 1 + 1 + 1, o5') :: (L + 1 + 1, o2') :: (L + 1 + 1 + 1, o3') :: (L + 1 + 1 + 1 + 1, o4') :: (Ds, lst (refsOf rs)) :: (De, W.listOf (v5.drop ee).toArray 0) :: (tlc ++ (rs ++ prs))) ?_ ⟨[], 0, tlc, rfl, fun _ _ _ _ _ _ => rfl, .nil, hTc, ?_, ?_⟩ ?_ ?_
      · ((repeat (first | exact List.forall_mem_nil _ | (refine List.forall_mem_cons.mpr ⟨?_, ?_⟩; focus (first | exact N31 _ (by (with_reducible ((repeat (first | exact List.mem_cons_self | refine List.mem_cons_of_mem _ ?_ | (refine List.mem_append_left _ ?_; ((repeat (first | exact List.mem_cons_self | refine List.mem_cons_of_mem _ ?_ | assumption)); (first | done | fail "m"))) | refine List.mem_append_right _ ?_ | assumption)); (first | done | fail "m")))) | exact NP p hp)) | (refine List.forall_mem_append.mpr ⟨?_, ?_⟩; focus (intro p hp; first | exact N31 _ (by (with_reducible ((repeat (first | exact List.mem_cons_self | refine List.mem_cons_of_mem _ ?_ | (refine List.mem_append_left _ ?_; ((repeat (first | exact List.mem_cons_self | refine List.mem_cons_of_mem _ ?_ | assumption)); (first | done | fail "m"))) | refine List.mem_append_right _ ?_ | assumption)); (first | done | fail "m")))) | exact NP p hp)) | (intro p hp; first | exact N31 _ (by (with_reducible ((repeat (first | exact List.mem_cons_self | refine List.mem_cons_of_mem _ ?_ | (refine List.mem_append_left _ ?_; ((repeat (first | exact List.mem_cons_self | refine List.mem_cons_of_mem _ ?_ | assumption)); (first | done | fail "m"))) | refine List.mem_append_right _ ?_ | assumption)); (first | done | fail "m")))) | exact NP p hp))); (first | done | fail "m"))
      · ((repeat (first | exact List.forall_mem_nil _ | (refine List.forall_mem_cons.mpr ⟨?_, ?_⟩; focus (first | exact hoff _ (by (with_reducible ((repeat (first | exact List.mem_cons_self | refine List.mem_cons_of_mem _ ?_ | (refine List.mem_append_left _ ?_; ((repeat (first | exact List.mem_cons_self | refine List.mem_cons_of_mem _ ?_ | assumption)); (first | done | fail "m"))) | refine List.mem_append_right _ ?_ | assumption)); (first | done | fail "m")))) | exact hoff (L + 1 + 1 + 1 + 1 + 1, o5) (by (with_reducible ((repeat (first | exact List.mem_cons_self | refine List.mem_cons_of_mem _ ?_ | (refine List.mem_append_left _ ?_; ((repeat (first | exact List.mem_cons_self | refine List.mem_cons_of_mem _ ?_ | assumption)); (first | done | fail "m"))) | refine List.mem_append_right _ ?_ | assumption)); (first | done | fail "m")))) | exact fun q hq e => off1_mem qsr q (by (with_reducible ((repeat (first | exact List.mem_cons_self | refine List.mem_cons_of_mem _ ?_ | (refine List.mem_append_left _ ?_; ((repeat (first | exact List.mem_cons_self | refine List.mem_cons_of_mem _ ?_ | assumption)); (first | done | fail "m"))) | refine List.mem_append_right _ ?_ | assumption)); (first | done | fail "m")))) e.symm | exact fun q hq => Nat.ne_of_gt (Nat.lt_of_lt_of_le (Heap.lt_size (N30 q (by (with_reducible ((repeat (first | exact List.mem_cons_self | refine List.mem_cons_of_mem _ ?_ | (refine List.mem_append_left _ ?_; ((repeat (first | exact List.mem_cons_self | refine List.mem_cons_of_mem _ ?_ | assumption)); (first | done | fail "m"))) | refine List.mem_append_right _ ?_ | assumption)); (first | done | fail "m"))))).1) (hprz p hp).1))) | (refine List.forall_mem_append.mpr ⟨?_, ?_⟩; focus (intro p hp; first | exact hoff _ (by (with_reducible ((repeat (first | exact List.mem_cons_self | refine List.mem_cons_of_mem _ ?_ | (refine List.mem_append_left _ ?_; ((repeat (first | exact List.mem_cons_self | refine List.mem_cons_of_mem _ ?_ | assumption)); (first | done | fail "m"))) | refine List.mem_append_right _ ?_ | assumption)); (first | done | fail "m")))) | exact hoff (L + 1 + 1 + 1 + 1 + 1, o5) (by (with_reducible ((repeat (first | exact List.mem_cons_self | refine List.mem_cons_of_mem _ ?_ | (refine List.mem_append_left _ ?_; ((repeat (first | exact List.mem_cons_self | refine List.mem_cons_of_mem _ ?_ | assumption)); (first | done | fail "m"))) | refine List.mem_append_right _ ?_ | assumption)); (first | done | fail "m")))) | exact fun q hq e => off1_mem qsr q (by (with_reducible ((repeat (first | exact List.mem_cons_self | refine List.mem_cons_of_mem _ ?_ | (refine List.mem_append_left _ ?_; ((repeat (first | exact List.mem_cons_self | refine List.mem_cons_of_mem _ ?_ | assumption)); (first | done | fail "m"))) | refine List.mem_append_right _ ?_ | assumption)); (first | done | fail "m")))) e.symm | exact fun q hq => Nat.ne_of_gt (Nat.lt_of_lt_of_le (Heap.lt_size (N30 q (by (with_reducible ((repeat (first | exact List.mem_cons_self | refine List.mem_cons_of_mem _ ?_ | (refine List.mem_append_left _ ?_; ((repeat (first | exact List.mem_cons_self | refine List.mem_cons_of_mem _ ?_ | assumption)); (first | done | fail "m"))) | refine List.mem_append_right _ ?_ | assumption)); (first | done | fail "m"))))).1) (hprz p hp).1))) | (intro p hp; first | exact hoff _ (by (with_reducible ((repeat (first | exact List.mem_cons_self | refine List.mem_cons_of_mem _ ?_ | (refine List.mem_append_left _ ?_; ((repeat (first | exact List.mem_cons_self | refine List.mem_cons_of_mem _ ?_ | assumption)); (first | done | fail "m"))) | refine List.mem_append_right _ ?_ | assumption)); (first | done | fail "m")))) | exact hoff (L + 1 + 1 + 1 + 1 + 1, o5) (by (with_reducible ((repeat (first | exact List.mem_cons_self | refine List.mem_cons_of_mem _ ?_ | (refine List.mem_append_left _ ?_; ((repeat (first | exact List.mem_cons_self | refine List.mem_cons_of_mem _ ?_ | assumption)); (first | done | fail "m"))) | refine List.mem_append_right _ ?_ | assumption)); (first | done | fail "m")))) | exact fun q hq e => off1_mem qsr q (by (with_reducible ((repeat (first | exact List.mem_cons_self | refine List.mem_cons_of_mem _ ?_ | (refine List.mem_append_left _ ?_; ((repeat (first | exact List.mem_cons_self | refine List.mem_cons_of_mem _ ?_ | assumption)); (first | done | fail "m"))) | refine List.mem_append_right _ ?_ | assumption)); (first | done | fail "m")))) e.symm | exact fun q hq => Nat.ne_of_gt (Nat.lt_of_lt_of_le (Heap.lt_size (N30 q (by (with_reducible ((repeat (first | exact List.mem_cons_self | refine List.mem_cons_of_mem _ ?_ | (refine List.mem_append_left _ ?_; ((repeat (first | exact List.mem_cons_self | refine List.mem_cons_of_mem _ ?_ | assumption)); (first | done | fail "m"))) | refine List.mem_append_right _ ?_ | assumption)); (first | done | fail "m"))))).1) (hprz p hp).1)))); (first | done | fail "m"))
      · intro q hq
        exact Nat.ne_of_gt (hnDk q (by first | (with_reducible ((repeat (first | exact List.mem_cons_self | refine List.mem_cons_of_mem _ ?_ | (refine List.mem_append_left _ ?_; ((repeat (first | exact List.mem_cons_self | refine List.mem_cons_of_mem _ ?_ | assumption)); (first | done | fail "m"))) | refine List.mem_append_right _ ?_ | assumption)); (first | done | fail "m"))) | (rw [hq]; (with_reducible ((repeat (first | exact List.mem_cons_self | refine List.mem_cons_of_mem _ ?_ | (refine List.mem_append_left _ ?_; ((repeat (first | exact List.mem_cons_self | refine List.mem_cons_of_mem _ ?_ | assumption)); (first | done | fail "m"))) | refine List.mem_append_right _ ?_ | assumption)); (first | done | fail "m")))) | simp [hq]))
      · rintro I i v m₁ news₁ h tk own hv ⟨tv, e, tlc, rfl, hm, htv, hTc, hoffT, hoffD⟩ hnI hown hl' ⟨oI, hoI⟩ F32 N32
        refine cutQ fun Qr hQr => ?_
        obtain ⟨p, hpp, rfl⟩ := refs_at hv
        obtain ⟨vsp, e', ps, hpo, hps, hips⟩ := hprs.at i p hpp
        have hpm : p ∈ prs := List.mem_of_getElem? hpp
        have hpsm : ps ∈ partsOf 7 n n := List.mem_of_getElem? hps
        rw [map5 hm] at F32
        generalize m₁ (Str.ofString "parts") = u1 at F32
        generalize m₁ (Str.ofString "hooks") = u2 at F32
        generalize m₁ (Str.ofString "kept") = u3 at F32
        generalize m₁ (Str.ofString "times") = u4 at F32
        generalize m₁ (Str.ofString "rest") = u5 at F32
        clear hm m₁ F31 F30 hv
        replace F32 : Fr g L h _ := F32
        replace N32 : News g L h _ := N32
        (try dsimp only at F32)
        have hDpt : Dp ∉ tlc.map (·.1) := by
          obtain ⟨oDp, e1, _, nn, e2⟩ := hl'
          exact Tabs.off hTc (fun q hq => (N32 q (by first | (with_reducible ((repeat (first | exact List.mem_cons_self | refine List.mem_cons_of_mem _ ?_ | (refine List.mem_append_left _ ?_; ((repeat (first | exact List.mem_cons_self | refine List.mem_cons_of_mem _ ?_ | assumption)); (first | done | fail "m"))) | refine List.mem_append_right _ ?_ | assumption)); (first | done | fail "m"))) | (rw [hq]; (with_reducible ((repeat (first | exact List.mem_cons_self | refine List.mem_cons_of_mem _ ?_ | (refine List.mem_append_left _ ?_; ((repeat (first | exact List.mem_cons_self | refine List.mem_cons_of_mem _ ?_ | assumption)); (first | done | fail "m"))) | refine List.mem_append_right _ ?_ | assumption)); (first | done | fail "m")))) | simp [hq])).1) e1 e2
        (repeat' (first | ((with_reducible refine tokN ?_); intro _) | (k_unfold; (try dsimp only)) | ((with_reducible refine isWp ?_); (fail_if_success (with_reducible first | refine halt 0 (by constructor) ?_ | refine halt 30 (by constructor) ?_)); (first | (walk1; (try dsimp only)) | (dsimp only; walk1))) | ((with_reducible show _ ∧ wpAny _ _ _ _ _ _); (refine And.intro (by first | k_in | exact FnAt_fr (by k_asm) (by assumption) | exact FnAt.of (by k_asm) (by k_mem)) ?_)) | ((fail_if_success (with_reducible refine isWp ?_)); dsimp only)))
        rename Fr _ _ _ _ => F33
        rename News _ _ _ _ => N33a
        have N33 : News g L _ ((L + 1 + 1 + 1 + 1 + 1, o5') :: (L + 1 + 1 + 1, o3') :: (L + 1 + 1 + 1 + 1, o4') :: (Ds, lst (refsOf rs)) :: (De, W.listOf (v5.drop ee).toArray 0) :: (Dk, W.listOf tv.toArray e) :: (L + 1 + 1, o2') :: (tlc ++ (rs ++ (prs ++ own)))) := newsSub N33a (fun p hp => by
          revert p; ((repeat (first | exact List.forall_mem_nil _ | (refine List.forall_mem_cons.mpr ⟨?_, ?_⟩; focus ((with_reducible ((repeat (first | exact List.mem_cons_self | refine List.mem_cons_of_mem _ ?_ | (refine List.mem_append_left _ ?_; ((repeat (first | exact List.mem_cons_self | refine List.mem_cons_of_mem _ ?_ | assumption)); (first | done | fail "m"))) | refine List.mem_append_right _ ?_ | assumption)); (first | done | fail "m"))))) | (refine List.forall_mem_append.mpr ⟨?_, ?_⟩; focus (intro p hp; (with_reducible ((repeat (first | exact List.mem_cons_self | refine List.mem_cons_of_mem _ ?_ | (refine List.mem_append_left _ ?_; ((repeat (first | exact List.mem_cons_self | refine List.mem_cons_of_mem _ ?_ | assumption)); (first | done | fail "m"))) | refine List.mem_append_right _ ?_ | assumption)); (first | done | fail "m"))))) | (refine List.forall_mem_append.mpr ⟨?_, ?_⟩; focus ((repeat (first | exact List.forall_mem_nil _ | (refine List.forall_mem_cons.mpr ⟨?_, ?_⟩; focus ((with_reducible ((repeat (first | exact List.mem_cons_self | refine List.mem_cons_of_mem _ ?_ | (refine List.mem_append_left _ ?_; ((repeat (first | exact List.mem_cons_self | refine List.mem_cons_of_mem _ ?_ | assumption)); (first | done | fail "m"))) | refine List.mem_append_right _ ?_ | assumption)); (first | done | fail "m"))))))); (first | done | fail "m"))) | (intro p hp; (with_reducible ((repeat (first | exact List.mem_cons_self | refine List.mem_cons_of_mem _ ?_ | (refine List.mem_append_left _ ?_; ((repeat (first | exact List.mem_cons_self | refine List.mem_cons_of_mem _ ?_ | assumption)); (first | done | fail "m"))) | refine List.mem_append_right _ ?_ | assumption)); (first | done | fail "m")))))); (first | done | fail "m")))
        clear N33a
        obtain ⟨hp6, hpb, hqq, hmm, hpg, hrw, hhl, hhb⟩ := hook_facts n ee hn1 hn6 he2 ps hpsm
        have hes3 : ∀ x ∈ endsAll.drop ee, x.length ≤ 2 := fun x hx => (by decide +kernel : ∀ x ∈ endsAll, x.length ≤ 2) x (List.mem_of_mem_drop hx)
        have hesl : (endsAll.drop ee).length = 5 - ee := by rw [List.length_drop]; rfl
        have hpN := (N33 p (by first | (with_reducible ((repeat (first | exact List.mem_cons_self | refine List.mem_cons_of_mem _ ?_ | (refine List.mem_append_left _ ?_; ((repeat (first | exact List.mem_cons_self | refine List.mem_cons_of_mem _ ?_ | assumption)); (first | done | fail "m"))) | refine List.mem_append_right _ ?_ | assumption)); (first | done | fail "m"))) | (rw [hpm]; (with_reducible ((repeat (first | exact List.mem_cons_self | refine List.mem_cons_of_mem _ ?_ | (refine List.mem_append_left _ ?_; ((repeat (first | exact List.mem_cons_self | refine List.mem_cons_of_mem _ ?_ | assumption)); (first | done | fail "m"))) | refine List.mem_append_right _ ?_ | assumption)); (first | done | fail "m")))) | simp [hpm])).1
        rw [hpo] at hpN
        refine Pure.use (hooks_ok w p.1 De vsp (v5.drop ee) ps (endsAll.drop ee) hips (strs_drop hv5 ee) hp6 (by omega) (by omega) hpb hqq hes3 hmm hpg hrw) rfl (Nat.le_of_ble_eq_true rfl) (Nat.le_of_ble_eq_true rfl) X1 T1 F33 N33 ⟨⟨_, hpN, rfl, e', rfl⟩, N33.isList (.tail _ (.tail _ (.tail _ (.tail _ (.head _)))))⟩ ?_
        rintro _ h34 tk34 F34 N34 _ ⟨Dh, hs, eh, rfl, hzDh, hDhg, hhs⟩
        have N35 := news_cons (p := (Dh, _)) (fresh_news F33 hzDh hDhg) N34
        have hDht : ∀ q ∈ tlc, Dh ≠ q.1 := fun q hq => Nat.ne_of_gt (Nat.lt_of_lt_of_le (Heap.lt_size (N33 q (by first | (with_reducible ((repeat (first | exact List.mem_cons_self | refine List.mem_cons_of_mem _ ?_ | (refine List.mem_append_left _ ?_; ((repeat (first | exact List.mem_cons_self | refine List.mem_cons_of_mem _ ?_ | assumption)); (first | done | fail "m"))) | refine List.mem_append_right _ ?_ | assumption)); (first | done | fail "m"))) | (rw [hq]; (with_reducible ((repeat (first | exact List.mem_cons_self | refine List.mem_cons_of_mem _ ?_ | (refine List.mem_append_left _ ?_; ((repeat (first | exact List.mem_cons_self | refine List.mem_cons_of_mem _ ?_ | assumption)); (first | done | fail "m"))) | refine List.mem_append_right _ ?_ | assumption)); (first | done | fail "m")))) | simp [hq])).1) hzDh)
        obtain ⟨hk, hhk⟩ : ∃ hk, hooksOf (endsAll.drop ee) ps = hk := ⟨_, rfl⟩
        replace hhs : IntsAre hs (hooksOf (endsAll.drop ee) ps) := hhs
        obtain ⟨hkl, hkb, hk0, hk1, hkm⟩ := kept_facts n ee size hn1 hn6 he2 hz1 hz2 ps hpsm
        rw [hhk] at hhs hhl hhb hkl hkb hk0 hk1 hkm
        clear F33 N33 N34 hpN hqq hmm hpg hrw
        (try dsimp only)
        (repeat' (first | ((with_reducible refine tokN ?_); intro _) | (k_unfold; (try dsimp only)) | ((with_reducible refine isWp ?_); (fail_if_success (with_reducible first | refine halt 0 (by constructor) ?_ | refine halt 30 (by constructor) ?_)); (first | (walk1; (try dsimp only)) | (dsimp only; walk1))) | ((with_reducible show _ ∧ wpAny _ _ _ _ _ _); (refine And.intro (by first | k_in | exact FnAt_fr (by k_asm) (by assumption) | exact FnAt.of (by k_asm) (by k_mem)) ?_)) | ((fail_if_success (with_reducible refine isWp ?_)); dsimp only)))
        rename News _ _ _ _ => N36
        refine len_ints_fit (N36.isList (.head _)) hhs (by have h6 : n ≤ 6 := hn6; omega) ?_
        rw [hhl]
        (try dsimp only)
        (repeat' (first | ((with_reducible refine tokN ?_); intro _) | (k_unfold; (try dsimp only)) | ((with_reducible refine isWp ?_); (fail_if_success (with_reducible first | refine halt 0 (by constructor) ?_ | refine halt 30 (by constructor) ?_)); (first | (walk1; (try dsimp only)) | (dsimp only; walk1))) | ((with_reducible show _ ∧ wpAny _ _ _ _ _ _); (refine And.intro (by first | k_in | exact FnAt_fr (by k_asm) (by assumption) | exact FnAt.of (by k_asm) (by k_mem)) ?_)) | ((fail_if_success (with_reducible refine isWp ?_)); dsimp only)))
        rw [if_neg (by simp)]
        (repeat' (first | ((with_reducible refine tokN ?_); intro _) | (k_unfold; (try dsimp only)) | ((with_reducible refine isWp ?_); (fail_if_success (with_reducible first | refine halt 0 (by constructor) ?_ | refine halt 30 (by constructor) ?_)); (first | (walk1; (try dsimp only)) | (dsimp only; walk1))) | ((with_reducible show _ ∧ wpAny _ _ _ _ _ _); (refine And.intro (by first | k_in | exact FnAt_fr (by k_asm) (by assumption) | exact FnAt.of (by k_asm) (by k_mem)) ?_)) | ((fail_if_success (with_reducible refine isWp ?_)); dsimp only)))
        rename Fr _ _ _ _ => F37
        rename News _ _ _ _ => N37
        refine max_ints rfl (N37.isList (.head _)) hhs (by omega) fun M h38 tk38 tM hM hk38 => ?_
        have F38 := F37.keeps hk38
        have N38 := N37.grown hk38
        have hMn : M ≤ (n : Int) := (hhb M hM).2
        clear F37 N37
        (try dsimp only)
        (repeat' (first | ((with_reducible refine tokN ?_); intro _) | (k_unfold; (try dsimp only)) | ((with_reducible refine isWp ?_); (fail_if_success (with_reducible first | refine halt 0 (by constructor) ?_ | refine halt 30 (by constructor) ?_)); (first | (walk1; (try dsimp only)) | (dsimp only; walk1))) | ((with_reducible show _ ∧ wpAny _ _ _ _ _ _); (refine And.intro (by first | k_in | exact FnAt_fr (by k_asm) (by assumption) | exact FnAt.of (by k_asm) (by k_mem)) ?_)) | ((fail_if_success (with_reducible refine isWp ?_)); dsimp only)))
        rw [if_neg (by simp; omega)]
        (repeat' (first | ((with_reducible refine tokN ?_); intro _) | (k_unfold; (try dsimp only)) | ((with_reducible refine isWp ?_); (fail_if_success (with_reducible first | refine halt 0 (by constructor) ?_ | refine halt 30 (by constructor) ?_)); (first | (walk1; (try dsimp only)) | (dsimp only; walk1))) | ((with_reducible show _ ∧ wpAny _ _ _ _ _ _); (refine And.intro (by first | k_in | exact FnAt_fr (by k_asm) (by assumption) | exact FnAt.of (by k_asm) (by k_mem)) ?_)) | ((fail_if_success (with_reducible refine isWp ?_)); dsimp only)))
        rw [if_neg (by decide : ¬ (false = true))]
        (repeat' (first | ((with_reducible refine tokN ?_); intro _) | (k_unfold; (try dsimp only)) | ((with_reducible refine isWp ?_); (fail_if_success (with_reducible first | refine halt 0 (by constructor) ?_ | refine halt 30 (by constructor) ?_)); (first | (walk1; (try dsimp only)) | (dsimp only; walk1))) | ((with_reducible show _ ∧ wpAny _ _ _ _ _ _); (refine And.intro (by first | k_in | exact FnAt_fr (by k_asm) (by assumption) | exact FnAt.of (by k_asm) (by k_mem)) ?_)) | ((fail_if_success (with_reducible refine isWp ?_)); dsimp only)))
        rename Fr _ _ _ _ => F39
        refine assign_compO F39 rfl (by with_unfolding_all rfl) (by intro _; with_unfolding_all rfl) (by with_unfolding_all rfl) (by rfl) (by decide) (by rfl) (by rfl) ?_
        (repeat' (first | ((with_reducible refine tokN ?_); intro _) | (k_unfold; (try dsimp only)) | ((with_reducible refine isWp ?_); (fail_if_success (with_reducible first | refine halt 0 (by constructor) ?_ | refine halt 30 (by constructor) ?_)); (first | (walk1; (try dsimp only)) | (dsimp only; walk1))) | ((with_reducible show _ ∧ wpAny _ _ _ _ _ _); (refine And.intro (by first | k_in | exact FnAt_fr (by k_asm) (by assumption) | exact FnAt.of (by k_asm) (by k_mem)) ?_)) | ((fail_if_success (with_reducible refine isWp ?_)); dsimp only)))
        rename Fr _ _ _ _ => F40
        rename News _ _ _ _ => N40
        refine two_comp (its := hs.toArray) (ne := eh) (fun i ys => IntsAre ys (keptOf size (hk.take i))) rfl (by decide) (by rfl) (by rfl) (by rfl) (by decide) (by intro _ _ _; with_unfolding_all rfl) F40 N40 (.head _) .nil (fun i ys hJ => ?_) ?_ ?_
        · rw [hJ.length]
          have := kept_take size hk i
          unfold sizeLine; omega
        · rintro i2 v ys2 I2 oI2 C2 oC2 m2 D2 h41 tk41 E2 hv hJ hC2 hx2 F41 N41
          refine cutQ fun Qr hQr => ?_
          rw [List.getElem?_toArray] at hv
          obtain ⟨hx, th, rfl, hhx⟩ := hhs.at i2 v hv
          obtain ⟨hx1, hx2b⟩ := hhb hx (List.mem_of_getElem? hhx)
          (repeat' (first | ((with_reducible refine tokN ?_); intro _) | (k_unfold; (try dsimp only)) | ((with_reducible refine isWp ?_); (fail_if_success (with_reducible first | refine halt 0 (by constructor) ?_ | refine halt 30 (by constructor) ?_)); (first | (walk1; (try dsimp only)) | (dsimp only; walk1))) | ((with_reducible show _ ∧ wpAny _ _ _ _ _ _); (refine And.intro (by first | k_in | exact FnAt_fr (by k_asm) (by assumption) | exact FnAt.of (by k_asm) (by k_mem)) ?_)) | ((fail_if_success (with_reducible refine isWp ?_)); dsimp only)))
          rename Fr _ _ _ _ => F43
          rename News _ _ _ _ => N43
          obtain ⟨xi, hxi⟩ : ∃ xi : Nat, hx = (xi : Int) + 1 := ⟨(hx - 1).toNat, by omega⟩
          subst hxi
          rw [show (xi : Int) + 1 - 1 = (xi : Int) by omega]
          have hrl := hrs.length
          rw [List.length_map, List.length_range] at hrl
          have hxl : xi < rs.length := by omega
          obtain ⟨vsr, er, psr, hro, hrps, hri⟩ := hrs.at xi rs[xi] (List.getElem?_eq_getElem hxl)
          rw [List.getElem?_map, List.getElem?_range (by omega)] at hrps
          have hpsr : psr = shareOf size ((xi : Int) + 1) := by
            rw [← Option.some.inj hrps, Int.add_comm]
          subst hpsr
          refine item_val (x := .ref (rs[xi]).1) (N43.isList (.tail _ (.tail _ (.tail _ (.tail _ (.tail _ (.tail _ (.tail _ (.head _))))))))) (by omega) (by have h6 : n ≤ 6 := hn6; omega) (by rw [Int.toNat_natCast, List.getElem?_toArray]; unfold refsOf; rw [List.getElem?_map, List.getElem?_eq_getElem hxl]; rfl) ?_
          have hrm : rs[xi] ∈ rs := List.getElem_mem hxl
          refine hQr _ _ ?_
          refine ⟨(rs[xi]).1, vsr, er, _, _, rfl, ?_, ?_, rfl, F43, N43⟩
          · rw [← hro]
            show rs[xi] ∈ _
            simp [hrm]
          · rw [kept_succ size hk i2 _ hhx]
            exact hJ.append hri
        · intro ys2 hJ
          rw [List.size_toArray, hhs.length, List.take_length] at hJ
          obtain ⟨kl, hkl2⟩ : ∃ kl, keptOf size hk = kl := ⟨_, rfl⟩
          have htold : (toldsOf (endsAll.drop ee) n size y u).take (i + 1) = (toldsOf (endsAll.drop ee) n size y u).take i ++ [toldOf full y u kl] := by
            rw [List.take_add_one]
            unfold toldsOf
            rw [List.getElem?_map, hps]
            show _ ++ [toldOf (fullOf n size) y u (keptOf size (hooksOf (endsAll.drop ee) ps))] = _
            rw [hfu, hhk, hkl2]
          rw [hkl2] at hJ hkl hkb hk0 hk1 hkm
          rw [hfu] at hkm
          intro Dq h42 tk42 F42 N42 o42
          (try clear F40 N40)
          dsimp only
          (repeat' (first | ((with_reducible refine tokN ?_); intro _) | (k_unfold; (try dsimp only)) | ((with_reducible refine isWp ?_); (fail_if_success (with_reducible first | refine halt 0 (by constructor) ?_ | refine halt 30 (by constructor) ?_)); (first | (walk1; (try dsimp only)) | (dsimp only; walk1))) | ((with_reducible show _ ∧ wpAny _ _ _ _ _ _); (refine And.intro (by first | k_in | exact FnAt_fr (by k_asm) (by assumption) | exact FnAt.of (by k_asm) (by k_mem)) ?_)) | ((fail_if_success (with_reducible refine isWp ?_)); dsimp only)))
          rename Fr _ _ _ _ => F43
          rename News _ _ _ _ => N43
          refine Pure.use (product_ok w Dq ys2 kl hJ (fun x hx => by have := hkb x hx; omega)) rfl (Nat.le_of_ble_eq_true rfl) (Nat.le_of_ble_eq_true rfl) X1 T1 F43 N43 (N43.isList (.head _)) ?_
          rintro _ h44 tk44 F44 N44 _ ⟨t44, rfl⟩
          obtain ⟨K, hK⟩ : ∃ K, prodOf kl = K := ⟨_, rfl⟩
          rw [show List.foldl (fun x1 x2 => x1 * x2) 1 kl = K from hK]
          rw [hK] at hk0 hk1 hkm
          (try dsimp only)
          (repeat' (first | ((with_reducible refine tokN ?_); intro _) | (k_unfold; (try dsimp only)) | ((with_reducible refine isWp ?_); (fail_if_success (with_reducible first | refine halt 0 (by constructor) ?_ | refine halt 30 (by constructor) ?_)); (first | (walk1; (try dsimp only)) | (dsimp only; walk1))) | ((with_reducible show _ ∧ wpAny _ _ _ _ _ _); (refine And.intro (by first | k_in | exact FnAt_fr (by k_asm) (by assumption) | exact FnAt.of (by k_asm) (by k_mem)) ?_)) | ((fail_if_success (with_reducible refine isWp ?_)); dsimp only)))
          rename Fr _ _ _ _ => F45
          rename News _ _ _ _ => N45
          have hlt45 : ∀ p ∈ (Dk, W.listOf tv.toArray e) :: own, p.1 < _ := fun p hp => Heap.lt_size (N45 p (by rcases List.mem_cons.mp hp with h | h <;> simp [h])).1
          refine (intdivmod_ok w full K t27 t44 (by omega) (by omega) hk0 hk1).use (tl := tlc) (news := (Dq, lst ys2) :: (Dh, W.listOf hs.toArray eh) :: (L + 1 + 1 + 1 + 1 + 1, o5') :: (L + 1 + 1 + 1, o3') :: (L + 1 + 1 + 1 + 1, o4') :: (Ds, lst (refsOf rs)) :: (De, W.listOf (v5.drop ee).toArray 0) :: (Dk, W.listOf tv.toArray e) :: (L + 1 + 1, o2') :: (rs ++ (prs ++ own))) rfl (Nat.le_of_ble_eq_true rfl) (Nat.le_of_ble_eq_true rfl) X1 T1 F45 (newsSub N45 ?_) hTc ?_ trivial ?_
          · intro p hp
            revert p; ((repeat (first | exact List.forall_mem_nil _ | (refine List.forall_mem_cons.mpr ⟨?_, ?_⟩; focus ((with_reducible ((repeat (first | exact List.mem_cons_self | refine List.mem_cons_of_mem _ ?_ | (refine List.mem_append_left _ ?_; ((repeat (first | exact List.mem_cons_self | refine List.mem_cons_of_mem _ ?_ | assumption)); (first | done | fail "m"))) | refine List.mem_append_right _ ?_ | assumption)); (first | done | fail "m"))))) | (refine List.forall_mem_append.mpr ⟨?_, ?_⟩; focus (intro p hp; (with_reducible ((repeat (first | exact List.mem_cons_self | refine List.mem_cons_of_mem _ ?_ | (refine List.mem_append_left _ ?_; ((repeat (first | exact List.mem_cons_self | refine List.mem_cons_of_mem _ ?_ | assumption)); (first | done | fail "m"))) | refine List.mem_append_right _ ?_ | assumption)); (first | done | fail "m"))))) | (refine List.forall_mem_append.mpr ⟨?_, ?_⟩; focus ((repeat (first | exact List.forall_mem_nil _ | (refine List.forall_mem_cons.mpr ⟨?_, ?_⟩; focus ((with_reducible ((repeat (first | exact List.mem_cons_self | refine List.mem_cons_of_mem _ ?_ | (refine List.mem_append_left _ ?_; ((repeat (first | exact List.mem_cons_self | refine List.mem_cons_of_mem _ ?_ | assumption)); (first | done | fail "m"))) | refine List.mem_append_right _ ?_ | assumption)); (first | done | fail "m"))))))); (first | done | fail "m"))) | (intro p hp; (with_reducible ((repeat (first | exact List.mem_cons_self | refine List.mem_cons_of_mem _ ?_ | (refine List.mem_append_left _ ?_; ((repeat (first | exact List.mem_cons_self | refine List.mem_cons_of_mem _ ?_ | assumption)); (first | done | fail "m"))) | refine List.mem_append_right _ ?_ | assumption)); (first | done | fail "m")))))); (first | done | fail "m"))
          · ((repeat (first | exact List.forall_mem_nil _ | (refine List.forall_mem_cons.mpr ⟨?_, ?_⟩; focus (first | exact hoffT _ (by (with_reducible ((repeat (first | exact List.mem_cons_self | refine List.mem_cons_of_mem _ ?_ | (refine List.mem_append_left _ ?_; ((repeat (first | exact List.mem_cons_self | refine List.mem_cons_of_mem _ ?_ | assumption)); (first | done | fail "m"))) | refine List.mem_append_right _ ?_ | assumption)); (first | done | fail "m")))) | exact hDht | exact hoffD | exact fun q hq e2 => off1_mem o42 q (by (with_reducible ((repeat (first | exact List.mem_cons_self | refine List.mem_cons_of_mem _ ?_ | (refine List.mem_append_left _ ?_; ((repeat (first | exact List.mem_cons_self | refine List.mem_cons_of_mem _ ?_ | assumption)); (first | done | fail "m"))) | refine List.mem_append_right _ ?_ | assumption)); (first | done | fail "m")))) e2.symm | exact fun q hq e3 => (hown p hp).elim (fun e2 => hnI q (by (with_reducible ((repeat (first | exact List.mem_cons_self | refine List.mem_cons_of_mem _ ?_ | (refine List.mem_append_left _ ?_; ((repeat (first | exact List.mem_cons_self | refine List.mem_cons_of_mem _ ?_ | assumption)); (first | done | fail "m"))) | refine List.mem_append_right _ ?_ | assumption)); (first | done | fail "m")))) (e3.symm.trans e2)) (fun e2 => hDpt (List.mem_map.mpr ⟨q, hq, e3.symm.trans e2⟩)))) | (refine List.forall_mem_append.mpr ⟨?_, ?_⟩; focus (intro p hp; first | exact hoffT _ (by (with_reducible ((repeat (first | exact List.mem_cons_self | refine List.mem_cons_of_mem _ ?_ | (refine List.mem_append_left _ ?_; ((repeat (first | exact List.mem_cons_self | refine List.mem_cons_of_mem _ ?_ | assumption)); (first | done | fail "m"))) | refine List.mem_append_right _ ?_ | assumption)); (first | done | fail "m")))) | exact hDht | exact hoffD | exact fun q hq e2 => off1_mem o42 q (by (with_reducible ((repeat (first | exact List.mem_cons_self | refine List.mem_cons_of_mem _ ?_ | (refine List.mem_append_left _ ?_; ((repeat (first | exact List.mem_cons_self | refine List.mem_cons_of_mem _ ?_ | assumption)); (first | done | fail "m"))) | refine List.mem_append_right _ ?_ | assumption)); (first | done | fail "m")))) e2.symm | exact fun q hq e3 => (hown p hp).elim (fun e2 => hnI q (by (with_reducible ((repeat (first | exact List.mem_cons_self | refine List.mem_cons_of_mem _ ?_ | (refine List.mem_append_left _ ?_; ((repeat (first | exact List.mem_cons_self | refine List.mem_cons_of_mem _ ?_ | assumption)); (first | done | fail "m"))) | refine List.mem_append_right _ ?_ | assumption)); (first | done | fail "m")))) (e3.symm.trans e2)) (fun e2 => hDpt (List.mem_map.mpr ⟨q, hq, e3.symm.trans e2⟩)))) | (intro p hp; first | exact hoffT _ (by (with_reducible ((repeat (first | exact List.mem_cons_self | refine List.mem_cons_of_mem _ ?_ | (refine List.mem_append_left _ ?_; ((repeat (first | exact List.mem_cons_self | refine List.mem_cons_of_mem _ ?_ | assumption)); (first | done | fail "m"))) | refine List.mem_append_right _ ?_ | assumption)); (first | done | fail "m")))) | exact hDht | exact hoffD | exact fun q hq e2 => off1_mem o42 q (by (with_reducible ((repeat (first | exact List.mem_cons_self | refine List.mem_cons_of_mem _ ?_ | (refine List.mem_append_left _ ?_; ((repeat (first | exact List.mem_cons_self | refine List.mem_cons_of_mem _ ?_ | assumption)); (first | done | fail "m"))) | refine List.mem_append_right _ ?_ | assumption)); (first | done | fail "m")))) e2.symm | exact fun q hq e3 => (hown p hp).elim (fun e2 => hnI q (by (with_reducible ((repeat (first | exact List.mem_cons_self | refine List.mem_cons_of_mem _ ?_ | (refine List.mem_append_left _ ?_; ((repeat (first | exact List.mem_cons_self | refine List.mem_cons_of_mem _ ?_ | assumption)); (first | done | fail "m"))) | refine List.mem_append_right _ ?_ | assumption)); (first | done | fail "m")))) (e3.symm.trans e2)) (fun e2 => hDpt (List.mem_map.mpr ⟨q, hq, e3.symm.trans e2⟩))))); (first | done | fail "m"))
          rintro _ h46 tk46 tl3 F46 N46 hT3 hoff3 hk46 ha3 ⟨T, v1, v2, rfl, hzT, hTg⟩
          rw [hkm] at hTg
          have hTn := fresh_news F45 hzT hTg
          obtain ⟨tm, htm⟩ : ∃ tm, full.fdiv K = tm := ⟨_, rfl⟩
          rw [htm] at hTg hTn
          have htm0 : 0 ≤ tm := by rw [← htm, Int.fdiv_eq_ediv_of_nonneg _ (by omega)]; exact Int.ediv_nonneg (by omega) (by omega)
          have htm1 : tm ≤ 720 := by
            rw [← htm, Int.fdiv_eq_ediv_of_nonneg _ (by omega)]
            exact Int.le_trans (Int.ediv_le_self K (by omega)) hfl.2
          have hTDk : T ≠ Dk := Nat.ne_of_gt (Nat.lt_of_lt_of_le (hlt45 _ (.head _)) hzT)
          have hTI : T ≠ I := Nat.ne_of_gt (Nat.lt_of_lt_of_le (hlt45 (I, oI) (.tail _ hoI)) hzT)
          have N47 : News g L h46 ((T, { cls := .type "tuple", data := .seq #[.int tm v1, .int 0 v2] }) :: (Dq, lst ys2) :: (L + 1 + 1 + 1 + 1 + 1, o5') :: (L + 1 + 1 + 1, o3') :: (L + 1 + 1 + 1 + 1, o4') :: (Dk, W.listOf tv.toArray e) :: (Ds, lst (refsOf rs)) :: (De, W.listOf (v5.drop ee).toArray 0) :: (L + 1 + 1, o2') :: (tl3 ++ (rs ++ (prs ++ own)))) := by
            ((repeat (first | exact List.forall_mem_nil _ | (refine List.forall_mem_cons.mpr ⟨?_, ?_⟩; focus (first | exact hTn | exact N46 _ (by (with_reducible ((repeat (first | exact List.mem_cons_self | refine List.mem_cons_of_mem _ ?_ | (refine List.mem_append_left _ ?_; ((repeat (first | exact List.mem_cons_self | refine List.mem_cons_of_mem _ ?_ | assumption)); (first | done | fail "m"))) | refine List.mem_append_right _ ?_ | assumption)); (first | done | fail "m")))))) | (refine List.forall_mem_append.mpr ⟨?_, ?_⟩; focus (intro p hp; first | exact hTn | exact N46 _ (by (with_reducible ((repeat (first | exact List.mem_cons_self | refine List.mem_cons_of_mem _ ?_ | (refine List.mem_append_left _ ?_; ((repeat (first | exact List.mem_cons_self | refine List.mem_cons_of_mem _ ?_ | assumption)); (first | done | fail "m"))) | refine List.mem_append_right _ ?_ | assumption)); (first | done | fail "m")))))) | (intro p hp; first | exact hTn | exact N46 _ (by (with_reducible ((repeat (first | exact List.mem_cons_self | refine List.mem_cons_of_mem _ ?_ | (refine List.mem_append_left _ ?_; ((repeat (first | exact List.mem_cons_self | refine List.mem_cons_of_mem _ ?_ | assumption)); (first | done | fail "m"))) | refine List.mem_append_right _ ?_ | assumption)); (first | done | fail "m"))))))); (first | done | fail "m"))
          clear N45 F45 N46
          dsimp only
          (repeat' (first | ((with_reducible refine tokN ?_); intro _) | (k_unfold; (try dsimp only)) | ((with_reducible refine isWp ?_); (fail_if_success (with_reducible first | refine halt 0 (by constructor) ?_ | refine halt 30 (by constructor) ?_)); (first | (walk1; (try dsimp only)) | (dsimp only; walk1))) | ((with_reducible show _ ∧ wpAny _ _ _ _ _ _); (refine And.intro (by first | k_in | exact FnAt_fr (by k_asm) (by assumption) | exact FnAt.of (by k_asm) (by k_mem)) ?_)) | ((fail_if_success (with_reducible refine isWp ?_)); dsimp only)))
          rw [if_neg (by decide)]
          (repeat' (first | ((with_reducible refine tokN ?_); intro _) | (k_unfold; (try dsimp only)) | ((with_reducible refine isWp ?_); (fail_if_success (with_reducible first | refine halt 0 (by constructor) ?_ | refine halt 30 (by constructor) ?_)); (first | (walk1; (try dsimp only)) | (dsimp only; walk1))) | ((with_reducible show _ ∧ wpAny _ _ _ _ _ _); (refine And.intro (by first | k_in | exact FnAt_fr (by k_asm) (by assumption) | exact FnAt.of (by k_asm) (by k_mem)) ?_)) | ((fail_if_success (with_reducible refine isWp ?_)); dsimp only)))
          rename Fr _ _ _ _ => F48
          refine LCg.ListComp_U F48 (by with_unfolding_all rfl) (by decide) (by rfl) (by decide) (by rfl) ?_ (by intro _; with_unfolding_all rfl)
          (repeat' (first | ((with_reducible refine tokN ?_); intro _) | (k_unfold; (try dsimp only)) | ((with_reducible refine isWp ?_); (fail_if_success (with_reducible first | refine halt 0 (by constructor) ?_ | refine halt 30 (by constructor) ?_)); (first | (walk1; (try dsimp only)) | (dsimp only; walk1))) | ((with_reducible show _ ∧ wpAny _ _ _ _ _ _); (refine And.intro (by first | k_in | exact FnAt_fr (by k_asm) (by assumption) | exact FnAt.of (by k_asm) (by k_mem)) ?_)) | ((fail_if_success (with_reducible refine isWp ?_)); dsimp only)))
          rename Fr _ _ _ _ => F49
          rename News _ _ _ _ => N49
          refine LCg.CompSrc.ledger rfl F49 N49 (.tail _ (.head _)) (by rw [List.size_toArray, hJ.length]; unfold sizeLine; omega) ?_
          intro g50
          have hyl2 : ys2.length = kl.length := hJ.length
          refine CompRest.inv (fun j ys3 news3 => news3 = _ ∧ IntsAre ys3 ((kl.take j).map fun s => y * (s * s - u))) ?_ ?_ _ 0 [] _ (Nat.zero_add _) ⟨rfl, .nil⟩
          · rintro j ys3 news3 v I3 oI3 C3 oC3 D3 m3 h51 tk51 E3 hj ⟨rfl, hys3⟩ hv hC3 hx3 F51 N51 off3 ne3
            refine cutQ fun Qr hQr => ?_
            rw [List.getElem?_toArray] at hv
            obtain ⟨sv, ts, rfl, hsv⟩ := hJ.at j v hv
            obtain ⟨hs1, hs2⟩ := hkb sv (List.mem_of_getElem? hsv)
            (repeat' (first | ((with_reducible refine tokN ?_); intro _) | (k_unfold; (try dsimp only)) | ((with_reducible refine isWp ?_); (fail_if_success (with_reducible first | refine halt 0 (by constructor) ?_ | refine halt 30 (by constructor) ?_)); (first | (walk1; (try dsimp only)) | (dsimp only; walk1))) | ((with_reducible show _ ∧ wpAny _ _ _ _ _ _); (refine And.intro (by first | k_in | exact FnAt_fr (by k_asm) (by assumption) | exact FnAt.of (by k_asm) (by k_mem)) ?_)) | ((fail_if_success (with_reducible refine isWp ?_)); dsimp only)))
            rename Fr _ _ _ _ => F52
            rename News _ _ _ _ => N52
            refine hQr _ _ ?_
            refine LCg.CompEnd.intro F52 N52 _ (fun p hp => hp) off3 (.inr ⟨_, .tail _ (.head _), rfl, _, rfl⟩) ⟨rfl, ?_⟩
            rw [List.take_add_one, hsv, List.map_append]
            exact hys3.append (.cons _ _ .nil)
          · rintro ys3 news3 ⟨rfl, hys3⟩
            rw [List.size_toArray, hyl2, List.take_length] at hys3
            intro Dm h53 tk53 F53 N53 o53
            dsimp only
            (repeat' (first | ((with_reducible refine tokN ?_); intro _) | (k_unfold; (try dsimp only)) | ((with_reducible refine isWp ?_); (fail_if_success (with_reducible first | refine halt 0 (by constructor) ?_ | refine halt 30 (by constructor) ?_)); (first | (walk1; (try dsimp only)) | (dsimp only; walk1))) | ((with_reducible show _ ∧ wpAny _ _ _ _ _ _); (refine And.intro (by first | k_in | exact FnAt_fr (by k_asm) (by assumption) | exact FnAt.of (by k_asm) (by k_mem)) ?_)) | ((fail_if_success (with_reducible refine isWp ?_)); dsimp only)))
            rename Fr _ _ _ _ => F54
            rename News _ _ _ _ => N54
            have hb54 : ∀ x ∈ kl.map (fun s => y * (s * s - u)), -(2 ^ 63) < x ∧ x < 2 ^ 63 := by
              intro x hx
              obtain ⟨s9, hs9, rfl⟩ := List.mem_map.mp hx
              obtain ⟨hs1, hs2⟩ := hkb s9 hs9
              have hss : (s9 * s9).natAbs ≤ 6 * 6 := mulb (by omega) (by omega)
              have hyy : (y * (s9 * s9 - u)).natAbs ≤ 20 * 46 := mulb (by omega) (by omega)
              omega
            refine Pure.use (product_ok w Dm ys3 _ hys3 hb54) rfl (Nat.le_of_ble_eq_true rfl) (Nat.le_of_ble_eq_true rfl) X1 T1 F54 N54 (N54.isList (.head _)) ?_
            rintro _ h55 tk55 F55 N55 _ ⟨t55, rfl⟩
            obtain ⟨P, hP⟩ : ∃ P, prodOf (kl.map fun s => y * (s * s - u)) = P := ⟨_, rfl⟩
            rw [show List.foldl (fun x1 x2 => x1 * x2) 1 (kl.map fun s => y * (s * s - u)) = P from hP]
            have htt : (tm * tm).natAbs ≤ 720 * 720 := mulb (by omega) (by omega)
            have hval : toldOf full y u kl = tm * tm * P := by unfold toldOf; rw [hK, htm, hP]
            rw [hval] at htold
            (try dsimp only)
            (repeat' (first | ((with_reducible refine tokN ?_); intro _) | (k_unfold; (try dsimp only)) | ((with_reducible refine isWp ?_); (fail_if_success (with_reducible first | refine halt 0 (by constructor) ?_ | refine halt 30 (by constructor) ?_)); (first | (walk1; (try dsimp only)) | (dsimp only; walk1))) | ((with_reducible show _ ∧ wpAny _ _ _ _ _ _); (refine And.intro (by first | k_in | exact FnAt_fr (by k_asm) (by assumption) | exact FnAt.of (by k_asm) (by k_mem)) ?_)) | ((fail_if_success (with_reducible refine isWp ?_)); dsimp only)))
            rename Fr _ _ _ _ => F55b
            rename News _ _ _ _ => N55b
            have N56 : News g L _ ((Dk, W.listOf tv.toArray e) :: (L + 1 + 1 + 1 + 1 + 1, o5') :: (L + 1 + 1, o2') :: (L + 1 + 1 + 1, o3') :: (L + 1 + 1 + 1 + 1, o4') :: (Ds, lst (refsOf rs)) :: (De, W.listOf (v5.drop ee).toArray 0) :: (tl3 ++ (rs ++ (prs ++ own)))) := newsSub N55b (fun p hp => by
              revert p; ((repeat (first | exact List.forall_mem_nil _ | (refine List.forall_mem_cons.mpr ⟨?_, ?_⟩; focus ((with_reducible ((repeat (first | exact List.mem_cons_self | refine List.mem_cons_of_mem _ ?_ | (refine List.mem_append_left _ ?_; ((repeat (first | exact List.mem_cons_self | refine List.mem_cons_of_mem _ ?_ | assumption)); (first | done | fail "m"))) | refine List.mem_append_right _ ?_ | assumption)); (first | done | fail "m"))))) | (refine List.forall_mem_append.mpr ⟨?_, ?_⟩; focus (intro p hp; (with_reducible ((repeat (first | exact List.mem_cons_self | refine List.mem_cons_of_mem _ ?_ | (refine List.mem_append_left _ ?_; ((repeat (first | exact List.mem_cons_self | refine List.mem_cons_of_mem _ ?_ | assumption)); (first | done | fail "m"))) | refine List.mem_append_right _ ?_ | assumption)); (first | done | fail "m"))))) | (refine List.forall_mem_append.mpr ⟨?_, ?_⟩; focus ((repeat (first | exact List.forall_mem_nil _ | (refine List.forall_mem_cons.mpr ⟨?_, ?_⟩; focus ((with_reducible ((repeat (first | exact List.mem_cons_self | refine List.mem_cons_of_mem _ ?_ | (refine List.mem_append_left _ ?_; ((repeat (first | exact List.mem_cons_self | refine List.mem_cons_of_mem _ ?_ | assumption)); (first | done | fail "m"))) | refine List.mem_append_right _ ?_ | assumption)); (first | done | fail "m"))))))); (first | done | fail "m"))) | (intro p hp; (with_reducible ((repeat (first | exact List.mem_cons_self | refine List.mem_cons_of_mem _ ?_ | (refine List.mem_append_left _ ?_; ((repeat (first | exact List.mem_cons_self | refine List.mem_cons_of_mem _ ?_ | assumption)); (first | done | fail "m"))) | refine List.mem_append_right _ ?_ | assumption)); (first | done | fail "m")))))); (first | done | fail "m")))
            have htvl : tv.length ≤ 11 := by
              rw [htv.length, List.length_take]
              have : (toldsOf (endsAll.drop ee) n size y u).length = (partsOf 7 n n).length := by unfold toldsOf; rw [List.length_map]
              omega
            refine append_head F55b N56 ?_ ?_ (by rw [List.size_toArray]; unfold sizeLine; omega)
            · ((repeat (first | exact List.forall_mem_nil _ | (refine List.forall_mem_cons.mpr ⟨?_, ?_⟩; focus (first | exact hFixD _ (by (with_reducible ((repeat (first | exact List.mem_cons_self | refine List.mem_cons_of_mem _ ?_ | (refine List.mem_append_left _ ?_; ((repeat (first | exact List.mem_cons_self | refine List.mem_cons_of_mem _ ?_ | assumption)); (first | done | fail "m"))) | refine List.mem_append_right _ ?_ | assumption)); (first | done | fail "m")))) | exact fun e2 => hoff3 (Dk, W.listOf tv.toArray e) (by (with_reducible ((repeat (first | exact List.mem_cons_self | refine List.mem_cons_of_mem _ ?_ | (refine List.mem_append_left _ ?_; ((repeat (first | exact List.mem_cons_self | refine List.mem_cons_of_mem _ ?_ | assumption)); (first | done | fail "m"))) | refine List.mem_append_right _ ?_ | assumption)); (first | done | fail "m")))) p hp e2.symm | exact fun e2 => (hown p hp).elim (fun e3 => hnI (Dk, W.listOf tv.toArray e) (by (with_reducible ((repeat (first | exact List.mem_cons_self | refine List.mem_cons_of_mem _ ?_ | (refine List.mem_append_left _ ?_; ((repeat (first | exact List.mem_cons_self | refine List.mem_cons_of_mem _ ?_ | assumption)); (first | done | fail "m"))) | refine List.mem_append_right _ ?_ | assumption)); (first | done | fail "m")))) (e2.symm.trans e3)) (fun e3 => Nat.ne_of_gt (Nat.lt_of_lt_of_le hDkz hzDp) (e3.symm.trans e2)))) | (refine List.forall_mem_append.mpr ⟨?_, ?_⟩; focus (intro p hp; first | exact hFixD _ (by (with_reducible ((repeat (first | exact List.mem_cons_self | refine List.mem_cons_of_mem _ ?_ | (refine List.mem_append_left _ ?_; ((repeat (first | exact List.mem_cons_self | refine List.mem_cons_of_mem _ ?_ | assumption)); (first | done | fail "m"))) | refine List.mem_append_right _ ?_ | assumption)); (first | done | fail "m")))) | exact fun e2 => hoff3 (Dk, W.listOf tv.toArray e) (by (with_reducible ((repeat (first | exact List.mem_cons_self | refine List.mem_cons_of_mem _ ?_ | (refine List.mem_append_left _ ?_; ((repeat (first | exact List.mem_cons_self | refine List.mem_cons_of_mem _ ?_ | assumption)); (first | done | fail "m"))) | refine List.mem_append_right _ ?_ | assumption)); (first | done | fail "m")))) p hp e2.symm | exact fun e2 => (hown p hp).elim (fun e3 => hnI (Dk, W.listOf tv.toArray e) (by (with_reducible ((repeat (first | exact List.mem_cons_self | refine List.mem_cons_of_mem _ ?_ | (refine List.mem_append_left _ ?_; ((repeat (first | exact List.mem_cons_self | refine List.mem_cons_of_mem _ ?_ | assumption)); (first | done | fail "m"))) | refine List.mem_append_right _ ?_ | assumption)); (first | done | fail "m")))) (e2.symm.trans e3)) (fun e3 => Nat.ne_of_gt (Nat.lt_of_lt_of_le hDkz hzDp) (e3.symm.trans e2)))) | (intro p hp; first | exact hFixD _ (by (with_reducible ((repeat (first | exact List.mem_cons_self | refine List.mem_cons_of_mem _ ?_ | (refine List.mem_append_left _ ?_; ((repeat (first | exact List.mem_cons_self | refine List.mem_cons_of_mem _ ?_ | assumption)); (first | done | fail "m"))) | refine List.mem_append_right _ ?_ | assumption)); (first | done | fail "m")))) | exact fun e2 => hoff3 (Dk, W.listOf tv.toArray e) (by (with_reducible ((repeat (first | exact List.mem_cons_self | refine List.mem_cons_of_mem _ ?_ | (refine List.mem_append_left _ ?_; ((repeat (first | exact List.mem_cons_self | refine List.mem_cons_of_mem _ ?_ | assumption)); (first | done | fail "m"))) | refine List.mem_append_right _ ?_ | assumption)); (first | done | fail "m")))) p hp e2.symm | exact fun e2 => (hown p hp).elim (fun e3 => hnI (Dk, W.listOf tv.toArray e) (by (with_reducible ((repeat (first | exact List.mem_cons_self | refine List.mem_cons_of_mem _ ?_ | (refine List.mem_append_left _ ?_; ((repeat (first | exact List.mem_cons_self | refine List.mem_cons_of_mem _ ?_ | assumption)); (first | done | fail "m"))) | refine List.mem_append_right _ ?_ | assumption)); (first | done | fail "m")))) (e2.symm.trans e3)) (fun e3 => Nat.ne_of_gt (Nat.lt_of_lt_of_le hDkz hzDp) (e3.symm.trans e2))))); (first | done | fail "m"))
            intro h57 F57 N57
            rw [List.push_toArray] at N57
            (try dsimp only)
            (repeat' (first | ((with_reducible refine tokN ?_); intro _) | (k_unfold; (try dsimp only)) | ((with_reducible refine isWp ?_); (fail_if_success (with_reducible first | refine halt 0 (by constructor) ?_ | refine halt 30 (by constructor) ?_)); (first | (walk1; (try dsimp only)) | (dsimp only; walk1))) | ((with_reducible show _ ∧ wpAny _ _ _ _ _ _); (refine And.intro (by first | k_in | exact FnAt_fr (by k_asm) (by assumption) | exact FnAt.of (by k_asm) (by k_mem)) ?_)) | ((fail_if_success (with_reducible refine isWp ?_)); dsimp only)))
            refine hQr _ _ ?_
            refine ⟨_, _, _, (Dk, W.listOf (tv ++ [Value.int (tm * tm * P) tk55]).toArray (e + 1)) :: (L + 1 + 1 + 1 + 1 + 1, o5') :: (L + 1 + 1, o2') :: (L + 1 + 1 + 1, o3') :: (L + 1 + 1 + 1 + 1, o4') :: (Ds, lst (refsOf rs)) :: (De, W.listOf (v5.drop ee).toArray 0) :: (tl3 ++ (rs ++ prs)), rfl, F57, newsSub N57 ?_, ?_, _, e + 1, tl3, rfl, ?_, ?_, hT3, ?_, ?_⟩
            · intro p hp
              revert p; ((repeat (first | exact List.forall_mem_nil _ | (refine List.forall_mem_cons.mpr ⟨?_, ?_⟩; focus ((with_reducible ((repeat (first | exact List.mem_cons_self | refine List.mem_cons_of_mem _ ?_ | (refine List.mem_append_left _ ?_; ((repeat (first | exact List.mem_cons_self | refine List.mem_cons_of_mem _ ?_ | assumption)); (first | done | fail "m"))) | refine List.mem_append_right _ ?_ | assumption)); (first | done | fail "m"))))) | (refine List.forall_mem_append.mpr ⟨?_, ?_⟩; focus (intro p hp; (with_reducible ((repeat (first | exact List.mem_cons_self | refine List.mem_cons_of_mem _ ?_ | (refine List.mem_append_left _ ?_; ((repeat (first | exact List.mem_cons_self | refine List.mem_cons_of_mem _ ?_ | assumption)); (first | done | fail "m"))) | refine List.mem_append_right _ ?_ | assumption)); (first | done | fail "m"))))) | (refine List.forall_mem_append.mpr ⟨?_, ?_⟩; focus ((repeat (first | exact List.forall_mem_nil _ | (refine List.forall_mem_cons.mpr ⟨?_, ?_⟩; focus ((with_reducible ((repeat (first | exact List.mem_cons_self | refine List.mem_cons_of_mem _ ?_ | (refine List.mem_append_left _ ?_; ((repeat (first | exact List.mem_cons_self | refine List.mem_cons_of_mem _ ?_ | assumption)); (first | done | fail "m"))) | refine List.mem_append_right _ ?_ | assumption)); (first | done | fail "m"))))))); (first | done | fail "m"))) | (intro p hp; (with_reducible ((repeat (first | exact List.mem_cons_self | refine List.mem_cons_of_mem _ ?_ | (refine List.mem_append_left _ ?_; ((repeat (first | exact List.mem_cons_self | refine List.mem_cons_of_mem _ ?_ | assumption)); (first | done | fail "m"))) | refine List.mem_append_right _ ?_ | assumption)); (first | done | fail "m")))))); (first | done | fail "m"))
            · ((repeat (first | exact List.forall_mem_nil _ | (refine List.forall_mem_cons.mpr ⟨?_, ?_⟩; focus (first | exact hnI _ (by (with_reducible ((repeat (first | exact List.mem_cons_self | refine List.mem_cons_of_mem _ ?_ | (refine List.mem_append_left _ ?_; ((repeat (first | exact List.mem_cons_self | refine List.mem_cons_of_mem _ ?_ | assumption)); (first | done | fail "m"))) | refine List.mem_append_right _ ?_ | assumption)); (first | done | fail "m")))) | exact hnI (Dk, W.listOf tv.toArray e) (by (with_reducible ((repeat (first | exact List.mem_cons_self | refine List.mem_cons_of_mem _ ?_ | (refine List.mem_append_left _ ?_; ((repeat (first | exact List.mem_cons_self | refine List.mem_cons_of_mem _ ?_ | assumption)); (first | done | fail "m"))) | refine List.mem_append_right _ ?_ | assumption)); (first | done | fail "m")))) | exact fun e2 => hoff3 (I, oI) (by (with_reducible ((repeat (first | exact List.mem_cons_self | refine List.mem_cons_of_mem _ ?_ | (refine List.mem_append_left _ ?_; ((repeat (first | exact List.mem_cons_self | refine List.mem_cons_of_mem _ ?_ | assumption)); (first | done | fail "m"))) | refine List.mem_append_right _ ?_ | assumption)); (first | done | fail "m")))) p hp e2.symm)) | (refine List.forall_mem_append.mpr ⟨?_, ?_⟩; focus (intro p hp; first | exact hnI _ (by (with_reducible ((repeat (first | exact List.mem_cons_self | refine List.mem_cons_of_mem _ ?_ | (refine List.mem_append_left _ ?_; ((repeat (first | exact List.mem_cons_self | refine List.mem_cons_of_mem _ ?_ | assumption)); (first | done | fail "m"))) | refine List.mem_append_right _ ?_ | assumption)); (first | done | fail "m")))) | exact hnI (Dk, W.listOf tv.toArray e) (by (with_reducible ((repeat (first | exact List.mem_cons_self | refine List.mem_cons_of_mem _ ?_ | (refine List.mem_append_left _ ?_; ((repeat (first | exact List.mem_cons_self | refine List.mem_cons_of_mem _ ?_ | assumption)); (first | done | fail "m"))) | refine List.mem_append_right _ ?_ | assumption)); (first | done | fail "m")))) | exact fun e2 => hoff3 (I, oI) (by (with_reducible ((repeat (first | exact List.mem_cons_self | refine List.mem_cons_of_mem _ ?_ | (refine List.mem_append_left _ ?_; ((repeat (first | exact List.mem_cons_self | refine List.mem_cons_of_mem _ ?_ | assumption)); (first | done | fail "m"))) | refine List.mem_append_right _ ?_ | assumption)); (first | done | fail "m")))) p hp e2.symm)) | (intro p hp; first | exact hnI _ (by (with_reducible ((repeat (first | exact List.mem_cons_self | refine List.mem_cons_of_mem _ ?_ | (refine List.mem_append_left _ ?_; ((repeat (first | exact List.mem_cons_self | refine List.mem_cons_of_mem _ ?_ | assumption)); (first | done | fail "m"))) | refine List.mem_append_right _ ?_ | assumption)); (first | done | fail "m")))) | exact hnI (Dk, W.listOf tv.toArray e) (by (with_reducible ((repeat (first | exact List.mem_cons_self | refine List.mem_cons_of_mem _ ?_ | (refine List.mem_append_left _ ?_; ((repeat (first | exact List.mem_cons_self | refine List.mem_cons_of_mem _ ?_ | assumption)); (first | done | fail "m"))) | refine List.mem_append_right _ ?_ | assumption)); (first | done | fail "m")))) | exact fun e2 => hoff3 (I, oI) (by (with_reducible ((repeat (first | exact List.mem_cons_self | refine List.mem_cons_of_mem _ ?_ | (refine List.mem_append_left _ ?_; ((repeat (first | exact List.mem_cons_self | refine List.mem_cons_of_mem _ ?_ | assumption)); (first | done | fail "m"))) | refine List.mem_append_right _ ?_ | assumption)); (first | done | fail "m")))) p hp e2.symm))); (first | done | fail "m"))
            · intro y h1 h2 h3 h4 h5; simp [h1, h2, h3, h4, h5]
            · rw [htold]; exact htv.append (.cons _ _ .nil)
            · ((repeat (first | exact List.forall_mem_nil _ | (refine List.forall_mem_cons.mpr ⟨?_, ?_⟩; focus (first | exact hoff3 _ (by (with_reducible ((repeat (first | exact List.mem_cons_self | refine List.mem_cons_of_mem _ ?_ | (refine List.mem_append_left _ ?_; ((repeat (first | exact List.mem_cons_self | refine List.mem_cons_of_mem _ ?_ | assumption)); (first | done | fail "m"))) | refine List.mem_append_right _ ?_ | assumption)); (first | done | fail "m")))))) | (refine List.forall_mem_append.mpr ⟨?_, ?_⟩; focus (intro p hp; first | exact hoff3 _ (by (with_reducible ((repeat (first | exact List.mem_cons_self | refine List.mem_cons_of_mem _ ?_ | (refine List.mem_append_left _ ?_; ((repeat (first | exact List.mem_cons_self | refine List.mem_cons_of_mem _ ?_ | assumption)); (first | done | fail "m"))) | refine List.mem_append_right _ ?_ | assumption)); (first | done | fail "m")))))) | (intro p hp; first | exact hoff3 _ (by (with_reducible ((repeat (first | exact List.mem_cons_self | refine List.mem_cons_of_mem _ ?_ | (refine List.mem_append_left _ ?_; ((repeat (first | exact List.mem_cons_self | refine List.mem_cons_of_mem _ ?_ | assumption)); (first | done | fail "m"))) | refine List.mem_append_right _ ?_ | assumption)); (first | done | fail "m"))))))); (first | done | fail "m"))
            · intro q hq
              exact hoff3 (Dk, W.listOf tv.toArray e) (by first | (with_reducible ((repeat (first | exact List.mem_cons_self | refine List.mem_cons_of_mem _ ?_ | (refine List.mem_append_left _ ?_; ((repeat (first | exact List.mem_cons_self | refine List.mem_cons_of_mem _ ?_ | assumption)); (first | done | fail "m"))) | refine List.mem_append_right _ ?_ | assumption)); (first | done | fail "m"))) | simp) q hq
      · rintro m₁ news₁ h tk ⟨tv, e, tlc2, rfl, hm, htv, hTc2, hoffT, hoffD⟩ F32 N32
        rw [map5 hm] at F32
        generalize m₁ (Str.ofString "parts") = u1 at F32
        generalize m₁ (Str.ofString "hooks") = u2 at F32
        generalize m₁ (Str.ofString "kept") = u3 at F32
        generalize m₁ (Str.ofString "times") = u4 at F32
        generalize m₁ (Str.ofString "rest") = u5 at F32
        clear hm m₁ F31 F30
        replace F32 : Fr g L h _ := F32
        replace N32 : News g L h _ := N32
        (try dsimp only at F32)
        have htl : (toldsOf (endsAll.drop ee) n size y u).length = prs.length := by unfold toldsOf; rw [List.length_map, hlpr]
        rw [List.size_toArray, refsOf, List.length_map, ← htl, List.take_length] at htv
        obtain ⟨hTT, hTO, hTS⟩ := term_facts n ee size y u hn1 hn6 he2 hz1 hz2 hy1 hy2 hu1 hu2
        rw [hfu] at hTS
        dsimp only
        (repeat' (first | ((with_reducible refine tokN ?_); intro _) | (k_unfold; (try dsimp only)) | ((with_reducible refine isWp ?_); (fail_if_success (with_reducible first | refine halt 0 (by constructor) ?_ | refine halt 30 (by constructor) ?_)); (first | (walk1; (try dsimp only)) | (dsimp only; walk1))) | ((with_reducible show _ ∧ wpAny _ _ _ _ _ _); (refine And.intro (by first | k_in | exact FnAt_fr (by k_asm) (by assumption) | exact FnAt.of (by k_asm) (by k_mem)) ?_)) | ((fail_if_success (with_reducible refine isWp ?_)); dsimp only)))
        rename Fr _ _ _ _ => F33
        rename News _ _ _ _ => N33
        refine (terms_ok w n size y u _ _ _ _ hn6 hz1 hz2 ⟨hy1, hy2⟩ ⟨hu1, hu2⟩ hTT).use (tl := tlc2) (news := (Dk, W.listOf tv.toArray e) :: (L + 1 + 1 + 1 + 1 + 1, o5') :: (L + 1 + 1, o2') :: (L + 1 + 1 + 1, o3') :: (L + 1 + 1 + 1 + 1, o4') :: (Ds, lst (refsOf rs)) :: (De, W.listOf (v5.drop ee).toArray 0) :: (rs ++ prs)) rfl (Nat.le_of_ble_eq_true rfl) (Nat.le_of_ble_eq_true rfl) X1 T1 F33 (newsSub N33 ?_) hTc2 ?_ trivial ?_
        · intro p hp
          revert p; ((repeat (first | exact List.forall_mem_nil _ | (refine List.forall_mem_cons.mpr ⟨?_, ?_⟩; focus ((with_reducible ((repeat (first | exact List.mem_cons_self | refine List.mem_cons_of_mem _ ?_ | (refine List.mem_append_left _ ?_; ((repeat (first | exact List.mem_cons_self | refine List.mem_cons_of_mem _ ?_ | assumption)); (first | done | fail "m"))) | refine List.mem_append_right _ ?_ | assumption)); (first | done | fail "m"))))) | (refine List.forall_mem_append.mpr ⟨?_, ?_⟩; focus (intro p hp; (with_reducible ((repeat (first | exact List.mem_cons_self | refine List.mem_cons_of_mem _ ?_ | (refine List.mem_append_left _ ?_; ((repeat (first | exact List.mem_cons_self | refine List.mem_cons_of_mem _ ?_ | assumption)); (first | done | fail "m"))) | refine List.mem_append_right _ ?_ | assumption)); (first | done | fail "m"))))) | (refine List.forall_mem_append.mpr ⟨?_, ?_⟩; focus ((repeat (first | exact List.forall_mem_nil _ | (refine List.forall_mem_cons.mpr ⟨?_, ?_⟩; focus ((with_reducible ((repeat (first | exact List.mem_cons_self | refine List.mem_cons_of_mem _ ?_ | (refine List.mem_append_left _ ?_; ((repeat (first | exact List.mem_cons_self | refine List.mem_cons_of_mem _ ?_ | assumption)); (first | done | fail "m"))) | refine List.mem_append_right _ ?_ | assumption)); (first | done | fail "m"))))))); (first | done | fail "m"))) | (intro p hp; (with_reducible ((repeat (first | exact List.mem_cons_self | refine List.mem_cons_of_mem _ ?_ | (refine List.mem_append_left _ ?_; ((repeat (first | exact List.mem_cons_self | refine List.mem_cons_of_mem _ ?_ | assumption)); (first | done | fail "m"))) | refine List.mem_append_right _ ?_ | assumption)); (first | done | fail "m")))))); (first | done | fail "m"))
        · intro p hp q hq
          rcases List.mem_cons.mp hp with h | h
          · rw [h]; exact hoffD q hq
          · exact hoffT p h q hq
        rintro _ h34 tk34 tl3 F34 N34 hT3 hoff3 hk34 ha3 ⟨Dt, et, trs, rfl, hzDt, hDtg, htrs, htz⟩
        have N35 : News g L h34 ((Dt, W.listOf (refsOf trs).toArray et) :: (Dk, W.listOf tv.toArray e) :: (tl3 ++ trs)) := by
          ((repeat (first | exact List.forall_mem_nil _ | (refine List.forall_mem_cons.mpr ⟨?_, ?_⟩; focus (first | exact N34 _ (by (with_reducible ((repeat (first | exact List.mem_cons_self | refine List.mem_cons_of_mem _ ?_ | (refine List.mem_append_left _ ?_; ((repeat (first | exact List.mem_cons_self | refine List.mem_cons_of_mem _ ?_ | assumption)); (first | done | fail "m"))) | refine List.mem_append_right _ ?_ | assumption)); (first | done | fail "m")))) | exact fresh_news F33 hzDt hDtg | exact fresh_news F33 (htz p hp).1 (htz p hp).2)) | (refine List.forall_mem_append.mpr ⟨?_, ?_⟩; focus (intro p hp; first | exact N34 _ (by (with_reducible ((repeat (first | exact List.mem_cons_self | refine List.mem_cons_of_mem _ ?_ | (refine List.mem_append_left _ ?_; ((repeat (first | exact List.mem_cons_self | refine List.mem_cons_of_mem _ ?_ | assumption)); (first | done | fail "m"))) | refine List.mem_append_right _ ?_ | assumption)); (first | done | fail "m")))) | exact fresh_news F33 hzDt hDtg | exact fresh_news F33 (htz p hp).1 (htz p hp).2)) | (intro p hp; first | exact N34 _ (by (with_reducible ((repeat (first | exact List.mem_cons_self | refine List.mem_cons_of_mem _ ?_ | (refine List.mem_append_left _ ?_; ((repeat (first | exact List.mem_cons_self | refine List.mem_cons_of_mem _ ?_ | assumption)); (first | done | fail "m"))) | refine List.mem_append_right _ ?_ | assumption)); (first | done | fail "m")))) | exact fresh_news F33 hzDt hDtg | exact fresh_news F33 (htz p hp).1 (htz p hp).2))); (first | done | fail "m"))
        clear N34 N33 F33
        (try dsimp only)
        (repeat' (first | ((with_reducible refine tokN ?_); intro _) | (k_unfold; (try dsimp only)) | ((with_reducible refine isWp ?_); (fail_if_success (with_reducible first | refine halt 0 (by constructor) ?_ | refine halt 30 (by constructor) ?_)); (first | (walk1; (try dsimp only)) | (dsimp only; walk1))) | ((with_reducible show _ ∧ wpAny _ _ _ _ _ _); (refine And.intro (by first | k_in | exact FnAt_fr (by k_asm) (by assumption) | exact FnAt.of (by k_asm) (by k_mem)) ?_)) | ((fail_if_success (with_reducible refine isWp ?_)); dsimp only)))
        rename Fr _ _ _ _ => F36
        refine eval_compO F36 (by intro _; with_unfolding_all rfl) (by with_unfolding_all rfl) (by rfl) (by decide) ?_
        (repeat' (first | ((with_reducible refine tokN ?_); intro _) | (k_unfold; (try dsimp only)) | ((with_reducible refine isWp ?_); (fail_if_success (with_reducible first | refine halt 0 (by constructor) ?_ | refine halt 30 (by constructor) ?_)); (first | (walk1; (try dsimp only)) | (dsimp only; walk1))) | ((with_reducible show _ ∧ wpAny _ _ _ _ _ _); (refine And.intro (by first | k_in | exact FnAt_fr (by k_asm) (by assumption) | exact FnAt.of (by k_asm) (by k_mem)) ?_)) | ((fail_if_success (with_reducible refine isWp ?_)); dsimp only)))
        rename Fr _ _ _ _ => F37
        rename News _ _ _ _ => N37
        refine pair_comp (its := (refsOf trs).toArray) (ne := et) rfl (by decide) (by rfl) (by rfl) (by rfl) (by decide) F37 N37 (.head _) (fun i v hv => ?_) ?_ ?_
        · obtain ⟨p, hpp, rfl⟩ := refs_at hv
          obtain ⟨p', ta, tb, hp1, hp2, hp3⟩ := htrs.at i (by rw [← htrs.length]; exact (List.getElem?_eq_some_iff.mp hpp).1)
          rw [hpp] at hp1
          cases hp1
          exact ⟨p.1, _, _, rfl, by rw [← hp3]; simp [hp2]⟩
        · rintro i t v1 v2 I oI C oC m₂ D h38 tk38 E2 hv htm hoC hx1 hx2 F38 N38
          obtain ⟨p, hpp, hpt⟩ := refs_at hv
          obtain ⟨p', ta, tb, hp1, hp2, hp3⟩ := htrs.at i (by rw [← htrs.length]; exact (List.getElem?_eq_some_iff.mp hpp).1)
          rw [hpp] at hp1
          cases hp1
          have e1 := (N38 p (by first | (with_reducible ((repeat (first | exact List.mem_cons_self | refine List.mem_cons_of_mem _ ?_ | (refine List.mem_append_left _ ?_; ((repeat (first | exact List.mem_cons_self | refine List.mem_cons_of_mem _ ?_ | assumption)); (first | done | fail "m"))) | refine List.mem_append_right _ ?_ | assumption)); (first | done | fail "m"))) | (rw [hp2]; (with_reducible ((repeat (first | exact List.mem_cons_self | refine List.mem_cons_of_mem _ ?_ | (refine List.mem_append_left _ ?_; ((repeat (first | exact List.mem_cons_self | refine List.mem_cons_of_mem _ ?_ | assumption)); (first | done | fail "m"))) | refine List.mem_append_right _ ?_ | assumption)); (first | done | fail "m")))) | simp [hp2])).1
          have e2 := (N38 _ (.tail _ (.tail _ (.tail _ htm)))).1
          rw [hp3, ← Value.ref.inj hpt] at e1
          rw [e2] at e1
          injection e1 with e1
          injection e1 with _ _ e1 _
          injection e1 with e1 _
          have e3 : v2 = .int ((List.map (·.2) (pairsOf size y u n)).getD i 0) tb := by
            have := congrArg (fun a : Array Value => a[1]?) e1
            simpa using this
          rw [getD_zero (pairs_over size y u n hTO) i] at e3
          subst e3
          (repeat' (first | ((with_reducible refine tokN ?_); intro _) | (k_unfold; (try dsimp only)) | ((with_reducible refine isWp ?_); (fail_if_success (with_reducible first | refine halt 0 (by constructor) ?_ | refine halt 30 (by constructor) ?_)); (first | (walk1; (try dsimp only)) | (dsimp only; walk1))) | ((with_reducible show _ ∧ wpAny _ _ _ _ _ _); (refine And.intro (by first | k_in | exact FnAt_fr (by k_asm) (by assumption) | exact FnAt.of (by k_asm) (by k_mem)) ?_)) | ((fail_if_success (with_reducible refine isWp ?_)); dsimp only)))
          rename Fr _ _ _ _ => F39
          rename News _ _ _ _ => N39
          exact ⟨rfl, _, _, rfl, F39, N39⟩
        · intro D h39 tk39 F39 N39 o39
          dsimp only
          (repeat' (first | ((with_reducible refine tokN ?_); intro _) | (k_unfold; (try dsimp only)) | ((with_reducible refine isWp ?_); (fail_if_success (with_reducible first | refine halt 0 (by constructor) ?_ | refine halt 30 (by constructor) ?_)); (first | (walk1; (try dsimp only)) | (dsimp only; walk1))) | ((with_reducible show _ ∧ wpAny _ _ _ _ _ _); (refine And.intro (by first | k_in | exact FnAt_fr (by k_asm) (by assumption) | exact FnAt.of (by k_asm) (by k_mem)) ?_)) | ((fail_if_success (with_reducible refine isWp ?_)); dsimp only)))
          rename Fr _ _ _ _ => F40
          rename News _ _ _ _ => N40
          refine newListV_K F40 N40 (by decide) ?_
          intro D2 h41 F41 N41 hLD2 hnD2
          (try dsimp only)
          (repeat' (first | ((with_reducible refine tokN ?_); intro _) | (k_unfold; (try dsimp only)) | ((with_reducible refine isWp ?_); (fail_if_success (with_reducible first | refine halt 0 (by constructor) ?_ | refine halt 30 (by constructor) ?_)); (first | (walk1; (try dsimp only)) | (dsimp only; walk1))) | ((with_reducible show _ ∧ wpAny _ _ _ _ _ _); (refine And.intro (by first | k_in | exact FnAt_fr (by k_asm) (by assumption) | exact FnAt.of (by k_asm) (by k_mem)) ?_)) | ((fail_if_success (with_reducible refine isWp ?_)); dsimp only)))
          rw [if_neg (by decide)]
          have N42 : News g L h41 ((Dt, W.listOf (refsOf trs).toArray et) :: (Dk, W.listOf tv.toArray e) :: (tl3 ++ trs)) := newsSub N41 (fun p hp => by
            revert p; ((repeat (first | exact List.forall_mem_nil _ | (refine List.forall_mem_cons.mpr ⟨?_, ?_⟩; focus ((with_reducible ((repeat (first | exact List.mem_cons_self | refine List.mem_cons_of_mem _ ?_ | (refine List.mem_append_left _ ?_; ((repeat (first | exact List.mem_cons_self | refine List.mem_cons_of_mem _ ?_ | assumption)); (first | done | fail "m"))) | refine List.mem_append_right _ ?_ | assumption)); (first | done | fail "m"))))) | (refine List.forall_mem_append.mpr ⟨?_, ?_⟩; focus (intro p hp; (with_reducible ((repeat (first | exact List.mem_cons_self | refine List.mem_cons_of_mem _ ?_ | (refine List.mem_append_left _ ?_; ((repeat (first | exact List.mem_cons_self | refine List.mem_cons_of_mem _ ?_ | assumption)); (first | done | fail "m"))) | refine List.mem_append_right _ ?_ | assumption)); (first | done | fail "m"))))) | (refine List.forall_mem_append.mpr ⟨?_, ?_⟩; focus ((repeat (first | exact List.forall_mem_nil _ | (refine List.forall_mem_cons.mpr ⟨?_, ?_⟩; focus ((with_reducible ((repeat (first | exact List.mem_cons_self | refine List.mem_cons_of_mem _ ?_ | (refine List.mem_append_left _ ?_; ((repeat (first | exact List.mem_cons_self | refine List.mem_cons_of_mem _ ?_ | assumption)); (first | done | fail "m"))) | refine List.mem_append_right _ ?_ | assumption)); (first | done | fail "m"))))))); (first | done | fail "m"))) | (intro p hp; (with_reducible ((repeat (first | exact List.mem_cons_self | refine List.mem_cons_of_mem _ ?_ | (refine List.mem_append_left _ ?_; ((repeat (first | exact List.mem_cons_self | refine List.mem_cons_of_mem _ ?_ | assumption)); (first | done | fail "m"))) | refine List.mem_append_right _ ?_ | assumption)); (first | done | fail "m")))))); (first | done | fail "m")))
          (try clear N41)
          (repeat' (first | ((with_reducible refine tokN ?_); intro _) | (k_unfold; (try dsimp only)) | ((with_reducible refine isWp ?_); (fail_if_success (with_reducible first | refine halt 0 (by constructor) ?_ | refine halt 30 (by constructor) ?_)); (first | (walk1; (try dsimp only)) | (dsimp only; walk1))) | ((with_reducible show _ ∧ wpAny _ _ _ _ _ _); (refine And.intro (by first | k_in | exact FnAt_fr (by k_asm) (by assumption) | exact FnAt.of (by k_asm) (by k_mem)) ?_)) | ((fail_if_success (with_reducible refine isWp ?_)); dsimp only)))
          rename News _ _ _ _ => N43
          obtain ⟨p, ta, tb, hp1, hp2, hp3⟩ := htrs.at n (by rw [pairsOf_len]; omega)
          rw [pairsOf_fst] at hp3
          refine item_val (x := .ref p.1) (N43.isList (a := Dt) (items := (refsOf trs).toArray) (n := et) (.head _)) (by omega) (by have h6 : n ≤ 6 := hn6; omega) (by rw [Int.toNat_natCast, List.getElem?_toArray]; unfold refsOf; rw [List.getElem?_map, hp1]; rfl) ?_
          (try dsimp only)
          (repeat' (first | ((with_reducible refine tokN ?_); intro _) | (k_unfold; (try dsimp only)) | ((with_reducible refine isWp ?_); (fail_if_success (with_reducible first | refine halt 0 (by constructor) ?_ | refine halt 30 (by constructor) ?_)); (first | (walk1; (try dsimp only)) | (dsimp only; walk1))) | ((with_reducible show _ ∧ wpAny _ _ _ _ _ _); (refine And.intro (by first | k_in | exact FnAt_fr (by k_asm) (by assumption) | exact FnAt.of (by k_asm) (by k_mem)) ?_)) | ((fail_if_success (with_reducible refine isWp ?_)); dsimp only)))
          rename News _ _ _ _ => N44
          have hpT := (N44 p (by first | (with_reducible ((repeat (first | exact List.mem_cons_self | refine List.mem_cons_of_mem _ ?_ | (refine List.mem_append_left _ ?_; ((repeat (first | exact List.mem_cons_self | refine List.mem_cons_of_mem _ ?_ | assumption)); (first | done | fail "m"))) | refine List.mem_append_right _ ?_ | assumption)); (first | done | fail "m"))) | (rw [hp2]; (with_reducible ((repeat (first | exact List.mem_cons_self | refine List.mem_cons_of_mem _ ?_ | (refine List.mem_append_left _ ?_; ((repeat (first | exact List.mem_cons_self | refine List.mem_cons_of_mem _ ?_ | assumption)); (first | done | fail "m"))) | refine List.mem_append_right _ ?_ | assumption)); (first | done | fail "m")))) | simp [hp2])).1
          rw [hp3] at hpT
          refine PyProof.Rows.item_tupleT (l := [.int ((termsOf size y u n).getD n 0) ta, .int ((List.map (·.2) (pairsOf size y u n)).getD n 0) tb]) (j := 0) ⟨_, hpT, rfl, 0, rfl⟩ (by decide) (by decide) rfl rfl ?_
          obtain ⟨TN, hTN⟩ : ∃ TN, (termsOf size y u n).getD n 0 = TN := ⟨_, rfl⟩
          rw [hTN] at hTS ⊢
          have hff : (full * full).natAbs ≤ 720 * 720 := mulb (by omega) (by omega)
          (try dsimp only)
          (repeat' (first | ((with_reducible refine tokN ?_); intro _) | (k_unfold; (try dsimp only)) | ((with_reducible refine isWp ?_); (fail_if_success (with_reducible first | refine halt 0 (by constructor) ?_ | refine halt 30 (by constructor) ?_)); (first | (walk1; (try dsimp only)) | (dsimp only; walk1))) | ((with_reducible show _ ∧ wpAny _ _ _ _ _ _); (refine And.intro (by first | k_in | exact FnAt_fr (by k_asm) (by assumption) | exact FnAt.of (by k_asm) (by k_mem)) ?_)) | ((fail_if_success (with_reducible refine isWp ?_)); dsimp only)))
          rename Fr _ _ _ _ => F45
          rename News _ _ _ _ => N45
          rw [hTS, beq_self_eq_true]
          exact ⟨rfl, _, _, tl3, rfl, F45.keep, hT3, fun p hp => (N45 p (by first | (with_reducible ((repeat (first | exact List.mem_cons_self | refine List.mem_cons_of_mem _ ?_ | (refine List.mem_append_left _ ?_; ((repeat (first | exact List.mem_cons_self | refine List.mem_cons_of_mem _ ?_ | assumption)); (first | done | fail "m"))) | refine List.mem_append_right _ ?_ | assumption)); (first | done | fail "m"))) | (rw [hp]; (with_reducible ((repeat (first | exact List.mem_cons_self | refine List.mem_cons_of_mem _ ?_ | (refine List.mem_append_left _ ?_; ((repeat (first | exact List.mem_cons_self | refine List.mem_cons_of_mem _ ?_ | assumption)); (first | done | fail "m"))) | refine List.mem_append_right _ ?_ | assumption)); (first | done | fail "m")))) | simp [hp])).1⟩
    · have hDe1 : L + 1 + 1 + 1 + 1 + 1 < De := hDe5 _ (.head _)
      have mm : ∀ c : Addr, 54 ≠ c → 61 ≠ c → ∀ q ∈ [((54 : Addr), tabObj #[]), (61, tabObj #[])], c ≠ q.1 := fun c h1 h2 => List.forall_mem_cons.mpr ⟨Ne.symm h1, List.forall_mem_cons.mpr ⟨Ne.symm h2, List.forall_mem_nil _⟩⟩
      ((repeat (first | exact List.forall_mem_nil _ | (refine List.forall_mem_cons.mpr ⟨?_, ?_⟩; focus (first | exact mm _ m5.l k5.l | exact mm _ m2.l k2.l | exact mm _ m3.l k3.l | exact mm _ m4.l k4.l | exact mm _ (Nat.ne_of_lt (hDe5 (54, tabObj #[]) (by (with_reducible ((repeat (first | exact List.mem_cons_self | refine List.mem_cons_of_mem _ ?_ | (refine List.mem_append_left _ ?_; ((repeat (first | exact List.mem_cons_self | refine List.mem_cons_of_mem _ ?_ | assumption)); (first | done | fail "m"))) | refine List.mem_append_right _ ?_ | assumption)); (first | done | fail "m")))))) (Nat.ne_of_lt (hDe5 (61, tabObj #[]) (by (with_reducible ((repeat (first | exact List.mem_cons_self | refine List.mem_cons_of_mem _ ?_ | (refine List.mem_append_left _ ?_; ((repeat (first | exact List.mem_cons_self | refine List.mem_cons_of_mem _ ?_ | assumption)); (first | done | fail "m"))) | refine List.mem_append_right _ ?_ | assumption)); (first | done | fail "m")))))))) | (refine List.forall_mem_append.mpr ⟨?_, ?_⟩; focus (intro p hp; first | exact mm _ m5.l k5.l | exact mm _ m2.l k2.l | exact mm _ m3.l k3.l | exact mm _ m4.l k4.l | exact mm _ (Nat.ne_of_lt (hDe5 (54, tabObj #[]) (by (with_reducible ((repeat (first | exact List.mem_cons_self | refine List.mem_cons_of_mem _ ?_ | (refine List.mem_append_left _ ?_; ((repeat (first | exact List.mem_cons_self | refine List.mem_cons_of_mem _ ?_ | assumption)); (first | done | fail "m"))) | refine List.mem_append_right _ ?_ | assumption)); (first | done | fail "m")))))) (Nat.ne_of_lt (hDe5 (61, tabObj #[]) (by (with_reducible ((repeat (first | exact List.mem_cons_self | refine List.mem_cons_of_mem _ ?_ | (refine List.mem_append_left _ ?_; ((repeat (first | exact List.mem_cons_self | refine List.mem_cons_of_mem _ ?_ | assumption)); (first | done | fail "m"))) | refine List.mem_append_right _ ?_ | assumption)); (first | done | fail "m")))))))) | (intro p hp; first | exact mm _ m5.l k5.l | exact mm _ m2.l k2.l | exact mm _ m3.l k3.l | exact mm _ m4.l k4.l | exact mm _ (Nat.ne_of_lt (hDe5 (54, tabObj #[]) (by (with_reducible ((repeat (first | exact List.mem_cons_self | refine List.mem_cons_of_mem _ ?_ | (refine List.mem_append_left _ ?_; ((repeat (first | exact List.mem_cons_self | refine List.mem_cons_of_mem _ ?_ | assumption)); (first | done | fail "m"))) | refine List.mem_append_right _ ?_ | assumption)); (first | done | fail "m")))))) (Nat.ne_of_lt (hDe5 (61, tabObj #[]) (by (with_reducible ((repeat (first | exact List.mem_cons_self | refine List.mem_cons_of_mem _ ?_ | (refine List.mem_append_left _ ?_; ((repeat (first | exact List.mem_cons_self | refine List.mem_cons_of_mem _ ?_ | assumption)); (first | done | fail "m"))) | refine List.mem_append_right _ ?_ | assumption)); (first | done | fail "m"))))))))); (first | done | fail "m")))
end

end Mine
theorem PySem.Challenge.cw_sh0054_01_holds : PySem.Challenge.rw_sh0054_01.Holds := by
  exact Mine.law_holds
