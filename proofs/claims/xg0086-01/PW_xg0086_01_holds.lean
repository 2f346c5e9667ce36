import PyProof.Rows.All
import Wide.All
import OpenK.AllK
import Wide.FinOn
import PySem.Challenge.RW_xg0086_01
section
open PySem PySem.W PyProof.Rows
set_option Elab.async false
set_option maxRecDepth 100000
set_option maxHeartbeats 8000000
namespace Mine
local macro_rules | `(tactic| walk_at "SrcAt") => `(tactic| fail)
local macro_rules | `(tactic| walk_at "TestAt") => `(tactic| fail)
local macro_rules | `(tactic| walk_at "TurnEnd") => `(tactic| fail)
local macro_rules | `(tactic| walk_at "WhileStep2") => `(tactic| fail)
local macro_rules | `(tactic| walk_at "binaryOp Add str str") => `(tactic| fail)
local macro_rules | `(tactic| walk_at "binaryOp Mult str int") => `(tactic| fail)
local macro_rules | `(tactic| walk_at "call builtin:hasattr") => `(tactic| fail)
local macro_rules | `(tactic| walk_at "call builtin:len") => `(tactic| fail)
local macro_rules | `(tactic| walk_at "call builtin:len") => `(tactic| fail)
local macro_rules | `(tactic| walk_at "call builtin:list.append") => `(tactic| fail)
local macro_rules | `(tactic| walk_at "call builtin:re.Pattern.search") => `(tactic| fail)
local macro_rules | `(tactic| walk_at "call builtin:str.lower") => `(tactic| fail)
local macro_rules | `(tactic| walk_at "call builtin:str.upper") => `(tactic| fail)
local macro_rules | `(tactic| walk_at "call ref") => `(tactic| fail)
local macro_rules | `(tactic| walk_at "call ref") => `(tactic| fail)
local macro_rules | `(tactic| walk_at "call ref") => `(tactic| fail)
local macro_rules | `(tactic| walk_at "call ref") => `(tactic| fail)
local macro_rules | `(tactic| walk_at "call ref") => `(tactic| fail)
local macro_rules | `(tactic| walk_at "call ref") => `(tactic| fail)
local macro_rules | `(tactic| walk_at "call ref") => `(tactic| fail)
local macro_rules | `(tactic| walk_at "call ref") => `(tactic| fail)
local macro_rules | `(tactic| walk_at "call ref") => `(tactic| fail)
local macro_rules | `(tactic| walk_at "call ref") => `(tactic| fail)
local macro_rules | `(tactic| walk_at "call ref") => `(tactic| fail)
local macro_rules | `(tactic| walk_at "call type:str") => `(tactic| fail)
local macro_rules | `(tactic| walk_at "delItem ref") => `(tactic| fail)
local macro_rules | `(tactic| walk_at "eval ListComp") => `(tactic| fail)
local macro_rules | `(tactic| walk_at "eval Name") => `(tactic| fail)
local macro_rules | `(tactic| walk_at "exec For") => `(tactic| fail)
local macro_rules | `(tactic| walk_at "exec For Name Call") => `(tactic| fail)
local macro_rules | `(tactic| walk_at "exec For Name Call cons cons") => `(tactic| fail)
local macro_rules | `(tactic| walk_at "exec For Name Call cons nil") => `(tactic| fail)
local macro_rules | `(tactic| walk_at "exec For Tuple Attribute cons nil") => `(tactic| fail)
local macro_rules | `(tactic| walk_at "exec For Tuple Name cons cons") => `(tactic| fail)
local macro_rules | `(tactic| walk_at "exec For Tuple Name cons nil") => `(tactic| fail)
local macro_rules | `(tactic| walk_at "exec While") => `(tactic| fail)
local macro_rules | `(tactic| walk_at "getMethod ref") => `(tactic| fail)
local macro_rules | `(tactic| walk_at "pyIter ref") => `(tactic| fail)
local macro_rules | `(tactic| walk_at "setItem ref ref") => `(tactic| fail)
local macro_rules | `(tactic| walk_at "setItem ref str") => `(tactic| fail)
local macro_rules | `(tactic| walk_at "subscriptTail Name Name str int") => `(tactic| fail)
local macro_rules | `(tactic| walk_at "subscriptTail Name Slice str ref") => `(tactic| fail)
local macro_rules | `(tactic| walk_at "mine pad") => `(tactic| fail)
open_top hd for PySem.Challenge.rw_xg0086_01
end Mine
end
open PySem PySem.W PyProof.Rows
set_option Elab.async false
namespace Mine
noncomputable abbrev PR : Program := Challenge.rw_xg0086_01.row.prog
noncomputable abbrev LS : List Str := looseW hd.view_39 [Str.ofString "length_hint", Str.ofString "_name_disallowed_re", Str.ofString "_value_disallowed_re"]
/-- what a def's call gives, whatever frame calls it (k frames of room at least) and whatever the ledger bears -/
def Told (w : World) (k : Nat) (f : Addr) (args : List Value) (kw : List (Str × Value)) (news : List (Addr × Obj)) (Post : Value → List (Addr × Obj) → Prop) : Prop :=
  ∀ (mean : ExcName → Option Value) (mg mb : Str → Option Value) (dp un : Nat) (gd : Option (List Code)) (cn : Str) (cs : Scope) (a : Addr) (ccd : Value) (cl : List (Str × Addr)) (outer : List Env) (A₀ : Around) (base h₀ : Heap) (L : Addr) (m : Str → Option Value) (s : Shared) (Q E : Value → Shared → Prop),
    Below A₀ base outer h₀ → Fr h₀ L s.heap m → (hd.heap_39 w.params).In h₀ → News h₀ L s.heap news → Top hd.view_39 LS mean mg mb h₀ → cs.kind = .function → dp + k < recursionLimit → un + 8 * k < cLine →
    (∀ (r : Value) (h' : Heap) (tk' : Nat) (news' : List (Addr × Obj)), Fr h₀ L h' m → News h₀ L h' news' → Post r news' → Q r { s with heap := h', toks := tk' }) →
    wpAny (model PR w) (ktrTop dp un gd cn cs L a ccd cl outer) (call (.ref f) args kw) Q E s
theorem Told.use {w : World} {k : Nat} {f : Addr} {args : List Value} {kw : List (Str × Value)} {news : List (Addr × Obj)} {Post : Value → List (Addr × Obj) → Prop} (H : Told w k f args kw news Post)
    {mean : ExcName → Option Value} {mg mb : Str → Option Value} {dp un : Nat} {gd : Option (List Code)} {cn : Str} {cs : Scope} {a : Addr} {ccd : Value} {cl : List (Str × Addr)} {outer : List Env} {A₀ : Around} {base h₀ : Heap} {L : Addr} {m : Str → Option Value} {s : Shared} {Q E : Value → Shared → Prop}
    (B : Below A₀ base outer h₀) (F : Fr h₀ L s.heap m) (X : (hd.heap_39 w.params).In h₀) (N : News h₀ L s.heap news) (T : Top hd.view_39 LS mean mg mb h₀) (hk : cs.kind = .function) (hd : dp + k < recursionLimit) (hu : un + 8 * k < cLine)
    (ret : ∀ (r : Value) (h' : Heap) (tk' : Nat) (news' : List (Addr × Obj)), Fr h₀ L h' m → News h₀ L h' news' → Post r news' → Q r { s with heap := h', toks := tk' }) :
    wpAny (model PR w) (ktrTop dp un gd cn cs L a ccd cl outer) (call (.ref f) args kw) Q E s := H _ _ _ _ _ _ _ _ _ _ _ _ _ _ _ _ _ _ _ _ B F X N T hk hd hu ret
/-- a goal that the walk leaves alone -/
def Halt (P : Prop) : Prop := P
theorem Halt.in {P : Prop} (h : Halt P) : P := h
theorem Halt.out {P : Prop} (h : P) : Halt P := h
/-- a frame's names, the written ones first -/
noncomputable def bnd (rest : Str → Option Value) : List (Str × Value) → Str → Option Value
  | [] => rest
  | (x, v) :: r => fun z => if z = x then some v else bnd rest r z
theorem bnd_eq {m : Str → Option Value} : ∀ {ps : List (Str × Value)}, (∀ p ∈ ps, m p.1 = some p.2) → bnd m ps = m
  | [], _ => rfl
  | (x, v) :: r, h => by
    funext z
    show (if z = x then some v else bnd m r z) = m z
    by_cases e : z = x
    · rw [if_pos e, e]; exact (h _ (.head _)).symm
    · rw [if_neg e, bnd_eq fun q hq => h q (.tail _ hq)]
theorem canon {h₀ : Heap} {L : Addr} {h : Heap} {m : Str → Option Value} (ps : List (Str × Value)) (F : Fr h₀ L h m) (hp : ∀ p ∈ ps, m p.1 = some p.2) : Fr h₀ L h (bnd m ps) := by
  rw [bnd_eq hp]; exact F
theorem all1 {α : Type} {P : α → Prop} {a : α} {l : List α} (h : P a) (r : ∀ x ∈ l, P x) : ∀ x ∈ a :: l, P x := List.forall_mem_cons.mpr ⟨h, r⟩
theorem all0 {α : Type} {P : α → Prop} : ∀ x ∈ ([] : List α), P x := fun _ h => nomatch h
theorem News.dup {h₀ h : Heap} {L : Addr} {news : List (Addr × Obj)} {p : Addr × Obj} (N : News h₀ L h news) (hp : p ∈ news) : News h₀ L h (p :: news) := fun q hq => by
  rcases List.mem_cons.mp hq with rfl | hq
  · exact N _ hp
  · exact N _ hq
theorem News.sub {h₀ h : Heap} {L : Addr} {news news' : List (Addr × Obj)} (N : News h₀ L h news) (hs : ∀ p ∈ news', p ∈ news) : News h₀ L h news' := fun p hp => N p (hs p hp)
theorem News.cut2 {h₀ h : Heap} {L : Addr} {news : List (Addr × Obj)} {a b c d : Addr × Obj} (N : News h₀ L h (a :: b :: c :: d :: news)) : News h₀ L h (a :: b :: c :: news) := fun p hp => N p (by
  rcases List.mem_cons.mp hp with rfl | hp
  · exact .head _
  rcases List.mem_cons.mp hp with rfl | hp
  · exact .tail _ (.head _)
  rcases List.mem_cons.mp hp with rfl | hp
  · exact .tail _ (.tail _ (.head _))
  exact .tail _ (.tail _ (.tail _ (.tail _ hp))))
theorem News.apart {h₀ h : Heap} {L : Addr} {news : List (Addr × Obj)} {a b : Addr} {o o' : Obj} (N : News h₀ L h news) (h1 : (a, o) ∈ news) (h2 : (b, o') ∈ news) (hc : o.cls ≠ o'.cls) : a ≠ b := fun e => by
  subst e
  have := (N _ h1).1.symm.trans (N _ h2).1
  exact hc (congrArg Obj.cls (Option.some.inj this))
/-- a jug: i blanks, then its letter -/
def bl (i : Nat) (c : Nat) : Str := ⟨(List.replicate i 32 ++ [c]).toArray⟩
end Mine
open PySem PySem.W PyProof.Rows
set_option Elab.async false
namespace Mine
/-- the letter of a jug -/
def IsL (c : Nat) : Prop := c = 98 ∨ c = 99
theorem len_bl (i c : Nat) : (bl i c).length = i + 1 := by simp [bl, Str.length]
theorem item_lt' : ∀ i ≤ 10, ∀ j < i, Txt.item (bl i 98) (j : Int) = Str.ofString " " ∧ Txt.item (bl i 99) (j : Int) = Str.ofString " " := by decide +kernel
theorem item_eq' : ∀ i ≤ 10, Txt.item (bl i 98) (i : Int) = Str.ofString "b" ∧ Txt.item (bl i 99) (i : Int) = Str.ofString "c" := by decide +kernel
section
variable {prog : Program} {w : World} {A : Around} {E : Value → Shared → Prop} {s : Shared} {value slice : PySem.Expr} {t u : Tok} {Q : Value → Shared → Prop}
theorem sub_bl {i c : Nat} {k : Int} (hc : IsL c) (hi : i ≤ 10) (h0 : 0 ≤ k) (h1 : k ≤ i)
    (ha : k < i → Q (.str (Str.ofString " ") s.toks) { s with toks := s.toks + 1 })
    (hb : k = i → c = 98 → Q (.str (Str.ofString "b") s.toks) { s with toks := s.toks + 1 })
    (hd : k = i → c = 99 → Q (.str (Str.ofString "c") s.toks) { s with toks := s.toks + 1 })
    (hs : subscripted slice false (.str (bl i c) t) (.int k u) = operate [.str (bl i c) t, .int k u] (getItem (.str (bl i c) t) (.int k u)) := by with_unfolding_all rfl)
    (ht : ∀ r, letTemporaryGo value (.str (bl i c) t) r = pure () := by intro _; with_unfolding_all rfl) :
    wpAny (model prog w) A (subscriptTail value slice (.str (bl i c) t) (.int k u)) Q E s := by
  obtain ⟨j, rfl⟩ := Int.eq_ofNat_of_zero_le h0
  refine KXi.item (n := i + 1) (len_bl i c) (by omega) (by omega) (by omega) (fun _ => ?_) hs ht
  by_cases hj : j < i
  · rcases hc with rfl | rfl
    · rw [(item_lt' i hi j hj).1]; exact ha (by omega)
    · rw [(item_lt' i hi j hj).2]; exact ha (by omega)
  · have e : j = i := by omega
    subst e
    rcases hc with rfl | rfl
    · rw [(item_eq' j hi).1]; exact hb rfl rfl
    · rw [(item_eq' j hi).2]; exact hd rfl rfl
theorem slice_bl' : ∀ i ≤ 10, ∀ j ≤ i, Txt.slice (bl i 98) (some (j : Int)) (some ((i : Int) + 1)) = bl (i - j) 98 ∧ Txt.slice (bl i 99) (some (j : Int)) (some ((i : Int) + 1)) = bl (i - j) 99 := by decide +kernel
theorem slice_bl {i c : Nat} {a b : Int} {ua ub : Tok} {h₀ : Heap} {L : Addr} {m : Str → Option Value} {news : List (Addr × Obj)} (hc : IsL c) (hi : i ≤ 10) (h0 : 0 ≤ a) (h1 : a ≤ i) (hb : b = i + 1) (hF : Fr h₀ L s.heap m) (hN : News h₀ L s.heap news)
    (h : ∀ h' t' k, Fr h₀ L h' m → News h₀ L h' news → Q (.str (bl (i - a.toNat) c) t') { s with heap := h', toks := k })
    (hs : subscripted slice false (.str (bl i c) t) (.ref s.heap.objs.size) = operate [.ref s.heap.objs.size, .str (bl i c) t] (getItem (.str (bl i c) t) (.ref s.heap.objs.size)) := by with_unfolding_all rfl)
    (ht : ∀ r, letTemporaryGo value (.str (bl i c) t) r = pure () := by intro _; with_unfolding_all rfl) :
    wpAny (model prog w) A (subscriptTail value slice (.str (bl i c) t) (.ref s.heap.objs.size)) Q E { s with heap := s.heap.push { cls := .type "slice", data := .fields #[.int a ua, .int b ub, .none] } } := by
  obtain ⟨j, rfl⟩ := Int.eq_ofNat_of_zero_le h0
  subst hb
  refine slice_strN_ss hF hN (fun h' t' k F N => ?_) hs ht (by rw [len_bl, sizeLine_eq]; omega)
  have q := h h' t' k F N
  rcases hc with rfl | rfl
  · rw [(slice_bl' i hi j (by omega)).1]; exact q
  · rw [(slice_bl' i hi j (by omega)).2]; exact q
end
end Mine
open PySem PySem.W PyProof.Rows
set_option Elab.async false
namespace Mine
/-- the end of a loop's turn -/
def TurnEnd (h₀ : Heap) (L : Addr) (s : Shared) (I : Addr) (oI : Obj) (J : (Str → Option Value) → List (Addr × Obj) → Prop) (Q : Flow → Shared → Prop) (f : Flow) (s₃ : Shared) : Prop :=
  match f with
  | .ret v => Q (.ret v) s₃
  | .brk => Q .next s₃
  | _ => ∃ h' tk' m' nx', s₃ = { s with heap := h', toks := tk' } ∧ Fr h₀ L h' m' ∧ News h₀ L h' ((I, oI) :: nx') ∧ (∀ p ∈ nx', p.1 ≠ I) ∧ J m' nx'
theorem TurnEnd.ret {h₀ : Heap} {L : Addr} {s s₃ : Shared} {I : Addr} {oI : Obj} {J : (Str → Option Value) → List (Addr × Obj) → Prop} {Q : Flow → Shared → Prop} {v : Value} (h : Q (.ret v) s₃) : TurnEnd h₀ L s I oI J Q (.ret v) s₃ := h
theorem TurnEnd.go {h₀ : Heap} {L : Addr} {s : Shared} {I : Addr} {oI : Obj} {J : (Str → Option Value) → List (Addr × Obj) → Prop} {Q : Flow → Shared → Prop} {h' : Heap} {tk' : Nat} {m' : Str → Option Value} (nx' : List (Addr × Obj))
    (F : Fr h₀ L h' m') (N : News h₀ L h' ((I, oI) :: nx')) (hn : ∀ p ∈ nx', p.1 ≠ I) (hj : J m' nx') : TurnEnd h₀ L s I oI J Q .next { s with heap := h', toks := tk' } := ⟨h', tk', m', nx', rfl, F, N, hn, hj⟩
section
variable {prog : Program} {w : World} {A : Around} {E : Value → Shared → Prop} {Q : Flow → Shared → Prop} {s : Shared} {env : Env} {h₀ : Heap}
def Aim (target : Expr) : Prop := (∃ x p, target = .Name x p) ∨ ∃ e k p, target = .Tuple e k p
theorem letOwned_list {target : Expr} {I l : Addr} {i : Nat} {v : Value} {P : Unit → Shared → Prop} (ht : Aim target) (hit : s.heap.IsListIter I l i) (hP : P () s) :
    wpAny (model prog w) A (letOwnedTupleGo target (.ref I) v) P E s := by
  rcases ht with ⟨x, p, rfl⟩ | ⟨e, k, p, rfl⟩
  · exact wpAny_pure hP
  · cases v with
    | ref T => exact wpAny_letOwnedTupleGo_listiter hit hP
    | _ => exact wpAny_pure hP

theorem forL {target : Expr} {body : List Stmt} {l : Addr} {vs : List Value} {nn : Nat} {m : Str → Option Value} {news : List (Addr × Obj)} (J : Nat → (Str → Option Value) → List (Addr × Obj) → Prop)
    (hh : A.handled = none) (F : Fr h₀ env.locals s.heap m) (N : News h₀ env.locals s.heap news) (hj : J 0 m news)
    (keep : ∀ i m nx, J i m nx → (l, listOf vs.toArray nn) ∈ nx)
    (turn : ∀ i v m₁ nx I oI h tk, vs[i]? = some v → oI.cls = .type "list_iterator" → (∀ p ∈ nx, p.1 ≠ I) → J i m₁ nx → Fr h₀ env.locals h m₁ → News h₀ env.locals h ((I, oI) :: nx) →
      wpAny (model prog w) A (assign target env v) (fun _ s₂ => wpAny (model prog w) A (execs body env) (TurnEnd h₀ env.locals s I oI (J (i + 1)) Q) E s₂) E { s with heap := h, toks := tk })
    (done : ∀ m₁ nx h tk, J vs.length m₁ nx → Fr h₀ env.locals h m₁ → News h₀ env.locals h nx → Q .next { s with heap := h, toks := tk })
    (ht : Aim target) (hE : PassesOwn (model prog w) A env E) :
    wpAny (model prog w) A (pyIter (.ref l)) (fun it s₂ => codeAny (model prog w) A (.forLoop target it body [] env) (fun r s' => match r with | .ok f => Q f s' | .error e => cameBackBy (model prog w) A env E e s') s₂) E s := by
  have hol : s.heap.get? l = some (listOf vs.toArray nn) := (N _ (keep _ _ _ hj)).1
  have hls : s.heap.IsList l vs.toArray := ⟨_, hol, rfl, nn, rfl⟩
  have hne : l ≠ s.heap.objs.size := Nat.ne_of_lt (Heap.lt_size hol)
  refine wpAny_pyIter_list hls ?_
  have I₀ := next_is_new F
  generalize hI : s.heap.objs.size = I at *
  refine codeAny_forLoop_any
    (fun k s' => ∃ h' tk m' nx i, s' = { s with heap := h', toks := tk } ∧ h'.IsListIter I l i ∧ Fr h₀ env.locals h' m' ∧ News h₀ env.locals h' nx ∧ (∀ p ∈ nx, p.1 ≠ I) ∧ I ≠ env.locals ∧ J i m' nx ∧ i ≤ vs.length ∧ k = vs.length + 1 - i) ?_ (vs.length + 1)
    ⟨_, s.toks, m, news, 0, rfl, ⟨_, by rw [← hI]; exact Heap.get?_push_size _ rfl, rfl, rfl⟩, F.push _, (fun p hp => ⟨Heap.get?_push_of_some _ (N p hp).1, (N p hp).2⟩),
      (fun p hp => by rw [← hI]; exact Nat.ne_of_lt (Heap.lt_size (N p hp).1)), (by rw [← hI]; exact Nat.ne_of_gt F.ns.lt), hj, Nat.zero_le _, rfl⟩
  rintro k s' ⟨h', tk, m', nx, i, rfl, hit, F', N', hap, hIL, hJ, hi, rfl⟩
  have hol' : h'.get? l = some (listOf vs.toArray nn) := (N' _ (keep _ _ _ hJ)).1
  have hls' : h'.IsList l vs.toArray := ⟨_, hol', rfl, nn, rfl⟩
  have old : ∀ b o, h₀.get? b = some o → b ≠ I := fun b o e hb => by rw [hb, I₀] at e; cases e
  by_cases hlt : i < vs.length
  · refine wpAny_pyNext_list_item hit hls' (x := vs[i]) (by simp [hlt]) fun h₁ hit₁ hs₁ => ?_
    have F₁ : Fr h₀ env.locals h₁ m' := ⟨F'.ns.sameBut hs₁ (Ne.symm hIL), fun b o e => (hs₁.2 b (old b o e)).trans (F'.keep b o e), F'.above⟩
    have N₁ : News h₀ env.locals h₁ nx := fun p hp => ⟨(hs₁.2 _ (hap p hp)).trans (N' p hp).1, (N' p hp).2⟩
    obtain ⟨oI, hoI, hcI, hdI⟩ := id hit₁
    refine letOwned_list ht hit₁ ?_
    refine wpAny_passesOwn hE (wpAny_mono (turn i vs[i] m' nx I oI h₁ tk (by simp [hlt]) hcI hap hJ F₁ (by
      intro p hp
      rcases List.mem_cons.mp hp with rfl | hp
      · exact ⟨hoI, hIL, I₀⟩
      · exact N₁ p hp)) (fun _ s₂ h₂ => wpAny_passesOwn hE (wpAny_mono h₂ (fun f s₃ h₃ => ?_) fun _ _ e => e)) fun _ _ e => e)
    have fin : (∃ h' tk' m' nx', s₃ = { s with heap := h', toks := tk' } ∧ Fr h₀ env.locals h' m' ∧ News h₀ env.locals h' ((I, oI) :: nx') ∧ (∀ p ∈ nx', p.1 ≠ I) ∧ J (i + 1) m' nx') →
        ∃ m_1, m_1 < vs.length + 1 - i ∧ ∃ h' tk m' nx i, s₃ = { s with heap := h', toks := tk } ∧ h'.IsListIter I l i ∧ Fr h₀ env.locals h' m' ∧ News h₀ env.locals h' nx ∧ (∀ p ∈ nx, p.1 ≠ I) ∧ I ≠ env.locals ∧ J i m' nx ∧ i ≤ vs.length ∧ m_1 = vs.length + 1 - i := by
      rintro ⟨h₃', tk₃, m₃, nx₃, rfl, F₃, N₃, hap₃, hJ₃⟩
      exact ⟨vs.length + 1 - (i + 1), by omega, h₃', tk₃, m₃, nx₃, i + 1, rfl, ⟨oI, (N₃ _ (.head _)).1, hcI, hdI⟩, F₃, fun p hp => N₃ p (.tail _ hp), hap₃, hIL, hJ₃, hlt, rfl⟩
    cases f with
    | ret v => exact h₃
    | brk => exact h₃
    | next => exact fin h₃
    | cont => exact fin h₃
  · have hin : i = vs.length := by omega
    subst hin
    refine wpAny_pyNext_list_end hh hit hls' (by simp) fun h₁ he₁ => wpAny_execs_nil ?_
    have F₁ : Fr h₀ env.locals h₁ m' := ⟨F'.ns.at' fun o e => he₁ _ o (Ne.symm hIL) e, fun b o e => he₁ b o (old b o e) (F'.keep b o e), F'.above⟩
    exact done m' nx h₁ tk hJ F₁ fun p hp => ⟨he₁ _ _ (hap p hp) (N' p hp).1, (N' p hp).2⟩
end
end Mine
open PySem PySem.W PyProof.Rows
set_option Elab.async false
set_option maxRecDepth 100000
namespace Mine
open PySem.F
theorem plainAttrs_pat : PlainAttrs "re.Pattern" :=
  ⟨⟨"object.__getattribute__", by rw [typeLookup_type, builtinLookup_eq_fast]; kernel_rfl, by decide +kernel⟩, by rw [typeLookup_type, builtinLookup_eq_fast]; kernel_rfl⟩
theorem slot_pat_search : Slot "re.Pattern" "search" "re.Pattern.search" :=
  .of (owner := "re.Pattern") (n := "search") (by rw [typeLookup_type, builtinLookup_eq_fast]; kernel_rfl) (by decide +kernel) (by decide +kernel) (by decide +kernel)
    (by first | exact .inl (by decide +kernel) | exact .inr (by decide +kernel)) (by rw [isSubtype_type]; kernel_rfl)
theorem type_pat_search : typeOf (.builtin "re.Pattern.search") = pure (.type "method_descriptor") := by show builtinType _ = _; rw [builtinType_eq_fast]; kernel_rfl
theorem entry_pat_search : entryFor table "re.Pattern.search" = some Builtin.«re.Pattern.search» := entryFor_of_tree (by kernel_rfl)
theorem args_pat_search_2 (a b : Value) : argsOk "re.Pattern.search" ⟨[a, b], []⟩ := by
  unfold argsOk; kernel_rfl
def code2 : Array Nat := #[14, 14, 4, 1, 1, 9, 4294966783, 0, 0, 2147483648, 0, 0, 0, 0, 0, 13, 11, 9, 4294966783, 0, 0, 2147483648, 0, 0, 0, 0, 0, 1]
def code1 : Array Nat := #[14, 10, 4, 1, 1, 22, 0, 31, 16, 127, 0, 13, 7, 22, 0, 31, 16, 127, 0, 1]
def seekIn (code : Array Nat) (v : Str) : Sre.M := Sre.forSearch code v.cps 0 0 v.cps.size false
/-- the search finds nothing, and that within four steps -/
def fails (m : Sre.M) : Bool := match m.outcome with
  | some .failed => true
  | _ => false
abbrev Clean (code : Array Nat) (v : Str) : Prop := fails ((seekIn code v).runFor 4) = true
section
open PySem.Builtin.Re
theorem target1 (P : Params) (S : Setting) (v : Str) (t : Tok) : peek (hd.heap_39 P) S (reTarget "re.Pattern.search" "search" ⟨[.ref 107, .str v t], []⟩) = some ⟨.ref 107, .str v t, code1, v.cps, 0, 0, min (0 : Int).toNat v.cps.size, min (2 ^ 63 - 1 : Int).toNat v.cps.size⟩ := by kernel_rfl
theorem target2 (P : Params) (S : Setting) (v : Str) (t : Tok) : peek (hd.heap_39 P) S (reTarget "re.Pattern.search" "search" ⟨[.ref 112, .str v t], []⟩) = some ⟨.ref 112, .str v t, code2, v.cps, 0, 0, min (0 : Int).toNat v.cps.size, min (2 ^ 63 - 1 : Int).toNat v.cps.size⟩ := by kernel_rfl
theorem clean_done {code : Array Nat} {v : Str} (h : Clean code v) : ((seekIn code v).runFor 4).outcome = some .failed := by
  unfold Clean fails at h
  split at h
  · assumption
  · cases h
section
variable {prog : Program} {w : World} {A : Around} {E : Value → Shared → Prop} {s : Shared}
theorem drive_one {n : Nat} {m m' : Sre.M} {Q : Sre.M → Shared → Prop} (h : m.runFor 4 = m') (ho : m'.outcome.isSome = true) (hQ : Q m' s) : wpAny (model prog w) A (reDrive (n + 1) m) Q E s := by
  unfold reDrive
  show wpAny _ A (if (m.runFor 4).outcome.isSome = true then pure (m.runFor 4) else _) Q E s
  rw [h, if_pos ho]
  exact wpAny_pure hQ
theorem seen_loop {c : Nat → Bool} {g : Nat → String} {Q : PUnit → Shared → Prop} : ∀ (l : List Nat), Q PUnit.unit s →
    wpAny (model prog w) A (forIn l PUnit.unit fun i _ => if c i = true then (do rule (g i); pure (ForInStep.yield PUnit.unit)) else pure (ForInStep.yield PUnit.unit)) Q E s
  | [], hQ => wpAny_pure hQ
  | i :: l, hQ => by
    rw [List.forIn_cons]
    refine wpAny_bind ?_
    split
    · exact wpAny_bind (wpAny_rule (wpAny_pure (seen_loop l hQ)))
    · exact wpAny_pure (seen_loop l hQ)
theorem run_none {m m' : Sre.M} {Q : Option Sre.M → Shared → Prop} (h : m.runFor 4 = m') (ho : m'.outcome = some .failed) (hQ : Q none s) : wpAny (model prog w) A (reRunToEnd m) Q E s := by
  unfold reRunToEnd
  refine wpAny_bind ?_
  rw [show (2 ^ 64 : Nat) = (2 ^ 64 - 1) + 1 from rfl]
  refine drive_one h (by rw [ho]; rfl) ?_
  refine wpAny_bind (seen_loop _ ?_)
  rw [ho]
  exact wpAny_pure hQ
theorem search_none {a : Addr} {code : Array Nat} {v : Str} {t : Tok} {K : Frag} {Q : Value → Shared → Prop} (x : K.In s.heap)
    (ht : peek K ⟨prog, w.params⟩ (reTarget "re.Pattern.search" "search" ⟨[.ref a, .str v t], []⟩) = some ⟨.ref a, .str v t, code, v.cps, 0, 0, min (0 : Int).toNat v.cps.size, min (2 ^ 63 - 1 : Int).toNat v.cps.size⟩)
    (hT : s.TypeIs (.ref a) "re.Pattern") (hv : v.cps.size ≤ 1000) (hc : Clean code v) (hQ : Q .none s) :
    wpAny (model prog w) A (call (.builtin "re.Pattern.search") [.ref a, .str v t]) Q E s := by
  refine wpAny_call_entry slot_pat_search hT entry_pat_search ?_ (args_pat_search_2 _ _)
  unfold Builtin.«re.Pattern.search»
  refine wpAny_bind ((Looks.of_peek x ht).here ?_)
  unfold reAnswer
  have e1 : min (0 : Int).toNat v.cps.size = 0 := by omega
  have e2 : min (2 ^ 63 - 1 : Int).toNat v.cps.size = v.cps.size := by omega
  dsimp only
  rw [e1, e2]
  refine wpAny_bind (run_none rfl (clean_done hc) ?_)
  exact wpAny_pure ⟨_, rfl, hQ⟩
theorem search_meth {a : Addr} {o : Obj} {pl : Sem Bool} {Q : Value × List Value → Shared → Prop} (ho : s.heap.get? a = some o) (hc : o.cls = .type "re.Pattern") (hd : o.dict = none) (hQ : Q (.builtin "re.Pattern.search", [.ref a]) s) :
    wpAny (model prog w) A (getMethod (.ref a) "search" pl) Q E s :=
  getMethod_builtin ⟨o, ho, hc⟩ plainAttrs_pat slot_pat_search type_pat_search (fun b e => by cases e; exact ⟨o, ho, hd⟩) hQ
end
end
theorem look107 (P : Params) : (hd.heap_39 P).lookup 107 = some { cls := .type "re.Pattern", data := .fields #[.str (Str.ofString "[\\x00-\\x1F\\x7F]") 377, .int 32 400, .int 0 0, .none, .none, .ref 106, .int 0 0] } := by kernel_rfl
theorem look112 (P : Params) : (hd.heap_39 P).lookup 112 = some { cls := .type "re.Pattern", data := .fields #[.str (Str.ofString "[\\x00-\\x08\\x0A-\\x1F\\x7F]") 403, .int 32 434, .int 0 0, .none, .none, .ref 111, .int 0 0] } := by kernel_rfl
section
variable {prog : Program} {w : World} {A : Around} {E : Value → Shared → Prop} {s : Shared}
theorem search1 {v : Str} {t : Tok} {Q : Value → Shared → Prop} (x : (hd.heap_39 w.params).In s.heap) (hc : Clean code1 v) (hv : v.cps.size ≤ 1000) (hQ : Q .none s) :
    wpAny (model prog w) A (call (.builtin "re.Pattern.search") [.ref 107, .str v t]) Q E s :=
  search_none x (target1 _ _ v t) ⟨_, x _ _ (look107 _), rfl⟩ hv hc hQ
theorem search2 {v : Str} {t : Tok} {Q : Value → Shared → Prop} (x : (hd.heap_39 w.params).In s.heap) (hc : Clean code2 v) (hv : v.cps.size ≤ 1000) (hQ : Q .none s) :
    wpAny (model prog w) A (call (.builtin "re.Pattern.search") [.ref 112, .str v t]) Q E s :=
  search_none x (target2 _ _ v t) ⟨_, x _ _ (look112 _), rfl⟩ hv hc hQ
theorem meth1 {pl : Sem Bool} {Q : Value × List Value → Shared → Prop} (x : (hd.heap_39 w.params).In s.heap) (hQ : Q (.builtin "re.Pattern.search", [.ref 107]) s) :
    wpAny (model prog w) A (getMethod (.ref 107) "search" pl) Q E s := search_meth (x _ _ (look107 _)) rfl rfl hQ
theorem meth2 {pl : Sem Bool} {Q : Value × List Value → Shared → Prop} (x : (hd.heap_39 w.params).In s.heap) (hQ : Q (.builtin "re.Pattern.search", [.ref 112]) s) :
    wpAny (model prog w) A (getMethod (.ref 112) "search" pl) Q E s := search_meth (x _ _ (look112 _)) rfl rfl hQ
end
end Mine
open PySem PySem.W PyProof.Rows
set_option Elab.async false
set_option maxRecDepth 100000
namespace Mine
/-- a state's name -/
def nm (i j : Nat) : Str := bl i 98 ++ Str.ofString "." ++ bl j 99
/-- .. in great letters -/
def NM (i j : Nat) : Str := bl i 66 ++ Str.ofString "." ++ bl j 67
theorem bl_len (i c : Nat) : (bl i c).cps.size = i + 1 := by simp [bl]
theorem dot_len : (Str.ofString ".").cps.size = 1 := by decide +kernel
theorem nm_len (i j : Nat) : (nm i j).length = i + j + 3 := by
  show (bl i 98 ++ Str.ofString "." ++ bl j 99).cps.size = _
  rw [Str.cps_append, Str.cps_append, Array.size_append, Array.size_append, bl_len, bl_len, dot_len]
  omega
theorem NM_len (i j : Nat) : (NM i j).length = i + j + 3 := by
  show (bl i 66 ++ Str.ofString "." ++ bl j 67).cps.size = _
  rw [Str.cps_append, Str.cps_append, Array.size_append, Array.size_append, bl_len, bl_len, dot_len]
  omega
theorem placed_map (x : Str) (f : Nat → Nat → List Nat) (u : Nat → Nat) (h : ∀ i c, x.cps[i]? = some c → f i c = [u c]) : placed x f = x.cps.map u := by
  unfold placed
  have e : (x.cps.mapIdx fun i c => (f i c).toArray) = x.cps.map fun c => #[u c] := by
    apply Array.ext (by simp)
    intro i h1 h2
    have hi : i < x.cps.size := by simpa using h1
    have q := h i x.cps[i] (Array.getElem?_eq_getElem hi)
    simp [q]
  rw [e]
  apply Array.ext'
  simp [Array.toList_flatten, List.map_map]
  generalize x.cps.toList = l
  induction l with
  | nil => rfl
  | cons a l ih => simpa using ih
/-- the figures of a name's signs -/
theorem nm_cps (i j : Nat) : (nm i j).cps = (List.replicate i 32 ++ [98] ++ [46] ++ List.replicate j 32 ++ [99]).toArray := by
  show (bl i 98 ++ Str.ofString "." ++ bl j 99).cps = _
  rw [Str.cps_append, Str.cps_append, show (Str.ofString ".").cps = #[46] from by decide +kernel]
  apply Array.ext'
  simp [bl]
theorem NM_cps (i j : Nat) : (NM i j).cps = (List.replicate i 32 ++ [66] ++ [46] ++ List.replicate j 32 ++ [67]).toArray := by
  show (bl i 66 ++ Str.ofString "." ++ bl j 67).cps = _
  rw [Str.cps_append, Str.cps_append, show (Str.ofString ".").cps = #[46] from by decide +kernel]
  apply Array.ext'
  simp [bl]
theorem nm_mem {i j k c : Nat} (h : (nm i j).cps[k]? = some c) : c = 32 ∨ c = 98 ∨ c = 46 ∨ c = 99 := by
  have hm : c ∈ (nm i j).cps := Array.mem_of_getElem? h
  rw [nm_cps] at hm
  simp only [List.mem_toArray, List.mem_append, List.mem_replicate, List.mem_singleton] at hm
  omega
theorem NM_mem {i j k c : Nat} (h : (NM i j).cps[k]? = some c) : c = 32 ∨ c = 66 ∨ c = 46 ∨ c = 67 := by
  have hm : c ∈ (NM i j).cps := Array.mem_of_getElem? h
  rw [NM_cps] at hm
  simp only [List.mem_toArray, List.mem_append, List.mem_replicate, List.mem_singleton] at hm
  omega
def upN (c : Nat) : Nat := if c = 98 then 66 else if c = 99 then 67 else c
def loN (c : Nat) : Nat := if c = 66 then 98 else if c = 67 then 99 else c
theorem up4 : Unicode.upperOf 32 = [32] ∧ Unicode.upperOf 98 = [66] ∧ Unicode.upperOf 46 = [46] ∧ Unicode.upperOf 99 = [67] := by decide +kernel
theorem lo6 : Unicode.lowerOf 32 = [32] ∧ Unicode.lowerOf 98 = [98] ∧ Unicode.lowerOf 46 = [46] ∧ Unicode.lowerOf 99 = [99] ∧ Unicode.lowerOf 66 = [98] ∧ Unicode.lowerOf 67 = [99] := by decide +kernel
theorem low_at {x : Array Nat} {i c : Nat} (h : x[i]? = some c) (hc : c < 128) : Unicode.lowerAt x i = Unicode.lowerOf c := by
  unfold Unicode.lowerAt
  rw [h]
  have e : (c == 0x3A3) = false := by simp; omega
  simp [e]
theorem up_nm (i j : Nat) : Txt.upper (nm i j) = NM i j := by
  unfold Txt.upper
  rw [placed_map (u := upN)]
  · show (⟨_⟩ : Str) = ⟨(NM i j).cps⟩
    rw [nm_cps, NM_cps]
    congr 1
    simp [upN]
  · intro k c h
    obtain ⟨a, b, d, e⟩ := up4
    rcases nm_mem h with rfl | rfl | rfl | rfl <;> simp [upN, *]
theorem low_NM (i j : Nat) : Txt.lower (NM i j) = nm i j := by
  unfold Txt.lower
  rw [placed_map (u := loN)]
  · show (⟨_⟩ : Str) = ⟨(nm i j).cps⟩
    rw [nm_cps, NM_cps]
    congr 1
    simp [loN]
  · intro k c h
    obtain ⟨a, b, d, e, f, g⟩ := lo6
    rw [low_at h (by rcases NM_mem h with rfl | rfl | rfl | rfl <;> omega)]
    rcases NM_mem h with rfl | rfl | rfl | rfl <;> simp [loN, *]
theorem low_nm (i j : Nat) : Txt.lower (nm i j) = nm i j := by
  unfold Txt.lower
  rw [placed_map (u := loN)]
  · show (⟨_⟩ : Str) = ⟨(nm i j).cps⟩
    rw [nm_cps]
    congr 1
    simp [loN]
  · intro k c h
    obtain ⟨a, b, d, e, f, g⟩ := lo6
    rw [low_at h (by rcases nm_mem h with rfl | rfl | rfl | rfl <;> omega)]
    rcases nm_mem h with rfl | rfl | rfl | rfl <;> simp [loN, *]
theorem clean_nm : ∀ i ≤ 9, ∀ j ≤ 9, Clean code1 (nm i j) := by decide +kernel
def dec (x : Str) : Nat × Nat := ((x.cps.toList.takeWhile (· == 32)).length, x.cps.size - (x.cps.toList.takeWhile (· == 32)).length - 3)
theorem dec_nm : ∀ i ≤ 9, ∀ j ≤ 9, dec (nm i j) = (i, j) := by decide +kernel
theorem nm_inj {i j i' j' : Nat} (hi : i ≤ 9) (hj : j ≤ 9) (hi' : i' ≤ 9) (hj' : j' ≤ 9) (e : nm i j = nm i' j') : i = i' ∧ j = j' := by
  have q := congrArg dec e
  rw [dec_nm i hi j hj, dec_nm i' hi' j' hj'] at q
  exact Prod.mk.inj q
/-- a level's figure -/
def dg (n : Nat) : Str := ⟨#[48 + n]⟩
theorem clean_dg : ∀ n ≤ 9, Clean code2 (dg n) := by decide +kernel
theorem dg_inj {n n' : Nat} (e : dg n = dg n') : n = n' := by
  have := congrArg (fun x : Str => x.cps.toList) e
  simp only [dg, List.cons.injEq] at this
  omega
end Mine
open PySem PySem.W PyProof.Rows
set_option Elab.async false
namespace Mine
abbrev Led : Type := List (Addr × Obj)
abbrev tupO (vs : Array Value) (nn : Nat) : Obj := { cls := .type "tuple", data := .seq vs nn }
theorem allLt_mem {d : Addr} : ∀ {l : Led}, AllLt d l → ∀ p ∈ l, @LT.lt Nat _ p.1 d
  | [], _, _, h => nomatch h
  | _ :: _, x, p, h => by
    rcases List.mem_cons.mp h with rfl | h
    · exact x.1
    · exact allLt_mem x.2 p h
/-- the ledger bears these pairs of texts -/
inductive Ents (news : Led) : List Value → List (Str × Str) → Prop
  | nil : Ents news [] []
  | cons {a : Addr} {k x : Str} {t1 t2 : Tok} {nn : Nat} {vs : List Value} {es : List (Str × Str)} : (a, tupO #[.str k t1, .str x t2] nn) ∈ news → Ents news vs es → Ents news (.ref a :: vs) ((k, x) :: es)
theorem Ents.mono {news news' : Led} (h : ∀ a vs nn, (a, tupO vs nn) ∈ news → (a, tupO vs nn) ∈ news') : ∀ {vs : List Value} {es : List (Str × Str)}, Ents news vs es → Ents news' vs es
  | _, _, .nil => .nil
  | _, _, .cons hm r => .cons (h _ _ _ hm) (r.mono h)
theorem Ents.length {news : Led} : ∀ {vs : List Value} {es : List (Str × Str)}, Ents news vs es → vs.length = es.length
  | _, _, .nil => rfl
  | _, _, .cons _ r => by simp [r.length]
theorem Ents.get {news : Led} : ∀ {vs : List Value} {es : List (Str × Str)}, Ents news vs es → ∀ {i : Nat} {v : Value}, vs[i]? = some v → ∃ a k x t1 t2 nn, v = .ref a ∧ es[i]? = some (k, x) ∧ (a, tupO #[.str k t1, .str x t2] nn) ∈ news
  | _, _, .nil, i, v, e => by simp at e
  | _, _, .cons hm r, 0, v, e => by simp at e; subst e; exact ⟨_, _, _, _, _, _, rfl, rfl, hm⟩
  | _, _, .cons hm r, i + 1, v, e => r.get (by simpa using e)
theorem Ents.snoc {news : Led} {a : Addr} {k x : Str} {t1 t2 : Tok} {nn : Nat} (hm : (a, tupO #[.str k t1, .str x t2] nn) ∈ news) : ∀ {vs : List Value} {es : List (Str × Str)}, Ents news vs es → Ents news (vs ++ [.ref a]) (es ++ [(k, x)])
  | _, _, .nil => .cons hm .nil
  | _, _, .cons h r => .cons h (r.snoc hm)
/-- the names are small letters' -/
def Small (es : List (Str × Str)) : Prop := ∀ p ∈ es, ∃ i j, i ≤ 9 ∧ j ≤ 9 ∧ p.1 = nm i j
noncomputable def seek (n : Str) : List (Str × Str) → Option Str
  | [] => none
  | p :: r => if p.1 = n then some p.2 else seek n r
theorem seek_skip {n : Str} : ∀ {es : List (Str × Str)} {i : Nat}, (∀ j < i, ∀ p, es[j]? = some p → p.1 ≠ n) → seek n es = seek n (es.drop i)
  | [], i, _ => by simp
  | p :: r, 0, _ => rfl
  | p :: r, i + 1, h => by
    have h0 := h 0 (by omega) p rfl
    rw [show seek n (p :: r) = if p.1 = n then some p.2 else seek n r from rfl, if_neg h0, List.drop_succ_cons]
    exact seek_skip fun j hj q hq => h (j + 1) (Nat.succ_lt_succ hj) q (by simpa using hq)
theorem seek_here {n x : Str} {es : List (Str × Str)} {i : Nat} (h : ∀ j < i, ∀ p, es[j]? = some p → p.1 ≠ n) (hi : es[i]? = some (n, x)) : seek n es = some x := by
  rw [seek_skip h, List.drop_eq_getElem_cons (List.getElem?_eq_some_iff.mp hi).1, (List.getElem?_eq_some_iff.mp hi).2]
  simp [seek]
theorem seek_gone {n : Str} {es : List (Str × Str)} (h : ∀ j < es.length, ∀ p, es[j]? = some p → p.1 ≠ n) : seek n es = none := by
  rw [seek_skip h, List.drop_length]; rfl
theorem seek_none {n : Str} : ∀ {es : List (Str × Str)}, seek n es = none → ∀ p ∈ es, p.1 ≠ n
  | [], _, _, h => nomatch h
  | q :: r, h, p, hp => by
    rw [show seek n (q :: r) = if q.1 = n then some q.2 else seek n r from rfl] at h
    by_cases e : q.1 = n
    · rw [if_pos e] at h; cases h
    · rw [if_neg e] at h
      rcases List.mem_cons.mp hp with rfl | hp
      · exact e
      · exact seek_none h p hp
end Mine
section
open PySem PySem.W PyProof.Rows Mine
set_option Elab.async false
set_option maxRecDepth 100000
set_option maxHeartbeats 8000000
set_option pp.maxSteps 6000
local macro_rules | `(tactic| walk_at "SrcAt") => `(tactic| fail)
local macro_rules | `(tactic| walk_at "TestAt") => `(tactic| fail)
local macro_rules | `(tactic| walk_at "TurnEnd") => `(tactic| fail)
local macro_rules | `(tactic| walk_at "binaryOp Add str str") => `(tactic| fail)
local macro_rules | `(tactic| walk_at "binaryOp Mult str int") => `(tactic| fail)
local macro_rules | `(tactic| walk_at "call builtin:hasattr") => `(tactic| fail)
local macro_rules | `(tactic| walk_at "call builtin:len") => `(tactic| fail)
local macro_rules | `(tactic| walk_at "call builtin:list.append") => `(tactic| fail)
local macro_rules | `(tactic| walk_at "call builtin:str.lower") => `(tactic| fail)
local macro_rules | `(tactic| walk_at "call builtin:str.upper") => `(tactic| fail)
local macro_rules | `(tactic| walk_at "call ref") => `(tactic| fail)
local macro_rules | `(tactic| walk_at "call ref") => `(tactic| fail)
local macro_rules | `(tactic| walk_at "call ref") => `(tactic| fail)
local macro_rules | `(tactic| walk_at "call ref") => `(tactic| fail)
local macro_rules | `(tactic| walk_at "call ref") => `(tactic| fail)
local macro_rules | `(tactic| walk_at "call ref") => `(tactic| fail)
local macro_rules | `(tactic| walk_at "call ref") => `(tactic| fail)
local macro_rules | `(tactic| walk_at "call ref") => `(tactic| fail)
local macro_rules | `(tactic| walk_at "call ref") => `(tactic| fail)
local macro_rules | `(tactic| walk_at "call ref") => `(tactic| fail)
local macro_rules | `(tactic| walk_at "call ref") => `(tactic| fail)
local macro_rules | `(tactic| walk_at "call type:str") => `(tactic| fail)
local macro_rules | `(tactic| walk_at "delItem ref") => `(tactic| fail)
local macro_rules | `(tactic| walk_at "eval ListComp") => `(tactic| fail)
local macro_rules | `(tactic| walk_at "eval Name") => `(tactic| fail)
local macro_rules | `(tactic| walk_at "exec For") => `(tactic| fail)
local macro_rules | `(tactic| walk_at "exec For Name Call") => `(tactic| fail)
local macro_rules | `(tactic| walk_at "exec For Name Call cons cons") => `(tactic| fail)
local macro_rules | `(tactic| walk_at "exec For Name Call cons nil") => `(tactic| fail)
local macro_rules | `(tactic| walk_at "exec For Tuple Attribute cons nil") => `(tactic| fail)
local macro_rules | `(tactic| walk_at "exec For Tuple Name cons cons") => `(tactic| fail)
local macro_rules | `(tactic| walk_at "exec For Tuple Name cons nil") => `(tactic| fail)
local macro_rules | `(tactic| walk_at "pyIter ref") => `(tactic| fail)
local macro_rules | `(tactic| walk_at "setItem ref ref") => `(tactic| fail)
local macro_rules | `(tactic| walk_at "setItem ref str") => `(tactic| fail)
local macro_rules | `(tactic| walk_at "mine pad") => `(tactic| fail)
local macro_rules | `(tactic| walk_at "mine pad") => `(tactic| fail)
local macro_rules | `(tactic| k_room) => `(tactic| ktr_room)
local macro_rules | `(tactic| k_units) => `(tactic| ktr_units)
local macro_rules | `(tactic| k_enter) => `(tactic| first
  | (refine' code_def ?k1 ?k2 ?k3 ?k4 ?k5 ?kA ?kF ?kK ?k6 ?k7 ?k8 ?k9 ?kB ?_ ?c2 ?c3 ?c4 ?c5; (case kA => exact rfl); (case kF => exact rfl); (case kK => first | exact rfl | assumption); (case k1 => k_asm); (case k2 => k_asm); (case k3 => k_asm); (case k4 => k_asm); (case k5 => k_asm); (case k6 => k_is); (case k7 => k_is); (case k8 => ktr_room); (case k9 => first | exact BindsTo.of_eq rfl | exact binds_K (by k_in) rfl (by k_is) rfl rfl rfl | fail "k_enter: no rule for these arguments"); (case c5 => decide); (case kB => exact locs rfl); (case c2 => exact rfl); (case c3 => exact rfl); (case c4 => exact rfl); k_whole; intro g' L' h' FG' F' N' B' X' T'; (try dsimp only); (try k_lift B'); (try k_fold))
  | (refine' code_defC ?k1 ?k2 ?k3 ?k4 ?k5 ?kA ?kF ?kK ?k6 ?k7 ?k8 ?k9 ?kB ?kD ?_ ?c2 ?c3 ?c4; (case kA => exact rfl); (case kF => exact rfl); (case kK => first | exact rfl | assumption); (case k1 => k_asm); (case k2 => k_asm); (case k3 => k_asm); (case k4 => k_asm); (case k5 => k_asm); (case k6 => k_is); (case k7 => k_is); (case k8 => ktr_room); (case k9 => first | exact BindsTo.of_eq rfl | exact binds_K (by k_in) rfl (by k_is) rfl rfl rfl | fail "k_enter: no rule for these arguments"); (case kB => exact rfl); (case kD => decide +kernel); (case c2 => exact rfl); (case c3 => exact rfl); (case c4 => exact rfl); k_whole; intro g' L' h' tk' cells' FG' F' N' Y' B' X' T' l1; (try k_lt l1); k_cells Y'; (try simp only [List.cons_append, List.nil_append] at N'); (try dsimp only); (try k_lift B'); (try k_fold)))

local macro_rules | `(tactic| walk_at "exec While") => `(tactic| refine Halt.in ?_)
local macro_rules | `(tactic| walk_at "WhileStep2") => `(tactic| refine Halt.in ?_)
local macro_rules | `(tactic| walk_at "subscriptTail Name Name str int") => `(tactic| ((with_reducible show wpAny _ _ (subscriptTail _ _ (Value.str (bl _ _) _) (Value.int _ _)) _ _ _); (refine sub_bl (by assumption) (by assumption) (by omega) (by omega) ?_ ?_ ?_) <;> intros <;> first | (exfalso; omega) | skip))
local macro_rules | `(tactic| walk_at "subscriptTail Name Slice str ref") => `(tactic| ((with_reducible show wpAny _ _ (subscriptTail _ _ (Value.str (bl _ _) _) (Value.ref _)) _ _ _); (with_reducible rename Fr _ _ _ _ => F'); (with_reducible rename News _ _ _ _ => N'); (refine slice_bl (s := ⟨_, _, _, _, _⟩) (by assumption) (by assumption) (by omega) (by omega) (by omega) F' N' ?_); intro _ _ _ _ _))
local macro_rules | `(tactic| walk_at "call builtin:len") => `(tactic| ((with_reducible show wpAny _ _ (call (Value.builtin "len") [Value.str (bl _ _) _]) _ _ _); (refine len_writK _ (len_bl _ _) (by omega) ?_)))
theorem Mine.strip_ok (w : World) (i k c : Nat) (hc : IsL c) (hi : i ≤ 10) (hkk : k ≤ 10) (t1 t2 : Tok) (news : List (Addr × Obj)) :
    Told w 1 95 [.str (bl i c) t1, .int k t2] [] news (fun r news' => news = news' ∧ ∃ t, r = .str (bl (i - k) c) t) := by
  unfold Told PR
  k_fill
  intro mean mg mb dp un gd cn cs a ccd cl outer A₀ base h₀ L m s Q E B F X N T hk hdp hun hret
  refine wpAny_call ?_
  k_enter
  clear F N
  k_steps
  rename Fr _ _ _ _ => F1
  rename News _ _ _ _ => N1
  refine Halt.out ?_
  refine While_inv2 (fun n m₁ news₁ => news = news₁ ∧ ∃ (j : Nat) (ta tl : Tok), n = k - j ∧ j ≤ i ∧ j ≤ k ∧ ∀ p ∈ [(Str.ofString "lpos", Value.int j tl), (Str.ofString "amount", Value.int ((k - j : Nat) : Int) ta), (Str.ofString "s", Value.str (bl i c) t1)], m₁ p.1 = some p.2) F1 N1 (n₀ := k)
    ⟨rfl, 0, t2, _, rfl, Nat.zero_le _, Nat.zero_le _, all1 rfl (all1 rfl (all1 rfl all0))⟩ ?_
  rintro n m₁ news₁ h₁ tk₁ F2 N2 ⟨e, j, ta, tl, hn, hji, hjk, hp⟩
  subst e
  replace F2 := canon _ F2 hp
  clear F1 N1
  k_steps
  all_goals refine Halt.out ?_
  · have hj0 : (k - j : Nat) ≠ 0 := by intro e; simp_all
    have e1 : ((j : Int) + 1) = ((j + 1 : Nat) : Int) := by omega
    have e2 : (((k - j : Nat) : Int) - 1) = ((k - (j + 1) : Nat) : Int) := by omega
    exact ⟨_, _, _, _, k - (j + 1), rfl, by assumption, by assumption, by omega, rfl, j + 1, _, _, rfl, by omega, by omega, all1 (by rw [← e1]; rfl) (all1 (by rw [← e2]; rfl) (all1 rfl all0))⟩
  all_goals (
    rename Fr _ _ _ _ => F3
    rename News _ _ _ _ => N3
    refine While_inv2 (fun n m₂ news₂ => news = news₂ ∧ ∃ tr, ∀ p ∈ [(Str.ofString "rpos", Value.int ((i + 1 : Nat) - 1) tr), (Str.ofString "lpos", Value.int j tl), (Str.ofString "amount", Value.int ((k - j : Nat) : Int) ta), (Str.ofString "s", Value.str (bl i c) t1)], m₂ p.1 = some p.2) F3 N3 (n₀ := 0)
      ⟨rfl, _, all1 rfl (all1 rfl (all1 rfl (all1 rfl all0)))⟩ ?_
    rintro n m₂ news₂ h₂ tk₂ F4 N4 ⟨e, tr, hp4⟩
    subst e
    replace F4 := canon _ F4 hp4
    clear F3 N3
    k_steps)
  all_goals (
    have e : i - (j : Int).toNat = i - k := by first | omega | (simp only [bne_iff_ne, ne_eq, Decidable.not_not, Bool.not_eq_true, bne_eq_false_iff_eq] at *; omega)
    exact hret _ _ _ _ (by assumption) (by assumption) ⟨rfl, _, by rw [e]⟩)
theorem Mine.strip_z (w : World) (i c : Nat) (z : Int) (hc : IsL c) (hi : i ≤ 10) (h0 : 0 ≤ z) (h1 : z ≤ 10) (t1 t2 : Tok) (news : List (Addr × Obj)) :
    Told w 1 95 [.str (bl i c) t1, .int z t2] [] news (fun r news' => news = news' ∧ ∃ t, r = .str (bl (i - z.toNat) c) t) := by
  obtain ⟨k, rfl⟩ := Int.eq_ofNat_of_zero_le h0
  exact strip_ok w i k c hc hi (by omega) t1 t2 news
theorem Mine.name_ok (w : World) (x y : Str) (hx : x.length ≤ 1000) (hy : y.length ≤ 1000) (tp : Addr) (t1 t2 : Tok) (nn : Nat) (news : List (Addr × Obj)) :
    Told w 1 102 [.ref tp] [] ((tp, { cls := .type "tuple", data := .seq #[.str x t1, .str y t2] nn }) :: news) (fun r news' => (tp, { cls := .type "tuple", data := .seq #[.str x t1, .str y t2] nn }) :: news = news' ∧ ∃ t, r = .str (x ++ Str.ofString "." ++ y) t) := by
  unfold Told PR
  k_fill
  intro mean mg mb dp un gd cn cs a ccd cl outer A₀ base h₀ L m s Q E B F X N T hk hdp hun hret
  refine wpAny_call ?_
  k_enter
  clear F N
  k_steps
  exact hret _ _ _ _ (by assumption) (by assumption) ⟨rfl, _, rfl⟩
local macro_rules | `(tactic| walk_at "getMethod ref") => `(tactic| (k_dflt (first | (refine' meth1 ?kx ?_; (case kx => k_in)) | (refine' meth2 ?kx ?_; (case kx => k_in)))))
local macro_rules | `(tactic| walk_at "call builtin:re.Pattern.search") => `(tactic| (k_dflt (first | (refine' search1 ?kx ?kc ?kv ?_; (case kx => k_in); (case kc => assumption); (case kv => assumption)) | (refine' search2 ?kx ?kc ?kv ?_; (case kx => k_in); (case kc => assumption); (case kv => assumption)))))
theorem Mine.conv1_ok (w : World) (tb : Addr) (v : Str) (t : Tok) (hv : v.cps.size ≤ 1000) (hc : Clean code1 v) (news : List (Addr × Obj)) :
    Told w 1 134 [.ref tb, .str v t] [(Str.ofString "name", .bool true)] news (fun r news' => news = news' ∧ r = .str v t) := by
  unfold Told PR
  k_fill
  intro mean mg mb dp un gd cn cs a ccd cl outer A₀ base h₀ L m s Q E B F X N T hk hdp hun hret
  refine wpAny_call ?_
  k_enter
  clear F N
  k_steps
  exact hret _ _ _ _ (by assumption) (by assumption) ⟨rfl, rfl⟩
theorem Mine.conv2_ok (w : World) (tb : Addr) (v : Str) (t : Tok) (hv : v.cps.size ≤ 1000) (hc : Clean code2 v) (news : List (Addr × Obj)) :
    Told w 1 134 [.ref tb, .str v t] [(Str.ofString "name", .bool false)] news (fun r news' => news = news' ∧ r = .str v t) := by
  unfold Told PR
  k_fill
  intro mean mg mb dp un gd cn cs a ccd cl outer A₀ base h₀ L m s Q E B F X N T hk hdp hun hret
  refine wpAny_call ?_
  k_enter
  clear F N
  k_steps
  exact hret _ _ _ _ (by assumption) (by assumption) ⟨rfl, rfl⟩
end
open PySem PySem.W PyProof.Rows
set_option Elab.async false
namespace Mine
section
variable {prog : Program} {w : World} {A : Around} {E : Value → Shared → Prop} {s : Shared} {t u : Tok} {Q : Value → Shared → Prop} {i j : Nat}
theorem low1 (hi : i ≤ 9) (hj : j ≤ 9) (h : Q (.str (nm i j) s.toks) { s with toks := s.toks + 1 }) : wpAny (model prog w) A (call (.builtin "str.lower") [.str (NM i j) t]) Q E s :=
  SCL.lower (by rw [NM_len]; omega) fun _ => by rw [low_NM]; exact h
theorem low2 (hi : i ≤ 9) (hj : j ≤ 9) (h : Q (.str (nm i j) s.toks) { s with toks := s.toks + 1 }) : wpAny (model prog w) A (call (.builtin "str.lower") [.str (nm i j) t]) Q E s :=
  SCL.lower (by rw [nm_len]; omega) fun _ => by rw [low_nm]; exact h
theorem up1 (hi : i ≤ 9) (hj : j ≤ 9) (h : Q (.str (NM i j) s.toks) { s with toks := s.toks + 1 }) : wpAny (model prog w) A (call (.builtin "str.upper") [.str (nm i j) t]) Q E s :=
  SCL.upper (by rw [nm_len]; omega) fun _ => by rw [up_nm]; exact h
theorem conv_nm (w : World) (tb : Addr) (i j : Nat) (hi : i ≤ 9) (hj : j ≤ 9) (t : Tok) (news : List (Addr × Obj)) :
    Told w 1 134 [.ref tb, .str (nm i j) t] [(Str.ofString "name", .bool true)] news (fun r news' => news = news' ∧ r = .str (nm i j) t) :=
  conv1_ok w tb (nm i j) t (by have := nm_len i j; unfold Str.length at this; omega) (clean_nm i hi j hj) news
theorem conv_dg (w : World) (tb : Addr) (n : Nat) (hn : n ≤ 9) (t : Tok) (news : List (Addr × Obj)) :
    Told w 1 134 [.ref tb, .str (dg n) t] [(Str.ofString "name", .bool false)] news (fun r news' => news = news' ∧ r = .str (dg n) t) :=
  conv2_ok w tb (dg n) t (by simp [dg]) (clean_dg n hn) news
end
end Mine
section
open PySem PySem.W PyProof.Rows Mine
set_option Elab.async false
set_option maxRecDepth 100000
set_option maxHeartbeats 8000000
set_option pp.maxSteps 6000
local macro_rules | `(tactic| walk_at "SrcAt") => `(tactic| fail)
local macro_rules | `(tactic| walk_at "TestAt") => `(tactic| fail)
local macro_rules | `(tactic| walk_at "WhileStep2") => `(tactic| fail)
local macro_rules | `(tactic| walk_at "binaryOp Add str str") => `(tactic| fail)
local macro_rules | `(tactic| walk_at "binaryOp Mult str int") => `(tactic| fail)
local macro_rules | `(tactic| walk_at "call builtin:hasattr") => `(tactic| fail)
local macro_rules | `(tactic| walk_at "call builtin:len") => `(tactic| fail)
local macro_rules | `(tactic| walk_at "call builtin:len") => `(tactic| fail)
local macro_rules | `(tactic| walk_at "call builtin:list.append") => `(tactic| fail)
local macro_rules | `(tactic| walk_at "call builtin:re.Pattern.search") => `(tactic| fail)
local macro_rules | `(tactic| walk_at "call ref") => `(tactic| fail)
local macro_rules | `(tactic| walk_at "call ref") => `(tactic| fail)
local macro_rules | `(tactic| walk_at "call ref") => `(tactic| fail)
local macro_rules | `(tactic| walk_at "call ref") => `(tactic| fail)
local macro_rules | `(tactic| walk_at "call ref") => `(tactic| fail)
local macro_rules | `(tactic| walk_at "call ref") => `(tactic| fail)
local macro_rules | `(tactic| walk_at "call ref") => `(tactic| fail)
local macro_rules | `(tactic| walk_at "call ref") => `(tactic| fail)
local macro_rules | `(tactic| walk_at "call ref") => `(tactic| fail)
local macro_rules | `(tactic| walk_at "call ref") => `(tactic| fail)
local macro_rules | `(tactic| walk_at "call type:str") => `(tactic| fail)
local macro_rules | `(tactic| walk_at "delItem ref") => `(tactic| fail)
local macro_rules | `(tactic| walk_at "eval ListComp") => `(tactic| fail)
local macro_rules | `(tactic| walk_at "eval Name") => `(tactic| fail)
local macro_rules | `(tactic| walk_at "exec For") => `(tactic| fail)
local macro_rules | `(tactic| walk_at "exec For Name Call") => `(tactic| fail)
local macro_rules | `(tactic| walk_at "exec For Name Call cons cons") => `(tactic| fail)
local macro_rules | `(tactic| walk_at "exec For Tuple Name cons cons") => `(tactic| fail)
local macro_rules | `(tactic| walk_at "exec While") => `(tactic| fail)
local macro_rules | `(tactic| walk_at "getMethod ref") => `(tactic| fail)
local macro_rules | `(tactic| walk_at "setItem ref ref") => `(tactic| fail)
local macro_rules | `(tactic| walk_at "setItem ref str") => `(tactic| fail)
local macro_rules | `(tactic| walk_at "subscriptTail Name Name str int") => `(tactic| fail)
local macro_rules | `(tactic| walk_at "subscriptTail Name Slice str ref") => `(tactic| fail)
local macro_rules | `(tactic| walk_at "mine pad") => `(tactic| fail)
local macro_rules | `(tactic| walk_at "mine pad") => `(tactic| fail)
local macro_rules | `(tactic| walk_at "mine pad") => `(tactic| fail)
local macro_rules | `(tactic| k_room) => `(tactic| ktr_room)
local macro_rules | `(tactic| k_units) => `(tactic| ktr_units)
local macro_rules | `(tactic| k_enter) => `(tactic| first
  | (refine' code_def ?k1 ?k2 ?k3 ?k4 ?k5 ?kA ?kF ?kK ?k6 ?k7 ?k8 ?k9 ?kB ?_ ?c2 ?c3 ?c4 ?c5; (case kA => exact rfl); (case kF => exact rfl); (case kK => first | exact rfl | assumption); (case k1 => k_asm); (case k2 => k_asm); (case k3 => k_asm); (case k4 => k_asm); (case k5 => k_asm); (case k6 => k_is); (case k7 => k_is); (case k8 => ktr_room); (case k9 => first | exact BindsTo.of_eq rfl | exact binds_K (by k_in) rfl (by k_is) rfl rfl rfl | fail "k_enter: no rule for these arguments"); (case c5 => decide); (case kB => exact locs rfl); (case c2 => exact rfl); (case c3 => exact rfl); (case c4 => exact rfl); k_whole; intro g' L' h' FG' F' N' B' X' T'; (try dsimp only); (try k_lift B'); (try k_fold))
  | (refine' code_defC ?k1 ?k2 ?k3 ?k4 ?k5 ?kA ?kF ?kK ?k6 ?k7 ?k8 ?k9 ?kB ?kD ?_ ?c2 ?c3 ?c4; (case kA => exact rfl); (case kF => exact rfl); (case kK => first | exact rfl | assumption); (case k1 => k_asm); (case k2 => k_asm); (case k3 => k_asm); (case k4 => k_asm); (case k5 => k_asm); (case k6 => k_is); (case k7 => k_is); (case k8 => ktr_room); (case k9 => first | exact BindsTo.of_eq rfl | exact binds_K (by k_in) rfl (by k_is) rfl rfl rfl | fail "k_enter: no rule for these arguments"); (case kB => exact rfl); (case kD => decide +kernel); (case c2 => exact rfl); (case c3 => exact rfl); (case c4 => exact rfl); k_whole; intro g' L' h' tk' cells' FG' F' N' Y' B' X' T' l1; (try k_lt l1); k_cells Y'; (try simp only [List.cons_append, List.nil_append] at N'); (try dsimp only); (try k_lift B'); (try k_fold)))
local macro_rules | `(tactic| walk_at "call ref") => `(tactic| (k_dflt (refine' Told.use (conv_nm _ _ _ _ ?hi ?hj _ _) ?B ?F ?X ?N ?T ?hk ?hd ?hu ?_; (case B => k_asm); (case F => k_asm); (case X => k_asm); (case N => k_asm); (case T => k_asm); (case hk => first | exact rfl | assumption); (case hd => ktr_room); (case hu => ktr_units); (case hi => assumption); (case hj => assumption)); intro r' h' tk' news' F' N' hp'; obtain ⟨e1', e2'⟩ := hp'; subst e1'; subst e2'; (try dsimp only)))
local macro_rules | `(tactic| walk_at "call builtin:str.lower") => `(tactic| (first | refine low1 (by assumption) (by assumption) ?_ | refine low2 (by assumption) (by assumption) ?_))
local macro_rules | `(tactic| walk_at "call builtin:str.upper") => `(tactic| (refine up1 (by assumption) (by assumption) ?_))
local macro_rules | `(tactic| walk_at "exec For Tuple Attribute cons nil") => `(tactic| refine Halt.in ?_)
local macro_rules | `(tactic| walk_at "exec For Tuple Name cons nil") => `(tactic| refine Halt.in ?_)
local macro_rules | `(tactic| walk_at "exec For Name Call cons nil") => `(tactic| refine Halt.in ?_)
local macro_rules | `(tactic| walk_at "pyIter ref") => `(tactic| refine Halt.in ?_)
local macro_rules | `(tactic| walk_at "TurnEnd") => `(tactic| first | refine TurnEnd.ret ?_ | refine Halt.in ?_)

theorem Mine.get_ok (w : World) (tb d l : Addr) (i j : Nat) (hi : i ≤ 9) (hj : j ≤ 9) (t tk : Tok) (n1 nn : Nat) (vs : List Value) (es : List (Str × Str)) (news : Led)
    (h1 : (tb, instObj 235 d) ∈ news) (h2 : (d, dictOf [⟨PyData.keyHash w.params (Str.ofString "_headers"), .str (Str.ofString "_headers") tk, .ref l⟩] n1) ∈ news) (h3 : (l, W.listOf vs.toArray nn) ∈ news) (h4 : Ents news vs es) (h5 : Small es) :
    Told w 3 182 [.ref tb, .str (NM i j) t] [] news (fun r news' => news = news' ∧ ((seek (nm i j) es = none ∧ r = .none) ∨ ∃ x tx, seek (nm i j) es = some x ∧ r = .str x tx)) := by
  unfold Told PR
  k_fill
  intro mean mg mb dp un gd cn cs a ccd cl outer A₀ base h₀ L m s Q E B F X N T hk hdp hun hret
  refine wpAny_call ?_
  k_enter
  clear F N
  k_steps
  refine Halt.out ?_
  refine wpAny_For ?_ (by intro _; rfl)
  k_steps
  refine Halt.out ?_
  rename Fr _ _ _ _ => F1
  rename News _ _ _ _ => N1
  refine forL (vs := vs) (nn := nn) (fun n m' nx => news = nx ∧ (∃ tn, ∀ p ∈ [(Str.ofString "name", Value.str (nm i j) tn), (Str.ofString "self", Value.ref tb), (Str.ofString "default", Value.none)], m' p.1 = some p.2) ∧ ∀ q < n, ∀ p, es[q]? = some p → p.1 ≠ nm i j) rfl F1 N1 ⟨rfl, ⟨_, all1 rfl (all1 rfl (all1 rfl all0))⟩, fun _ h => absurd h (Nat.not_lt_zero _)⟩ ?_ ?_ ?_ (.inr ⟨_, _, _, rfl⟩) (by passes_own)
  · rintro n m' nx ⟨e, _⟩; subst e; exact h3
  · rintro n v m₁ nx I oI h tk' hv hoI hap ⟨e, ⟨tn, hp⟩, hq⟩ F2 N2
    subst e
    replace F2 := canon _ F2 hp
    clear F1 N1
    obtain ⟨a', k, x, t1, t2, n2, rfl, he, hm⟩ := h4.get hv
    obtain ⟨i', j', hi', hj', hk'⟩ := h5 _ (List.mem_of_getElem? he)
    dsimp only at hk'
    subst hk'
    replace N2 := News.dup N2 (List.mem_cons_of_mem _ hm)
    k_steps
    · rename (_ == _) = true => hb
      have hb' : nm i' j' = nm i j := beq_iff_eq.mp hb
      rename News h₀ _ _ _ => kN
      refine hret _ _ _ news (by assumption) (fun p hp => kN p (.tail _ (.tail _ hp))) ⟨rfl, .inr ⟨x, t2, seek_here hq (by rw [← hb']; exact he), rfl⟩⟩
    · rename (_ == _) = false => hb
      have hb' : nm i' j' ≠ nm i j := fun e => by rw [e] at hb; simp at hb
      rename News _ _ _ _ => N3
      refine Halt.out (TurnEnd.go news (by assumption) (fun p hp => N3 p (.tail _ hp)) hap ⟨rfl, ⟨tn, all1 rfl (all1 rfl (all1 rfl all0))⟩, fun q hq' p hp' => ?_⟩)
      rcases Nat.lt_succ_iff_lt_or_eq.mp hq' with h9 | rfl
      · exact hq q h9 p hp'
      · rw [he] at hp'; cases hp'; exact hb'
  · rintro m₁ nx h tk' ⟨e, ⟨tn, hp⟩, hq⟩ F2 N2
    subst e
    replace F2 := canon _ F2 hp
    clear F1 N1
    k_steps
    exact hret _ _ _ news (by assumption) (by assumption) ⟨rfl, .inl ⟨seek_gone (by rw [← h4.length]; exact hq), rfl⟩⟩
end
section
open PySem PySem.W PyProof.Rows Mine
set_option Elab.async false
set_option maxRecDepth 100000
set_option maxHeartbeats 8000000
set_option pp.maxSteps 6000
local macro_rules | `(tactic| walk_at "SrcAt") => `(tactic| fail)
local macro_rules | `(tactic| walk_at "TestAt") => `(tactic| fail)
local macro_rules | `(tactic| walk_at "TurnEnd") => `(tactic| fail)
local macro_rules | `(tactic| walk_at "WhileStep2") => `(tactic| fail)
local macro_rules | `(tactic| walk_at "binaryOp Add str str") => `(tactic| fail)
local macro_rules | `(tactic| walk_at "binaryOp Mult str int") => `(tactic| fail)
local macro_rules | `(tactic| walk_at "call builtin:hasattr") => `(tactic| fail)
local macro_rules | `(tactic| walk_at "call builtin:len") => `(tactic| fail)
local macro_rules | `(tactic| walk_at "call builtin:len") => `(tactic| fail)
local macro_rules | `(tactic| walk_at "call builtin:list.append") => `(tactic| fail)
local macro_rules | `(tactic| walk_at "call builtin:re.Pattern.search") => `(tactic| fail)
local macro_rules | `(tactic| walk_at "call builtin:str.lower") => `(tactic| fail)
local macro_rules | `(tactic| walk_at "call builtin:str.upper") => `(tactic| fail)
local macro_rules | `(tactic| walk_at "call ref") => `(tactic| fail)
local macro_rules | `(tactic| walk_at "call ref") => `(tactic| fail)
local macro_rules | `(tactic| walk_at "call ref") => `(tactic| fail)
local macro_rules | `(tactic| walk_at "call ref") => `(tactic| fail)
local macro_rules | `(tactic| walk_at "call ref") => `(tactic| fail)
local macro_rules | `(tactic| walk_at "call ref") => `(tactic| fail)
local macro_rules | `(tactic| walk_at "call ref") => `(tactic| fail)
local macro_rules | `(tactic| walk_at "call ref") => `(tactic| fail)
local macro_rules | `(tactic| walk_at "call type:str") => `(tactic| fail)
local macro_rules | `(tactic| walk_at "delItem ref") => `(tactic| fail)
local macro_rules | `(tactic| walk_at "eval ListComp") => `(tactic| fail)
local macro_rules | `(tactic| walk_at "eval Name") => `(tactic| fail)
local macro_rules | `(tactic| walk_at "exec For") => `(tactic| fail)
local macro_rules | `(tactic| walk_at "exec For Name Call") => `(tactic| fail)
local macro_rules | `(tactic| walk_at "exec For Name Call cons cons") => `(tactic| fail)
local macro_rules | `(tactic| walk_at "exec For Name Call cons nil") => `(tactic| fail)
local macro_rules | `(tactic| walk_at "exec For Tuple Attribute cons nil") => `(tactic| fail)
local macro_rules | `(tactic| walk_at "exec For Tuple Name cons cons") => `(tactic| fail)
local macro_rules | `(tactic| walk_at "exec For Tuple Name cons nil") => `(tactic| fail)
local macro_rules | `(tactic| walk_at "exec While") => `(tactic| fail)
local macro_rules | `(tactic| walk_at "getMethod ref") => `(tactic| fail)
local macro_rules | `(tactic| walk_at "pyIter ref") => `(tactic| fail)
local macro_rules | `(tactic| walk_at "setItem ref ref") => `(tactic| fail)
local macro_rules | `(tactic| walk_at "setItem ref str") => `(tactic| fail)
local macro_rules | `(tactic| walk_at "subscriptTail Name Name str int") => `(tactic| fail)
local macro_rules | `(tactic| walk_at "subscriptTail Name Slice str ref") => `(tactic| fail)
local macro_rules | `(tactic| walk_at "mine pad") => `(tactic| fail)
local macro_rules | `(tactic| walk_at "mine pad") => `(tactic| fail)
local macro_rules | `(tactic| walk_at "mine pad") => `(tactic| fail)
local macro_rules | `(tactic| walk_at "mine pad") => `(tactic| fail)
local macro_rules | `(tactic| k_room) => `(tactic| ktr_room)
local macro_rules | `(tactic| k_units) => `(tactic| ktr_units)
local macro_rules | `(tactic| k_enter) => `(tactic| first
  | (refine' code_def ?k1 ?k2 ?k3 ?k4 ?k5 ?kA ?kF ?kK ?k6 ?k7 ?k8 ?k9 ?kB ?_ ?c2 ?c3 ?c4 ?c5; (case kA => exact rfl); (case kF => exact rfl); (case kK => first | exact rfl | assumption); (case k1 => k_asm); (case k2 => k_asm); (case k3 => k_asm); (case k4 => k_asm); (case k5 => k_asm); (case k6 => k_is); (case k7 => k_is); (case k8 => ktr_room); (case k9 => first | exact BindsTo.of_eq rfl | exact binds_K (by k_in) rfl (by k_is) rfl rfl rfl | fail "k_enter: no rule for these arguments"); (case c5 => decide); (case kB => exact locs rfl); (case c2 => exact rfl); (case c3 => exact rfl); (case c4 => exact rfl); k_whole; intro g' L' h' FG' F' N' B' X' T'; (try dsimp only); (try k_lift B'); (try k_fold))
  | (refine' code_defC ?k1 ?k2 ?k3 ?k4 ?k5 ?kA ?kF ?kK ?k6 ?k7 ?k8 ?k9 ?kB ?kD ?_ ?c2 ?c3 ?c4; (case kA => exact rfl); (case kF => exact rfl); (case kK => first | exact rfl | assumption); (case k1 => k_asm); (case k2 => k_asm); (case k3 => k_asm); (case k4 => k_asm); (case k5 => k_asm); (case k6 => k_is); (case k7 => k_is); (case k8 => ktr_room); (case k9 => first | exact BindsTo.of_eq rfl | exact binds_K (by k_in) rfl (by k_is) rfl rfl rfl | fail "k_enter: no rule for these arguments"); (case kB => exact rfl); (case kD => decide +kernel); (case c2 => exact rfl); (case c3 => exact rfl); (case c4 => exact rfl); k_whole; intro g' L' h' tk' cells' FG' F' N' Y' B' X' T' l1; (try k_lt l1); k_cells Y'; (try simp only [List.cons_append, List.nil_append] at N'); (try dsimp only); (try k_lift B'); (try k_fold)))

local macro_rules | `(tactic| walk_at "call ref") => `(tactic| (k_dflt (refine' Told.use (get_ok _ _ _ _ _ _ ?hi ?hj _ _ _ _ _ _ _ ?h1 ?h2 ?h3 ?h4 ?h5) ?B ?F ?X ?N ?T ?hk ?hd ?hu ?_; (case B => k_asm); (case F => k_asm); (case X => k_asm); (case N => k_asm); (case T => k_asm); (case hk => first | exact rfl | assumption); (case hd => ktr_room); (case hu => ktr_units); (case hi => assumption); (case hj => assumption); (case h1 => assumption); (case h2 => assumption); (case h3 => assumption); (case h4 => assumption); (case h5 => assumption)); intro r' h' tk' news' F' N' hp'; rcases hp' with ⟨e1', ⟨e2', e3'⟩ | ⟨x', tx', e2', e3'⟩⟩ <;> (subst e1'; subst e3'); (try dsimp only)))

theorem Mine.has_ok (w : World) (tb d l : Addr) (i j : Nat) (hi : i ≤ 9) (hj : j ≤ 9) (t tk : Tok) (n1 nn : Nat) (vs : List Value) (es : List (Str × Str)) (news : Led)
    (h1 : (tb, instObj 235 d) ∈ news) (h2 : (d, dictOf [⟨PyData.keyHash w.params (Str.ofString "_headers"), .str (Str.ofString "_headers") tk, .ref l⟩] n1) ∈ news) (h3 : (l, W.listOf vs.toArray nn) ∈ news) (h4 : Ents news vs es) (h5 : Small es) :
    Told w 4 167 [.ref tb, .str (NM i j) t] [] news (fun r news' => news = news' ∧ r = .bool (seek (nm i j) es).isSome) := by
  unfold Told PR
  k_fill
  intro mean mg mb dp un gd cn cs a ccd cl outer A₀ base h₀ L m s Q E B F X N T hk hdp hun hret
  refine wpAny_call ?_
  k_enter
  clear F N
  k_steps
  all_goals (rename seek _ _ = _ => hs; exact hret _ _ _ _ (by assumption) (by assumption) ⟨rfl, by rw [hs]; rfl⟩)
theorem Mine.item_ok (w : World) (tb d l : Addr) (i j : Nat) (hi : i ≤ 9) (hj : j ≤ 9) (t tk : Tok) (n1 nn : Nat) (vs : List Value) (es : List (Str × Str)) (news : Led)
    (h1 : (tb, instObj 235 d) ∈ news) (h2 : (d, dictOf [⟨PyData.keyHash w.params (Str.ofString "_headers"), .str (Str.ofString "_headers") tk, .ref l⟩] n1) ∈ news) (h3 : (l, W.listOf vs.toArray nn) ∈ news) (h4 : Ents news vs es) (h5 : Small es) :
    Told w 4 160 [.ref tb, .str (NM i j) t] [] news (fun r news' => news = news' ∧ ((seek (nm i j) es = none ∧ r = .none) ∨ ∃ x tx, seek (nm i j) es = some x ∧ r = .str x tx)) := by
  unfold Told PR
  k_fill
  intro mean mg mb dp un gd cn cs a ccd cl outer A₀ base h₀ L m s Q E B F X N T hk hdp hun hret
  refine wpAny_call ?_
  k_enter
  clear F N
  k_steps
  all_goals (rename seek _ _ = _ => hs)
  · exact hret _ _ _ _ (by assumption) (by assumption) ⟨rfl, .inl ⟨hs, rfl⟩⟩
  · exact hret _ _ _ _ (by assumption) (by assumption) ⟨rfl, .inr ⟨_, _, hs, rfl⟩⟩
local macro_rules | `(tactic| walk_at "call ref") => `(tactic| (k_dflt (refine' Told.use (has_ok _ _ _ _ _ _ ?hi ?hj _ _ _ _ _ _ _ ?h1 ?h2 ?h3 ?h4 ?h5) ?B ?F ?X ?N ?T ?hk ?hd ?hu ?_; (case B => k_asm); (case F => k_asm); (case X => k_asm); (case N => k_asm); (case T => k_asm); (case hk => first | exact rfl | assumption); (case hd => ktr_room); (case hu => ktr_units); (case hi => assumption); (case hj => assumption); (case h1 => assumption); (case h2 => assumption); (case h3 => assumption); (case h4 => assumption); (case h5 => assumption)); intro r' h' tk' news' F' N' hp'; obtain ⟨e1', e2'⟩ := hp'; subst e1'; subst e2'; (try dsimp only)))

theorem Mine.contains_ok (w : World) (tb d l : Addr) (i j : Nat) (hi : i ≤ 9) (hj : j ≤ 9) (t tk : Tok) (n1 nn : Nat) (vs : List Value) (es : List (Str × Str)) (news : Led)
    (h1 : (tb, instObj 235 d) ∈ news) (h2 : (d, dictOf [⟨PyData.keyHash w.params (Str.ofString "_headers"), .str (Str.ofString "_headers") tk, .ref l⟩] n1) ∈ news) (h3 : (l, W.listOf vs.toArray nn) ∈ news) (h4 : Ents news vs es) (h5 : Small es) :
    Told w 6 66 [.ref tb, .str (NM i j) t] [] news (fun r news' => news = news' ∧ r = .bool (seek (nm i j) es).isSome) := by
  unfold Told PR
  k_fill
  intro mean mg mb dp un gd cn cs a ccd cl outer A₀ base h₀ L m s Q E B F X N T hk hdp hun hret
  refine wpAny_call ?_
  k_enter
  clear F N
  k_steps
  exact hret _ _ _ _ (by assumption) (by assumption) ⟨rfl, rfl⟩
local macro_rules | `(tactic| walk_at "call ref") => `(tactic| (k_dflt (refine' Told.use (item_ok _ _ _ _ _ _ ?hi ?hj _ _ _ _ _ _ _ ?h1 ?h2 ?h3 ?h4 ?h5) ?B ?F ?X ?N ?T ?hk ?hd ?hu ?_; (case B => k_asm); (case F => k_asm); (case X => k_asm); (case N => k_asm); (case T => k_asm); (case hk => first | exact rfl | assumption); (case hd => ktr_room); (case hu => ktr_units); (case hi => assumption); (case hj => assumption); (case h1 => assumption); (case h2 => assumption); (case h3 => assumption); (case h4 => assumption); (case h5 => assumption)); intro r' h' tk' news' F' N' hp'; rcases hp' with ⟨e1', ⟨e2', e3'⟩ | ⟨x', tx', e2', e3'⟩⟩ <;> (subst e1'; subst e3'); (try dsimp only)))

theorem Mine.getitem_ok (w : World) (tb d l : Addr) (i j : Nat) (hi : i ≤ 9) (hj : j ≤ 9) (t tk : Tok) (n1 nn : Nat) (vs : List Value) (es : List (Str × Str)) (news : Led)
    (h1 : (tb, instObj 235 d) ∈ news) (h2 : (d, dictOf [⟨PyData.keyHash w.params (Str.ofString "_headers"), .str (Str.ofString "_headers") tk, .ref l⟩] n1) ∈ news) (h3 : (l, W.listOf vs.toArray nn) ∈ news) (h4 : Ents news vs es) (h5 : Small es) :
    Told w 6 73 [.ref tb, .str (NM i j) t] [] news (fun r news' => news = news' ∧ ((seek (nm i j) es = none ∧ r = .none) ∨ ∃ x tx, seek (nm i j) es = some x ∧ r = .str x tx)) := by
  unfold Told PR
  k_fill
  intro mean mg mb dp un gd cn cs a ccd cl outer A₀ base h₀ L m s Q E B F X N T hk hdp hun hret
  refine wpAny_call ?_
  k_enter
  clear F N
  k_steps
  all_goals (rename seek _ _ = _ => hs)
  · exact hret _ _ _ _ (by assumption) (by assumption) ⟨rfl, .inl ⟨hs, rfl⟩⟩
  · exact hret _ _ _ _ (by assumption) (by assumption) ⟨rfl, .inr ⟨_, _, hs, rfl⟩⟩
end
open PySem PySem.W PyProof.Rows PySem.Calls
set_option Elab.async false
set_option maxRecDepth 100000
namespace Mine
section
variable {prog : Program} {w : World} {A : Around} {E : Value → Shared → Prop} {s : Shared}
theorem setSlice {l sl D : Addr} {items new : Array Value} {nn : Nat} {Q : Unit → Shared → Prop} (hl : s.heap.get? l = some (W.listOf items nn)) (hs : s.heap.IsSliceOf sl .none .none .none) (hD : s.heap.IsList D new)
    (hz1 : items.size ≤ 1000) (hz2 : new.size ≤ 1000) (hne : D ≠ l)
    (h : ∀ h' nn', h'.get? l = some (W.listOf new nn') → Heap.SameBut l s.heap h' → Q () { s with heap := h' }) :
    wpAny (model prog w) A (setItem (.ref l) (.ref sl) (.ref D)) Q E s := by
  have hL : s.heap.IsList l items := ⟨_, hl, rfl, nn, rfl⟩
  obtain ⟨os, hos, hcs, hds⟩ := id hs
  obtain ⟨oD, hoD, hcD, nD, hdD⟩ := id hD
  have hTs : s.TypeIs (.ref sl) "slice" := ⟨os, hos, hcs⟩
  have hTD : s.TypeIs (.ref D) "list" := ⟨oD, hoD, hcD⟩
  unfold setItem
  try with_reducible refine wpAny_holding ?_
  first | refine wpAny_bind (wpAny_pure ?_) | skip
  refine wpAny_bind (wpAny_sequenceKey hL.typeIs (by decide) ?_)
  refine wpAny_bind (wpAny_callSpecial?_slot (name := Str.ofString "__setitem__") hL.typeIs F.slot_list_setitem
    (wpAny_call_entry F.slot_list_setitem hL.typeIs F.entry_list_setitem ?_ (F.args_list_setitem_3 _ _ _)))
  show wpAny _ _ (Builtin.List.listSubscript? (.ref sl) >>= _) _ _ s
  refine wpAny_bind ?_
  unfold Builtin.List.listSubscript?
  refine wpAny_bind (wpAny_specialOf hTs slice_no_index ?_)
  simp only [Option.isNone_none, if_true]
  refine wpAny_pure ?_
  show wpAny _ _ (typeOf (.ref sl) >>= _) _ _ s
  refine wpAny_bind (wpAny_typeOf hTs ?_)
  rw [if_neg (by decide)]
  rw [listSliceParts_eq]
  refine wpAny_bind (wpAny_bind (wpAny_field hos hds (x := .none) rfl (wpAny_bind (wpAny_listPart .none ?_))))
  rw [if_neg (by decide)]
  refine wpAny_bind (wpAny_field hos hds (x := .none) rfl (wpAny_bind (wpAny_listPart .none ?_)))
  refine wpAny_bind (wpAny_field hos hds (x := .none) rfl (wpAny_bind (wpAny_listPart .none (wpAny_pure ?_))))
  have hsame : Builtin.List.listSameRef (.ref l) (.ref D) = false := by
    show (l == D) = false
    exact beq_eq_false_iff_ne.mpr (Ne.symm hne)
  rw [hsame, if_neg Bool.false_ne_true]
  refine wpAny_bind (m := Builtin.List.listAllItems (.ref D) _) ?_
  unfold Builtin.List.listAllItems
  refine wpAny_bind (wpAny_typeOf hTD ?_)
  rw [if_pos (by decide)]
  unfold Builtin.List.listItems
  refine wpAny_bind (wpAny_seqItems hoD hdD (wpAny_pure ?_))
  refine wpAny_bind (wpAny_bind (wpAny_seqItems hl rfl (wpAny_pure ?_)))
  refine wpAny_bind (wpAny_of_eq (sliceIndices_raw none none none items.size (by simp)) ?_)
  have e : sliceBounds none none none items.size = (((0 : Nat) : Int), (items.size : Int), 1) := by simp [sliceBounds]
  rw [e]
  dsimp only
  rw [if_pos (by decide)]
  refine wpAny_bind (wpAny_rule ?_)
  have hlong : Builtin.List.listTooLong (items.size + new.size) = false := by
    unfold Builtin.List.listTooLong
    rw [sizeLine_eq]
    exact decide_eq_false (by omega)
  rw [hlong, if_neg Bool.false_ne_true]
  have hf : ∀ xs : Array Value, xs.size = items.size → xs.extract 0 ((0 : Nat) : Int).toNat ++ new ++ xs.extract (max ((0 : Nat) : Int) (items.size : Int)).toNat xs.size = new := by
    intro xs hx
    have e2 : (max ((0 : Nat) : Int) (items.size : Int)).toNat = items.size := by omega
    rw [e2, hx]
    simp
    omega
  refine wpAny_bind (listUpdate_at (o := W.listOf items nn) hl rfl ?_ (by rw [sizeLine_eq]; omega) (by rw [hf items rfl, sizeLine_eq]; omega))
  refine wpAny_bind (wpAny_letGo (wpAny_pure ⟨_, rfl, wpAny_pure ?_⟩))
  obtain ⟨nn', hm⟩ : ∃ nn', Obj.mapSeq (fun xs => xs.extract 0 ((0 : Nat) : Int).toNat ++ new ++ xs.extract (max ((0 : Nat) : Int) (items.size : Int)).toNat xs.size) (W.listOf items nn) = W.listOf new nn' := by
    have q := hf items rfl
    refine ⟨if ((items.extract 0 ((0 : Nat) : Int).toNat ++ new ++ items.extract (max ((0 : Nat) : Int) (items.size : Int)).toNat items.size).size == items.size) = true then nn else nn + 1, ?_⟩
    unfold Obj.mapSeq
    dsimp only
    rw [q]
  refine h _ nn' ?_ (Heap.SameBut.update ..)
  rw [Heap.get?_update_self _ hl (by rw [hm]; rfl), hm]
theorem setSlice_N {h₀ : Heap} {L : Addr} {m : Str → Option Value} {news : List (Addr × Obj)} {g : Obj → List (Addr × Obj)} {l D : Addr} {items new : Array Value} {nn nD : Nat} {Q : Unit → Shared → Prop}
    (F : Fr h₀ L s.heap m) (N : News h₀ L s.heap news) (U : UpdF l (W.listOf items nn) news g) (hD : (D, W.listOf new nD) ∈ news) (hne : D ≠ l) (hz1 : items.size ≤ 1000) (hz2 : new.size ≤ 1000)
    (h : ∀ h' nn', Fr h₀ L h' m → News h₀ L h' (g (W.listOf new nn')) → Q () { s with heap := h' }) :
    wpAny (model prog w) A (setItem (.ref l) (.ref s.heap.objs.size) (.ref D)) Q E { s with heap := s.heap.push { cls := .type "slice", data := .fields #[.none, .none, .none] } } := by
  obtain ⟨own, rest, rfl, hg, a, b⟩ := U.split
  have hm := N (l, W.listOf items nn) (List.mem_append_right _ (.head _))
  have N1 : News h₀ L (s.heap.push { cls := .type "slice", data := .fields #[.none, .none, .none] }) (own ++ (l, W.listOf items nn) :: rest) := fun p hp => ⟨Heap.get?_push_of_some _ (N p hp).1, (N p hp).2⟩
  have F1 := F.push { cls := .type "slice", data := .fields #[.none, .none, .none] }
  have hm1 := N1 (l, W.listOf items nn) (List.mem_append_right _ (.head _))
  refine setSlice (s := { s with heap := s.heap.push { cls := .type "slice", data := .fields #[.none, .none, .none] } }) hm1.1 (Heap.IsSliceOf.new ..) ⟨_, (N1 _ hD).1, rfl, nD, rfl⟩ hz1 hz2 hne fun h' nn' ho hs => ?_
  refine h h' nn' (F1.change hs hm1.2.1 hm1.2.2) ?_
  rw [hg]
  exact N1.setAt a b hs ho
end
end Mine
open PySem PySem.W PyProof.Rows PySem.Calls
set_option Elab.async false
namespace Mine
section
variable {prog : Program} {w : World} {A : Around} {E : Value → Shared → Prop} {s : Shared} {env : Env} {h₀ : Heap}
theorem paired_eq : ∀ {a b : List Value}, Paired (fun x y => y = x) a b → b = a
  | _, _, .nil => rfl
  | _, _, .cons h r => by rw [h, paired_eq r]
section
variable {M : Model}
theorem blkL {x : Str} {epos : Pos} {v : Value} {m : Str → Option Value} {Q : Value → Shared → Prop} (hn : s.heap.Ns env.locals m) (hv : m x = some v) (h : Q v s) (hk : env.scope.kind = .function) (hx : env.kindOf x = some .local) (hd : (x == ("__debug__" : Str)) = false) :
    wpAny M A (eval (.Name x epos) env) Q E s := wpAny_Name (wpAny_loadName_local hk hx hn hv h) hd
theorem blkC {x : Str} {epos : Pos} {v : Value} {c : Addr} {o : Obj} {Q : Value → Shared → Prop} (ho : s.heap.get? c = some o) (hd : o.data = .cell (some v)) (h : Q v s) (hc : env.cells.lookup x = some c) (hk : env.scope.kind = .function) (hx : env.kindOf x = some .cell) (hb : (x == ("__debug__" : Str)) = false) :
    wpAny M A (eval (.Name x epos) env) Q E s := wpAny_Name (wpAny_loadName_cell hk hx hc ⟨o, ho, hd⟩ h) hb
end
def SrcAt (h₀ : Heap) (L : Addr) (m : Str → Option Value) (news : List (Addr × Obj)) (l : Addr) (s : Shared) (xv : Value) (s₁ : Shared) : Prop := ∃ h tk, xv = .ref l ∧ s₁ = { s with heap := h, toks := tk } ∧ Fr h₀ L h m ∧ News h₀ L h news
theorem SrcAt.in {h₀ : Heap} {L : Addr} {m : Str → Option Value} {news : List (Addr × Obj)} {l : Addr} {s : Shared} {h : Heap} {tk : Nat} (F : Fr h₀ L h m) (N : News h₀ L h news) : SrcAt h₀ L m news l s (.ref l) { s with heap := h, toks := tk } := ⟨h, tk, rfl, rfl, F, N⟩
def TestAt (b : Bool) (s₃ : Shared) (ok : Bool) (s₄ : Shared) : Prop := ok = b ∧ Keeps s₃ s₄
/-- [x for x in a list if c]: what the test lets pass, in a new list -/
theorem comp_filter {iter c : PySem.Expr} {x : Str} {px epos : Pos} {scope : Scope} {cl : List (Str × Addr)} {pos : Pos} {l : Addr} {vs : List Value} {nn : Nat} {m : Str → Option Value} {news : List (Addr × Obj)} {Q : Value → Shared → Prop} (p : Value → Bool) (_F : Fr h₀ env.locals s.heap m) (_N : News h₀ env.locals s.heap news)
    (hh : A.handled = none) (hclos : closureFor scope env = pure cl) (hcell : ∀ y ∈ scope.names, y.2 ≠ .cell) (hkind : scope.kind = .function)
    (hnames : ∀ y ∈ scope.names, y.2 = .local → scope.names.lookup y.1 = some .local) (hx : scope.names.lookup x = some .local)
    (hl : (l, W.listOf vs.toArray nn) ∈ news) (hz : vs.length ≤ 1000)
    (src : wpAny (model prog w) A (eval iter env) (SrcAt h₀ env.locals m news l s) E s)
    (test : ∀ (C : Addr) (i : Nat) (v : Value) (s₃ : Shared) (m₃ : Str → Option Value) (E' : Value → Shared → Prop), vs[i]? = some v → h₀.objs.size ≤ C → (∀ p ∈ news, s₃.heap.get? p.1 = some p.2) → (∀ p ∈ news, p.1 ≠ C) → (∀ p ∈ news, h₀.get? p.1 = none) → (∀ b o, h₀.get? b = some o → s₃.heap.get? b = some o) → s₃.heap.Ns C m₃ → m₃ x = some v →
      wpAny (model prog w) A (isTrue c (compEnvC scope cl C env) (eval c (compEnvC scope cl C env))) (TestAt (p v) s₃) E' s₃)
    (done : ∀ D h tk n, Fr h₀ env.locals h m → News h₀ env.locals h ((D, W.listOf (vs.filter p).toArray n) :: news) → (∀ p ∈ news, p.1 ≠ D) → Q (.ref D) { s with heap := h, toks := tk })
    (hs : ∀ x, foldedSetIterable iter env x = pure x) (hxd : (x == ("__debug__" : Str)) = false) :
    wpAny (model prog w) A (eval (.ListComp (.Name x epos) [⟨.Name x px, iter, [c], 0⟩] scope pos) env) Q E s := by
  refine wpAny_ListComp_free p (fun x y => y = x) hclos hcell hkind hnames hx (wpAny_mono src (fun xv s₁ h₁ => ?_) fun _ _ e => e) hs
  obtain ⟨h, tk, rfl, rfl, F, N⟩ := h₁
  have hol : h.get? l = some (W.listOf vs.toArray nn) := (N _ hl).1
  have hls : h.IsList l vs.toArray := ⟨_, hol, rfl, nn, rfl⟩
  have hne : l ≠ h.objs.size := Nat.ne_of_lt (Heap.lt_size hol)
  refine wpAny_pyIter_list (s := { s with heap := h, toks := tk }) hls ?_
  have W := Walks.list (prog := prog) (w := w) hh h.objs.size l hne vs.toArray
  refine ⟨_, _, _, vs.toArray.size, _, _, rfl, W, by rw [sizeLine_eq]; simp; omega, ⟨⟨_, Heap.get?_push_size _ rfl, rfl, rfl⟩, hls.at fun o e => Heap.get?_push_of_some _ e⟩, ?_, ⟨?_, ?_⟩, ?_⟩
  · intro b hb
    rw [Heap.size_push]
    rcases List.mem_cons.mp hb with e | hb
    · rw [e]; exact Nat.lt_succ_self _
    · rw [List.mem_singleton.mp hb]; exact Nat.lt_succ_of_lt (Heap.lt_size hol)
  · intro C i v s₃ m₃ E' hC hv hn hm hk htk
    have hC' : h.objs.size ≤ C := by
      dsimp only at hC
      rw [Heap.size_push] at hC
      exact Nat.le_of_succ_le hC
    have up : ∀ b o, h.get? b = some o → s₃.heap.get? b = some o := fun b o e => hk b o (by
      intro hb
      rw [List.mem_singleton] at hb
      subst hb
      exact absurd (Heap.lt_size e) (Nat.lt_irrefl _)) (Heap.get?_push_of_some _ e)
    have hge : h₀.objs.size ≤ h.objs.size := Nat.le_of_lt (Nat.lt_of_le_of_lt F.above F.ns.lt)
    have q := test C i v s₃ m₃ E' (by simpa using hv) (Nat.le_trans hge hC') (fun p hp => up _ _ (N p hp).1) (fun p hp => Nat.ne_of_lt (Nat.lt_of_lt_of_le (Heap.lt_size (N p hp).1) hC')) (fun p hp => (N p hp).2.2) (fun b o e => up _ _ (F.keep _ _ e)) hn hm
    rw [List.forIn_cons]
    refine wpAny_bind ?_
    rw [if_pos rfl]
    refine wpAny_bind (wpAny_mono q (fun ok s₄ hq => wpAny_pure ?_) fun _ _ e => e)
    dsimp only
    rw [List.forIn_nil]
    exact wpAny_pure hq
  · intro C i v s₃ m₃ E' hC hv hp hn hm hk htk
    have hxl : (compEnvC scope cl C env).kindOf x = some .local := lookup_relabel_local hx
    exact wpAny_Name (wpAny_loadName_local (by show scope.kind = .function; exact hkind) hxl hn hm ⟨rfl, s₃.heap, s₃.toks, rfl, fun _ _ e => e⟩) hxd
  · intro D h' tk' ys vs' hD hl' hpl hlen hP hF hk
    have e1 : vs' = vs := by
      apply List.ext_getElem?
      intro j
      cases hj : vs'[j]? with
      | some v => exact (by simpa using hP j v hj : vs[j]? = some v).symm
      | none =>
        have : vs'.length ≤ j := List.getElem?_eq_none_iff.mp hj
        exact (List.getElem?_eq_none (by simp at hlen; omega)).symm
    subst e1
    have e2 : ys = (vs'.filter p).toArray := by
      have := paired_eq hF
      apply Array.ext'
      simpa using this
    subst e2
    have up : ∀ b o, h.get? b = some o → h'.get? b = some o := fun b o e => hk b o (by
      intro hb
      rw [List.mem_singleton] at hb
      subst hb
      exact absurd (Heap.lt_size e) (Nat.lt_irrefl _)) (Heap.get?_push_of_some _ e)
    have hDn : h.get? D = none := by
      cases q : h.get? D with
      | none => rfl
      | some o => rw [Heap.get?_push_of_some _ q] at hD; cases hD
    obtain ⟨n, hDo⟩ := hpl
    have hD0 : h₀.get? D = none := by
      cases q : h₀.get? D with
      | none => rfl
      | some o => have := F.keep _ _ q; rw [hDn] at this; cases this
    have hDL : D ≠ env.locals := by
      rintro rfl
      obtain ⟨o, _, _, ho, _⟩ := F.ns
      rw [hDn] at ho; cases ho
    refine done D h' tk' n ⟨F.ns.at' fun o e => up _ _ e, fun b o e => up _ _ (F.keep b o e), F.above⟩ ?_ ?_
    · intro p hp
      rcases List.mem_cons.mp hp with rfl | hp
      · exact ⟨hDo, hDL, hD0⟩
      · exact ⟨up _ _ (N p hp).1, (N p hp).2⟩
    · intro p hp e
      have := (N p hp).1
      rw [e, hDn] at this; cases this
end
end Mine
section
open PySem PySem.W PyProof.Rows Mine
set_option Elab.async false
set_option maxRecDepth 100000
set_option maxHeartbeats 8000000
set_option pp.maxSteps 6000
local macro_rules | `(tactic| walk_at "WhileStep2") => `(tactic| fail)
local macro_rules | `(tactic| walk_at "binaryOp Add str str") => `(tactic| fail)
local macro_rules | `(tactic| walk_at "binaryOp Mult str int") => `(tactic| fail)
local macro_rules | `(tactic| walk_at "call builtin:hasattr") => `(tactic| fail)
local macro_rules | `(tactic| walk_at "call builtin:len") => `(tactic| fail)
local macro_rules | `(tactic| walk_at "call builtin:len") => `(tactic| fail)
local macro_rules | `(tactic| walk_at "call builtin:list.append") => `(tactic| fail)
local macro_rules | `(tactic| walk_at "call builtin:re.Pattern.search") => `(tactic| fail)
local macro_rules | `(tactic| walk_at "call ref") => `(tactic| fail)
local macro_rules | `(tactic| walk_at "call ref") => `(tactic| fail)
local macro_rules | `(tactic| walk_at "call ref") => `(tactic| fail)
local macro_rules | `(tactic| walk_at "call ref") => `(tactic| fail)
local macro_rules | `(tactic| walk_at "call ref") => `(tactic| fail)
local macro_rules | `(tactic| walk_at "call ref") => `(tactic| fail)
local macro_rules | `(tactic| walk_at "call ref") => `(tactic| fail)
local macro_rules | `(tactic| walk_at "call ref") => `(tactic| fail)
local macro_rules | `(tactic| walk_at "call ref") => `(tactic| fail)
local macro_rules | `(tactic| walk_at "call ref") => `(tactic| fail)
local macro_rules | `(tactic| walk_at "call type:str") => `(tactic| fail)
local macro_rules | `(tactic| walk_at "delItem ref") => `(tactic| fail)
local macro_rules | `(tactic| walk_at "exec For") => `(tactic| fail)
local macro_rules | `(tactic| walk_at "exec For Name Call") => `(tactic| fail)
local macro_rules | `(tactic| walk_at "exec For Name Call cons cons") => `(tactic| fail)
local macro_rules | `(tactic| walk_at "exec For Tuple Name cons cons") => `(tactic| fail)
local macro_rules | `(tactic| walk_at "exec While") => `(tactic| fail)
local macro_rules | `(tactic| walk_at "getMethod ref") => `(tactic| fail)
local macro_rules | `(tactic| walk_at "setItem ref str") => `(tactic| fail)
local macro_rules | `(tactic| walk_at "subscriptTail Name Name str int") => `(tactic| fail)
local macro_rules | `(tactic| walk_at "subscriptTail Name Slice str ref") => `(tactic| fail)
local macro_rules | `(tactic| walk_at "mine pad") => `(tactic| fail)
local macro_rules | `(tactic| walk_at "mine pad") => `(tactic| fail)
local macro_rules | `(tactic| walk_at "mine pad") => `(tactic| fail)
local macro_rules | `(tactic| walk_at "mine pad") => `(tactic| fail)
local macro_rules | `(tactic| walk_at "mine pad") => `(tactic| fail)
local macro_rules | `(tactic| k_room) => `(tactic| ktr_room)
local macro_rules | `(tactic| k_units) => `(tactic| ktr_units)
local macro_rules | `(tactic| k_enter) => `(tactic| first
  | (refine' code_def ?k1 ?k2 ?k3 ?k4 ?k5 ?kA ?kF ?kK ?k6 ?k7 ?k8 ?k9 ?kB ?_ ?c2 ?c3 ?c4 ?c5; (case kA => exact rfl); (case kF => exact rfl); (case kK => first | exact rfl | assumption); (case k1 => k_asm); (case k2 => k_asm); (case k3 => k_asm); (case k4 => k_asm); (case k5 => k_asm); (case k6 => k_is); (case k7 => k_is); (case k8 => ktr_room); (case k9 => first | exact BindsTo.of_eq rfl | exact binds_K (by k_in) rfl (by k_is) rfl rfl rfl | fail "k_enter: no rule for these arguments"); (case c5 => decide); (case kB => exact locs rfl); (case c2 => exact rfl); (case c3 => exact rfl); (case c4 => exact rfl); k_whole; intro g' L' h' FG' F' N' B' X' T'; (try dsimp only); (try k_lift B'); (try k_fold))
  | (refine' code_defC ?k1 ?k2 ?k3 ?k4 ?k5 ?kA ?kF ?kK ?k6 ?k7 ?k8 ?k9 ?kB ?kD ?_ ?c2 ?c3 ?c4; (case kA => exact rfl); (case kF => exact rfl); (case kK => first | exact rfl | assumption); (case k1 => k_asm); (case k2 => k_asm); (case k3 => k_asm); (case k4 => k_asm); (case k5 => k_asm); (case k6 => k_is); (case k7 => k_is); (case k8 => ktr_room); (case k9 => first | exact BindsTo.of_eq rfl | exact binds_K (by k_in) rfl (by k_is) rfl rfl rfl | fail "k_enter: no rule for these arguments"); (case kB => exact rfl); (case kD => decide +kernel); (case c2 => exact rfl); (case c3 => exact rfl); (case c4 => exact rfl); k_whole; intro g' L' h' tk' cells' FG' F' N' Y' B' X' T' l1; (try k_lt l1); k_cells Y'; (try simp only [List.cons_append, List.nil_append] at N'); (try dsimp only); (try k_lift B'); (try k_fold)))
local macro_rules | `(tactic| walk_at "call ref") => `(tactic| (k_dflt (refine' Told.use (conv_nm _ _ _ _ ?hi ?hj _ _) ?B ?F ?X ?N ?T ?hk ?hd ?hu ?_; (case B => k_asm); (case F => k_asm); (case X => k_asm); (case N => k_asm); (case T => k_asm); (case hk => first | exact rfl | assumption); (case hd => ktr_room); (case hu => ktr_units); (case hi => assumption); (case hj => assumption)); intro r' h' tk' news' F' N' hp'; obtain ⟨e1', e2'⟩ := hp'; subst e1'; subst e2'; (try dsimp only)))
local macro_rules | `(tactic| walk_at "call builtin:str.lower") => `(tactic| (first | refine low1 (by assumption) (by assumption) ?_ | refine low2 (by assumption) (by assumption) ?_))
local macro_rules | `(tactic| walk_at "call builtin:str.upper") => `(tactic| (refine up1 (by assumption) (by assumption) ?_))
local macro_rules | `(tactic| walk_at "exec For Tuple Attribute cons nil") => `(tactic| refine Halt.in ?_)
local macro_rules | `(tactic| walk_at "exec For Tuple Name cons nil") => `(tactic| refine Halt.in ?_)
local macro_rules | `(tactic| walk_at "exec For Name Call cons nil") => `(tactic| refine Halt.in ?_)
local macro_rules | `(tactic| walk_at "pyIter ref") => `(tactic| refine Halt.in ?_)
local macro_rules | `(tactic| walk_at "TurnEnd") => `(tactic| first | refine TurnEnd.ret ?_ | refine Halt.in ?_)
local macro_rules | `(tactic| k_all) => `(tactic| assumption)
local macro_rules | `(tactic| walk_at "eval ListComp") => `(tactic| refine Halt.in ?_)
local macro_rules | `(tactic| walk_at "SrcAt") => `(tactic| refine Halt.in ?_)
local macro_rules | `(tactic| walk_at "TestAt") => `(tactic| refine Halt.in ?_)
local macro_rules | `(tactic| walk_at "setItem ref ref") => `(tactic| refine Halt.in ?_)
local macro_rules | `(tactic| walk_at "eval Name") => `(tactic| (k_inBlock; k_dflt (first
  | (refine' blkL ?hn ?hv ?_ ?hk ?hx ?hd; (case hk => exact rfl); (case hx => exact rfl); (case hd => decide); (case hn => exact Fr.ns (by k_asm)); (case hv => k_asm); k_whole)
  | (refine' blkC ?ho ?hd ?_ ?hc ?hk ?hx ?hb; (case hk => exact rfl); (case hx => exact rfl); (case hb => decide); (case hc => exact rfl); (case ho => exact News.get (by k_asm) (by k_mem)); (case hd => k_asm); k_whole))))
theorem Mine.del_ok (w : World) (tb d l : Addr) (i j : Nat) (hi : i ≤ 9) (hj : j ≤ 9) (t tk : Tok) (n1 nn : Nat) (vs : List Value) (es : List (Str × Str)) (rest : Led) (hr : ∀ p ∈ rest, p.1 ≠ l)
    (h1 : (tb, instObj 235 d) ∈ rest) (h2 : (d, dictOf [⟨PyData.keyHash w.params (Str.ofString "_headers"), .str (Str.ofString "_headers") tk, .ref l⟩] n1) ∈ rest) (h4 : Ents rest vs es) (h5 : Small es) (hz : es.length ≤ 200) (h6 : seek (nm i j) es = none) :
    Told w 3 153 [.ref tb, .str (nm i j) t] [] ((l, W.listOf vs.toArray nn) :: rest) (fun r news' => r = .none ∧ ∃ nn', (l, W.listOf vs.toArray nn') :: rest = news') := by
  unfold Told PR
  k_fill
  intro mean mg mb dp un gd cn cs a ccd cl outer A₀ base h₀ L m s Q E B F X N T hk hdp hun hret
  refine wpAny_call ?_
  k_enter
  clear F N
  rename_i g1 L1 hh1 tk1 FG1 F1 B1 X1 T1 l1 o1 d1 N1
  have hL : ∀ p ∈ rest, p.1 ≠ L1 + 1 := fun p hp => Nat.ne_of_lt (Nat.lt_succ_of_lt (allLt_mem l1.2 p hp))
  have q1 : @Ne Nat tb (L1 + 1) := hL _ h1
  have q2 : @Ne Nat d (L1 + 1) := hL _ h2
  have q3 : @Ne Nat tb l := hr _ h1
  have q4 : @Ne Nat d l := hr _ h2
  have q5 : @LT.lt Nat _ l L1 := l1.1
  replace N1 := News.dup (News.dup N1 (.tail _ (.tail _ h2))) (.tail _ (.tail _ (.tail _ h1)))
  k_steps
  refine Halt.out ?_
  rename Fr _ _ _ _ => F2
  rename News _ _ _ _ => N2
  rename _ = Data.cell _ => hc2
  clear d1 l1 hL
  refine comp_filter (vs := vs) (nn := nn) (l := l) (cl := [(Str.ofString "name", L1 + 1)]) (fun _ => true) F2 N2 rfl rfl (by decide) rfl (by decide) rfl ?hl (by rw [h4.length]; omega) ?src ?test ?done (by intro _; rfl) (by decide)
  case src =>
    k_steps
    exact Halt.out (SrcAt.in (by assumption) (by assumption))
  case hl => k_mem
  case test =>
    intro C n v s₃ m₃ E' hv hC hN hNC hN0 hK hns hm
    obtain ⟨a', k, x, t1, t2, n2, rfl, he, hme⟩ := h4.get hv
    obtain ⟨i', j', hi', hj', hk'⟩ := h5 _ (List.mem_of_getElem? he)
    dsimp only at hk'
    subst hk'
    have F3 : Fr g1 C s₃.heap m₃ := ⟨hns, hK, hC⟩
    have N3 : News g1 C s₃.heap _ := fun p hp => ⟨hN p hp, hNC p hp, hN0 p hp⟩
    replace N3 := News.dup N3 (.tail _ (.tail _ (.tail _ (.tail _ hme))))
    clear F2 N2 hN hNC hN0 hK hns
    k_steps
    have hne : nm i' j' ≠ nm i j := seek_none h6 _ (List.mem_of_getElem? he)
    exact Halt.out ⟨bne_iff_ne.mpr hne, s₃.heap, _, rfl, fun _ _ e => e⟩
  case done =>
    intro D h9 tk9 n9 F3 N3 hD
    rw [show vs.filter (fun _ => true) = vs from by simp] at N3
    have q6 : @Ne Nat D l := fun e => hD (l, W.listOf vs.toArray nn) (by k_mem) e.symm
    k_steps
    refine Halt.out ?_
    refine setSlice_N (s := ⟨_, _, _, _, _⟩) F3 N3 (by k_updF) (.head _) q6 (by simp [h4.length]; omega) (by simp [h4.length]; omega) ?_
    intro h8 nn8 F4 N4
    try dsimp only at N4
    clear F3 N3
    k_steps
    rename News h₀ _ _ _ => kN
    exact hret _ _ _ ((l, W.listOf vs.toArray nn8) :: rest) (by assumption) (fun p hp => kN p (.tail _ (.tail _ (.tail _ (.tail _ hp))))) ⟨rfl, nn8, rfl⟩
end
open PySem PySem.W PyProof.Rows PySem.Calls
set_option Elab.async false
namespace Mine
section
variable {M : Model} {A : Around} {E : Value → Shared → Prop} {s : Shared} {K : Frag} {x C L f : Addr} {h₀ : Heap} {m : Str → Option Value} {ox : Obj} {od : Option Obj} {v y : Value}
theorem delItem_K {Q : Unit → Shared → Prop} (F : Fr h₀ L s.heap m) (X₀ : K.In h₀) (I : InstAt s.heap x ox C od) (hq : noSeq K C = true) (hs : findIn K (.ref C) "__delitem__" = some (some (.ref f))) (hf : isFn K (.ref f) = true)
    (h : wpAny M A (call (.ref f) [.ref x, v]) (fun _ s' => Q () s') E s) : wpAny M A (delItem (.ref x) v) Q E s := by
  have X := X₀.keeps F.keep
  unfold delItem sequenceKey
  refine wpAny_holding (wpAny_bind (wpAny_bind (I.type.here ?_)))
  refine wpAny_bind ((anyM_none X hq).here ?_)
  rw [if_pos (show (!false) = true from rfl)]
  exact wpAny_pure (wpAny_bind (special_fn X I hs (beq_iff_eq.mp hf) (wpAny_mono h (fun _ _ z => wpAny_pure z) fun _ _ z => z)))
theorem setItem_K' {Q : Unit → Shared → Prop} (F : Fr h₀ L s.heap m) (X₀ : K.In h₀) (I : InstAt s.heap x ox C od) (hq : noSeq K C = true) (hs : findIn K (.ref C) "__setitem__" = some (some (.ref f))) (hf : isFn K (.ref f) = true)
    (h : wpAny M A (call (.ref f) [.ref x, v, y]) (fun _ s' => Q () s') E s) : wpAny M A (setItem (.ref x) v y) Q E s := by
  have X := X₀.keeps F.keep
  unfold setItem sequenceKey
  refine wpAny_holding (wpAny_bind (wpAny_bind (I.type.here ?_)))
  refine wpAny_bind ((anyM_none X hq).here ?_)
  rw [if_pos (show (!false) = true from rfl)]
  exact wpAny_pure (wpAny_bind (special_fn X I hs (beq_iff_eq.mp hf) (wpAny_mono h (fun _ _ z => wpAny_pure z) fun _ _ z => z)))
theorem News.swap4 {h₀ h : Heap} {L : Addr} {news : List (Addr × Obj)} {a b c d : Addr × Obj} (N : News h₀ L h (a :: b :: c :: d :: news)) : News h₀ L h (b :: a :: news) := News.sub N fun p hp => by
  rcases List.mem_cons.mp hp with rfl | hp
  · exact .tail _ (.head _)
  rcases List.mem_cons.mp hp with rfl | hp
  · exact .head _
  · exact .tail _ (.tail _ (.tail _ (.tail _ hp)))
theorem News.drop34 {h₀ h : Heap} {L : Addr} {news : List (Addr × Obj)} {a b c d : Addr × Obj} (N : News h₀ L h (a :: b :: c :: d :: news)) : News h₀ L h (a :: b :: news) := News.sub N fun p hp => by
  rcases List.mem_cons.mp hp with rfl | hp
  · exact .head _
  rcases List.mem_cons.mp hp with rfl | hp
  · exact .tail _ (.head _)
  · exact .tail _ (.tail _ (.tail _ (.tail _ hp)))
end
end Mine
section
open PySem PySem.W PyProof.Rows Mine
set_option Elab.async false
set_option maxRecDepth 100000
set_option maxHeartbeats 8000000
set_option pp.maxSteps 6000
local macro_rules | `(tactic| walk_at "WhileStep2") => `(tactic| fail)
local macro_rules | `(tactic| walk_at "binaryOp Add str str") => `(tactic| fail)
local macro_rules | `(tactic| walk_at "binaryOp Mult str int") => `(tactic| fail)
local macro_rules | `(tactic| walk_at "call builtin:hasattr") => `(tactic| fail)
local macro_rules | `(tactic| walk_at "call builtin:len") => `(tactic| fail)
local macro_rules | `(tactic| walk_at "call builtin:len") => `(tactic| fail)
local macro_rules | `(tactic| walk_at "call builtin:re.Pattern.search") => `(tactic| fail)
local macro_rules | `(tactic| walk_at "call ref") => `(tactic| fail)
local macro_rules | `(tactic| walk_at "call ref") => `(tactic| fail)
local macro_rules | `(tactic| walk_at "call ref") => `(tactic| fail)
local macro_rules | `(tactic| walk_at "call ref") => `(tactic| fail)
local macro_rules | `(tactic| walk_at "call ref") => `(tactic| fail)
local macro_rules | `(tactic| walk_at "call ref") => `(tactic| fail)
local macro_rules | `(tactic| walk_at "call ref") => `(tactic| fail)
local macro_rules | `(tactic| walk_at "call ref") => `(tactic| fail)
local macro_rules | `(tactic| walk_at "call type:str") => `(tactic| fail)
local macro_rules | `(tactic| walk_at "exec For") => `(tactic| fail)
local macro_rules | `(tactic| walk_at "exec For Name Call") => `(tactic| fail)
local macro_rules | `(tactic| walk_at "exec For Name Call cons cons") => `(tactic| fail)
local macro_rules | `(tactic| walk_at "exec For Tuple Name cons cons") => `(tactic| fail)
local macro_rules | `(tactic| walk_at "exec While") => `(tactic| fail)
local macro_rules | `(tactic| walk_at "getMethod ref") => `(tactic| fail)
local macro_rules | `(tactic| walk_at "subscriptTail Name Name str int") => `(tactic| fail)
local macro_rules | `(tactic| walk_at "subscriptTail Name Slice str ref") => `(tactic| fail)
local macro_rules | `(tactic| walk_at "mine pad") => `(tactic| fail)
local macro_rules | `(tactic| walk_at "mine pad") => `(tactic| fail)
local macro_rules | `(tactic| walk_at "mine pad") => `(tactic| fail)
local macro_rules | `(tactic| walk_at "mine pad") => `(tactic| fail)
local macro_rules | `(tactic| walk_at "mine pad") => `(tactic| fail)
local macro_rules | `(tactic| walk_at "mine pad") => `(tactic| fail)
local macro_rules | `(tactic| k_room) => `(tactic| ktr_room)
local macro_rules | `(tactic| k_units) => `(tactic| ktr_units)
local macro_rules | `(tactic| k_enter) => `(tactic| first
  | (refine' code_def ?k1 ?k2 ?k3 ?k4 ?k5 ?kA ?kF ?kK ?k6 ?k7 ?k8 ?k9 ?kB ?_ ?c2 ?c3 ?c4 ?c5; (case kA => exact rfl); (case kF => exact rfl); (case kK => first | exact rfl | assumption); (case k1 => k_asm); (case k2 => k_asm); (case k3 => k_asm); (case k4 => k_asm); (case k5 => k_asm); (case k6 => k_is); (case k7 => k_is); (case k8 => ktr_room); (case k9 => first | exact BindsTo.of_eq rfl | exact binds_K (by k_in) rfl (by k_is) rfl rfl rfl | fail "k_enter: no rule for these arguments"); (case c5 => decide); (case kB => exact locs rfl); (case c2 => exact rfl); (case c3 => exact rfl); (case c4 => exact rfl); k_whole; intro g' L' h' FG' F' N' B' X' T'; (try dsimp only); (try k_lift B'); (try k_fold))
  | (refine' code_defC ?k1 ?k2 ?k3 ?k4 ?k5 ?kA ?kF ?kK ?k6 ?k7 ?k8 ?k9 ?kB ?kD ?_ ?c2 ?c3 ?c4; (case kA => exact rfl); (case kF => exact rfl); (case kK => first | exact rfl | assumption); (case k1 => k_asm); (case k2 => k_asm); (case k3 => k_asm); (case k4 => k_asm); (case k5 => k_asm); (case k6 => k_is); (case k7 => k_is); (case k8 => ktr_room); (case k9 => first | exact BindsTo.of_eq rfl | exact binds_K (by k_in) rfl (by k_is) rfl rfl rfl | fail "k_enter: no rule for these arguments"); (case kB => exact rfl); (case kD => decide +kernel); (case c2 => exact rfl); (case c3 => exact rfl); (case c4 => exact rfl); k_whole; intro g' L' h' tk' cells' FG' F' N' Y' B' X' T' l1; (try k_lt l1); k_cells Y'; (try simp only [List.cons_append, List.nil_append] at N'); (try dsimp only); (try k_lift B'); (try k_fold)))
local macro_rules | `(tactic| walk_at "call ref") => `(tactic| (k_dflt (refine' Told.use (conv_nm _ _ _ _ ?hi ?hj _ _) ?B ?F ?X ?N ?T ?hk ?hd ?hu ?_; (case B => k_asm); (case F => k_asm); (case X => k_asm); (case N => k_asm); (case T => k_asm); (case hk => first | exact rfl | assumption); (case hd => ktr_room); (case hu => ktr_units); (case hi => assumption); (case hj => assumption)); intro r' h' tk' news' F' N' hp'; obtain ⟨e1', e2'⟩ := hp'; subst e1'; subst e2'; (try dsimp only)))
local macro_rules | `(tactic| walk_at "call ref") => `(tactic| (k_dflt (refine' Told.use (conv_dg _ _ _ ?hn _ _) ?B ?F ?X ?N ?T ?hk ?hd ?hu ?_; (case B => k_asm); (case F => k_asm); (case X => k_asm); (case N => k_asm); (case T => k_asm); (case hk => first | exact rfl | assumption); (case hd => ktr_room); (case hu => ktr_units); (case hn => assumption)); intro r' h' tk' news' F' N' hp'; obtain ⟨e1', e2'⟩ := hp'; subst e1'; subst e2'; (try dsimp only)))
local macro_rules | `(tactic| walk_at "call ref") => `(tactic| (k_dflt (refine' Told.use (del_ok _ _ _ _ _ _ ?hi ?hj _ _ _ _ _ _ _ ?hr ?h1 ?h2 ?h4 ?h5 ?hz ?h6) ?B ?F ?X ?N ?T ?hk ?hd ?hu ?_; (case B => k_asm); (case F => k_asm); (case X => k_asm); (case N => k_asm); (case T => k_asm); (case hk => first | exact rfl | assumption); (case hd => ktr_room); (case hu => ktr_units); (case h4 => assumption); (case h1 => k_mem); (case h2 => k_mem); (case hi => assumption); (case hj => assumption); (case hr => assumption); (case h5 => assumption); (case hz => assumption); (case h6 => assumption)); intro r' h' tk' news' F' N' hp'; obtain ⟨e1', nn9, e2'⟩ := hp'; subst e1'; subst e2'; (try dsimp only)))
local macro_rules | `(tactic| walk_at "call builtin:str.lower") => `(tactic| (first | refine low1 (by assumption) (by assumption) ?_ | refine low2 (by assumption) (by assumption) ?_))
local macro_rules | `(tactic| walk_at "call builtin:str.upper") => `(tactic| (refine up1 (by assumption) (by assumption) ?_))
local macro_rules | `(tactic| walk_at "exec For Tuple Attribute cons nil") => `(tactic| refine Halt.in ?_)
local macro_rules | `(tactic| walk_at "exec For Tuple Name cons nil") => `(tactic| refine Halt.in ?_)
local macro_rules | `(tactic| walk_at "exec For Name Call cons nil") => `(tactic| refine Halt.in ?_)
local macro_rules | `(tactic| walk_at "pyIter ref") => `(tactic| refine Halt.in ?_)
local macro_rules | `(tactic| walk_at "TurnEnd") => `(tactic| first | refine TurnEnd.ret ?_ | refine Halt.in ?_)
local macro_rules | `(tactic| k_all) => `(tactic| assumption)
local macro_rules | `(tactic| walk_at "eval ListComp") => `(tactic| refine Halt.in ?_)
local macro_rules | `(tactic| walk_at "SrcAt") => `(tactic| refine Halt.in ?_)
local macro_rules | `(tactic| walk_at "TestAt") => `(tactic| refine Halt.in ?_)
local macro_rules | `(tactic| walk_at "setItem ref ref") => `(tactic| refine Halt.in ?_)
local macro_rules | `(tactic| walk_at "eval Name") => `(tactic| (k_inBlock; k_dflt (first
  | (refine' blkL ?hn ?hv ?_ ?hk ?hx ?hd; (case hk => exact rfl); (case hx => exact rfl); (case hd => decide); (case hn => exact Fr.ns (by k_asm)); (case hv => k_asm); k_whole)
  | (refine' blkC ?ho ?hd ?_ ?hc ?hk ?hx ?hb; (case hk => exact rfl); (case hx => exact rfl); (case hb => decide); (case hc => exact rfl); (case ho => exact News.get (by k_asm) (by k_mem)); (case hd => k_asm); k_whole))))
local macro_rules | `(tactic| walk_at "delItem ref") => `(tactic| (k_here; k_dflt (refine' delItem_K ?k1 ?k2 ?k3 ?k4 ?k5 ?k6 ?_; (case k1 => k_asm); (case k2 => k_asm); (case k3 => k_inst); (case k4 => k_is); (case k5 => k_is); (case k6 => k_is); k_whole)))
local macro_rules | `(tactic| walk_at "setItem ref str") => `(tactic| (k_here; k_dflt (refine' setItem_K' ?k1 ?k2 ?k3 ?k4 ?k5 ?k6 ?_; (case k1 => k_asm); (case k2 => k_asm); (case k3 => k_inst); (case k4 => k_is); (case k5 => k_is); (case k6 => k_is); k_whole)))
local macro_rules | `(tactic| walk_at "call builtin:list.append") => `(tactic| refine Halt.in ?_)
theorem Mine.setm_ok (w : World) (tb d l : Addr) (i j : Nat) (hi : i ≤ 9) (hj : j ≤ 9) (n : Nat) (hn : n ≤ 9) (t t' tk : Tok) (n1 nn : Nat) (vs : List Value) (es : List (Str × Str)) (rest : Led) (hr : ∀ p ∈ rest, p.1 ≠ l)
    (h1 : (tb, instObj 235 d) ∈ rest) (h2 : (d, dictOf [⟨PyData.keyHash w.params (Str.ofString "_headers"), .str (Str.ofString "_headers") tk, .ref l⟩] n1) ∈ rest) (h4 : Ents rest vs es) (h5 : Small es) (hz : es.length ≤ 200) (h6 : seek (nm i j) es = none) :
    Told w 5 148 [.ref tb, .str (nm i j) t, .str (dg n) t'] [] ((l, W.listOf vs.toArray nn) :: rest) (fun r news' => r = Value.none ∧ ∃ (a : Addr) (t1 t2 : Tok) (nn' : Nat), a ≠ l ∧ (l, W.listOf (vs ++ [Value.ref a]).toArray nn') :: (a, tupO #[.str (nm i j) t1, .str (dg n) t2] 0) :: rest = news') := by
  unfold Told PR
  k_fill
  intro mean mg mb dp un gd cn cs a ccd cl outer A₀ base h₀ L m s Q E B F X N T hk hdp hun hret
  refine wpAny_call ?_
  k_enter
  clear F N
  rename News _ _ _ _ => N1
  have h4' := h4.mono (news' := (tb, instObj 235 d) :: (d, dictOf [⟨PyData.keyHash w.params (Str.ofString "_headers"), .str (Str.ofString "_headers") tk, .ref l⟩] n1) :: rest) fun _ _ _ hm => .tail _ (.tail _ hm)
  have hr' : ∀ p ∈ (tb, instObj 235 d) :: (d, dictOf [⟨PyData.keyHash w.params (Str.ofString "_headers"), .str (Str.ofString "_headers") tk, .ref l⟩] n1) :: rest, p.1 ≠ l := all1 (hr _ h1) (all1 (hr _ h2) hr)
  replace N1 := News.dup (News.dup (News.dup N1 (.tail _ h2)) (.tail _ (.tail _ h1))) (.tail _ (.tail _ (.head _)))
  replace N1 := News.cut2 N1
  k_steps
  refine Halt.out ?_
  rename Fr _ _ _ _ => F2
  rename News _ _ _ _ => N2
  refine append_K F2 N2 (Upd.tail (News.apart N2 (.head _) (.tail _ (.head _)) (by show Value.type "tuple" ≠ Value.type "list"; decide)) (Upd.head hr')) ?_ (by simp [h4.length, sizeLine_eq]; omega)
  intro h8 F3 N3
  have q9 := News.apart N3 (.head _) (.tail _ (.head _)) (by show Value.type "tuple" ≠ Value.type "list"; decide)
  rw [List.push_toArray] at N3
  clear F2 N2
  k_steps
  rename News h₀ _ _ _ => kN
  exact hret _ _ _ _ (by assumption) (News.swap4 kN) ⟨rfl, _, _, _, _, q9, rfl⟩
end
section
open PySem PySem.W PyProof.Rows Mine
set_option Elab.async false
set_option maxRecDepth 100000
set_option maxHeartbeats 8000000
set_option pp.maxSteps 6000
local macro_rules | `(tactic| walk_at "WhileStep2") => `(tactic| fail)
local macro_rules | `(tactic| walk_at "binaryOp Add str str") => `(tactic| fail)
local macro_rules | `(tactic| walk_at "binaryOp Mult str int") => `(tactic| fail)
local macro_rules | `(tactic| walk_at "call builtin:hasattr") => `(tactic| fail)
local macro_rules | `(tactic| walk_at "call builtin:len") => `(tactic| fail)
local macro_rules | `(tactic| walk_at "call builtin:len") => `(tactic| fail)
local macro_rules | `(tactic| walk_at "call builtin:list.append") => `(tactic| fail)
local macro_rules | `(tactic| walk_at "call builtin:re.Pattern.search") => `(tactic| fail)
local macro_rules | `(tactic| walk_at "call ref") => `(tactic| fail)
local macro_rules | `(tactic| walk_at "call ref") => `(tactic| fail)
local macro_rules | `(tactic| walk_at "call ref") => `(tactic| fail)
local macro_rules | `(tactic| walk_at "call ref") => `(tactic| fail)
local macro_rules | `(tactic| walk_at "call ref") => `(tactic| fail)
local macro_rules | `(tactic| walk_at "call ref") => `(tactic| fail)
local macro_rules | `(tactic| walk_at "call ref") => `(tactic| fail)
local macro_rules | `(tactic| walk_at "call ref") => `(tactic| fail)
local macro_rules | `(tactic| walk_at "call ref") => `(tactic| fail)
local macro_rules | `(tactic| walk_at "call ref") => `(tactic| fail)
local macro_rules | `(tactic| walk_at "call type:str") => `(tactic| fail)
local macro_rules | `(tactic| walk_at "exec For") => `(tactic| fail)
local macro_rules | `(tactic| walk_at "exec For Name Call") => `(tactic| fail)
local macro_rules | `(tactic| walk_at "exec For Name Call cons cons") => `(tactic| fail)
local macro_rules | `(tactic| walk_at "exec For Tuple Name cons cons") => `(tactic| fail)
local macro_rules | `(tactic| walk_at "exec While") => `(tactic| fail)
local macro_rules | `(tactic| walk_at "getMethod ref") => `(tactic| fail)
local macro_rules | `(tactic| walk_at "subscriptTail Name Name str int") => `(tactic| fail)
local macro_rules | `(tactic| walk_at "subscriptTail Name Slice str ref") => `(tactic| fail)
local macro_rules | `(tactic| walk_at "mine pad") => `(tactic| fail)
local macro_rules | `(tactic| walk_at "mine pad") => `(tactic| fail)
local macro_rules | `(tactic| walk_at "mine pad") => `(tactic| fail)
local macro_rules | `(tactic| walk_at "mine pad") => `(tactic| fail)
local macro_rules | `(tactic| walk_at "mine pad") => `(tactic| fail)
local macro_rules | `(tactic| walk_at "mine pad") => `(tactic| fail)
local macro_rules | `(tactic| walk_at "mine pad") => `(tactic| fail)
local macro_rules | `(tactic| k_room) => `(tactic| ktr_room)
local macro_rules | `(tactic| k_units) => `(tactic| ktr_units)
local macro_rules | `(tactic| k_enter) => `(tactic| first
  | (refine' code_def ?k1 ?k2 ?k3 ?k4 ?k5 ?kA ?kF ?kK ?k6 ?k7 ?k8 ?k9 ?kB ?_ ?c2 ?c3 ?c4 ?c5; (case kA => exact rfl); (case kF => exact rfl); (case kK => first | exact rfl | assumption); (case k1 => k_asm); (case k2 => k_asm); (case k3 => k_asm); (case k4 => k_asm); (case k5 => k_asm); (case k6 => k_is); (case k7 => k_is); (case k8 => ktr_room); (case k9 => first | exact BindsTo.of_eq rfl | exact binds_K (by k_in) rfl (by k_is) rfl rfl rfl | fail "k_enter: no rule for these arguments"); (case c5 => decide); (case kB => exact locs rfl); (case c2 => exact rfl); (case c3 => exact rfl); (case c4 => exact rfl); k_whole; intro g' L' h' FG' F' N' B' X' T'; (try dsimp only); (try k_lift B'); (try k_fold))
  | (refine' code_defC ?k1 ?k2 ?k3 ?k4 ?k5 ?kA ?kF ?kK ?k6 ?k7 ?k8 ?k9 ?kB ?kD ?_ ?c2 ?c3 ?c4; (case kA => exact rfl); (case kF => exact rfl); (case kK => first | exact rfl | assumption); (case k1 => k_asm); (case k2 => k_asm); (case k3 => k_asm); (case k4 => k_asm); (case k5 => k_asm); (case k6 => k_is); (case k7 => k_is); (case k8 => ktr_room); (case k9 => first | exact BindsTo.of_eq rfl | exact binds_K (by k_in) rfl (by k_is) rfl rfl rfl | fail "k_enter: no rule for these arguments"); (case kB => exact rfl); (case kD => decide +kernel); (case c2 => exact rfl); (case c3 => exact rfl); (case c4 => exact rfl); k_whole; intro g' L' h' tk' cells' FG' F' N' Y' B' X' T' l1; (try k_lt l1); k_cells Y'; (try simp only [List.cons_append, List.nil_append] at N'); (try dsimp only); (try k_lift B'); (try k_fold)))
local macro_rules | `(tactic| walk_at "call ref") => `(tactic| (k_dflt (refine' Told.use (setm_ok _ _ _ _ _ _ ?hi ?hj _ ?hn _ _ _ _ _ _ _ _ ?hr ?h1 ?h2 ?h4 ?h5 ?hz ?h6) ?B ?F ?X ?N ?T ?hk ?hd ?hu ?_; (case B => k_asm); (case F => k_asm); (case X => k_asm); (case N => k_asm); (case T => k_asm); (case hk => first | exact rfl | assumption); (case hd => ktr_room); (case hu => ktr_units); (case h4 => assumption); (case h1 => k_mem); (case h2 => k_mem); (case hi => assumption); (case hj => assumption); (case hn => assumption); (case hr => assumption); (case h5 => assumption); (case hz => assumption); (case h6 => assumption)); intro r' h' tk' news' F' N' hp'; obtain ⟨e1', a9, t8, t9, nn9, q9, e2'⟩ := hp'; subst e1'; subst e2'; (try dsimp only)))
local macro_rules | `(tactic| walk_at "call builtin:str.lower") => `(tactic| (first | refine low1 (by assumption) (by assumption) ?_ | refine low2 (by assumption) (by assumption) ?_))
local macro_rules | `(tactic| walk_at "call builtin:str.upper") => `(tactic| (refine up1 (by assumption) (by assumption) ?_))
local macro_rules | `(tactic| walk_at "exec For Tuple Attribute cons nil") => `(tactic| refine Halt.in ?_)
local macro_rules | `(tactic| walk_at "exec For Tuple Name cons nil") => `(tactic| refine Halt.in ?_)
local macro_rules | `(tactic| walk_at "exec For Name Call cons nil") => `(tactic| refine Halt.in ?_)
local macro_rules | `(tactic| walk_at "pyIter ref") => `(tactic| refine Halt.in ?_)
local macro_rules | `(tactic| walk_at "TurnEnd") => `(tactic| first | refine TurnEnd.ret ?_ | refine Halt.in ?_)
local macro_rules | `(tactic| k_all) => `(tactic| assumption)
local macro_rules | `(tactic| walk_at "eval ListComp") => `(tactic| refine Halt.in ?_)
local macro_rules | `(tactic| walk_at "SrcAt") => `(tactic| refine Halt.in ?_)
local macro_rules | `(tactic| walk_at "TestAt") => `(tactic| refine Halt.in ?_)
local macro_rules | `(tactic| walk_at "setItem ref ref") => `(tactic| refine Halt.in ?_)
local macro_rules | `(tactic| walk_at "eval Name") => `(tactic| (k_inBlock; k_dflt (first
  | (refine' blkL ?hn ?hv ?_ ?hk ?hx ?hd; (case hk => exact rfl); (case hx => exact rfl); (case hd => decide); (case hn => exact Fr.ns (by k_asm)); (case hv => k_asm); k_whole)
  | (refine' blkC ?ho ?hd ?_ ?hc ?hk ?hx ?hb; (case hk => exact rfl); (case hx => exact rfl); (case hb => decide); (case hc => exact rfl); (case ho => exact News.get (by k_asm) (by k_mem)); (case hd => k_asm); k_whole))))
local macro_rules | `(tactic| walk_at "delItem ref") => `(tactic| (k_here; k_dflt (refine' delItem_K ?k1 ?k2 ?k3 ?k4 ?k5 ?k6 ?_; (case k1 => k_asm); (case k2 => k_asm); (case k3 => k_inst); (case k4 => k_is); (case k5 => k_is); (case k6 => k_is); k_whole)))
local macro_rules | `(tactic| walk_at "setItem ref str") => `(tactic| (k_here; k_dflt (refine' setItem_K' ?k1 ?k2 ?k3 ?k4 ?k5 ?k6 ?_; (case k1 => k_asm); (case k2 => k_asm); (case k3 => k_inst); (case k4 => k_is); (case k5 => k_is); (case k6 => k_is); k_whole)))
theorem Mine.setitem_ok (w : World) (tb d l : Addr) (i j : Nat) (hi : i ≤ 9) (hj : j ≤ 9) (n : Nat) (hn : n ≤ 9) (t t' tk : Tok) (n1 nn : Nat) (vs : List Value) (es : List (Str × Str)) (rest : Led) (hr : ∀ p ∈ rest, p.1 ≠ l)
    (h1 : (tb, instObj 235 d) ∈ rest) (h2 : (d, dictOf [⟨PyData.keyHash w.params (Str.ofString "_headers"), .str (Str.ofString "_headers") tk, .ref l⟩] n1) ∈ rest) (h4 : Ents rest vs es) (h5 : Small es) (hz : es.length ≤ 200) (h6 : seek (nm i j) es = none) :
    Told w 7 80 [.ref tb, .str (nm i j) t, .str (dg n) t'] [] ((l, W.listOf vs.toArray nn) :: rest) (fun r news' => r = Value.none ∧ ∃ (a : Addr) (t1 t2 : Tok) (nn' : Nat), a ≠ l ∧ (l, W.listOf (vs ++ [Value.ref a]).toArray nn') :: (a, tupO #[.str (nm i j) t1, .str (dg n) t2] 0) :: rest = news') := by
  unfold Told PR
  k_fill
  intro mean mg mb dp un gd cn cs a ccd cl outer A₀ base h₀ L m s Q E B F X N T hk hdp hun hret
  refine wpAny_call ?_
  k_enter
  clear F N
  rename News _ _ _ _ => N1
  have h4' := h4.mono (news' := (tb, instObj 235 d) :: (d, dictOf [⟨PyData.keyHash w.params (Str.ofString "_headers"), .str (Str.ofString "_headers") tk, .ref l⟩] n1) :: rest) fun _ _ _ hm => .tail _ (.tail _ hm)
  have hr' : ∀ p ∈ (tb, instObj 235 d) :: (d, dictOf [⟨PyData.keyHash w.params (Str.ofString "_headers"), .str (Str.ofString "_headers") tk, .ref l⟩] n1) :: rest, p.1 ≠ l := all1 (hr _ h1) (all1 (hr _ h2) hr)
  replace N1 := News.dup (News.dup (News.dup N1 (.tail _ h2)) (.tail _ (.tail _ h1))) (.tail _ (.tail _ (.head _)))
  replace N1 := News.cut2 N1
  k_steps
  rename News h₀ _ _ _ => kN
  exact hret _ _ _ _ (by assumption) (News.drop34 kN) ⟨rfl, _, _, _, _, by assumption, rfl⟩

theorem Mine.new_ok (w : World) (news : Led) :
    Told w 3 235 [] [] news (fun r news' => ∃ (x d l : Addr) (tk : Tok) (n1 nn : Nat), r = .ref x ∧ x ≠ l ∧ d ≠ l ∧ (∀ p ∈ news, p.1 ≠ l) ∧ (l, W.listOf #[] nn) :: (x, instObj 235 d) :: (d, dictOf [⟨PyData.keyHash w.params (Str.ofString "_headers"), .str (Str.ofString "_headers") tk, .ref l⟩] n1) :: news = news') := by
  unfold Told PR
  k_fill
  intro mean mg mb dp un gd cn cs a ccd cl outer A₀ base h₀ L m s Q E B F X N T hk hdp hun hret
  k_steps
  refine Halt.out ?_
  refine wpAny_For ?_ (by intro _; rfl)
  k_steps
  refine Halt.out ?_
  rename Fr _ _ _ _ => F1
  rename News _ _ _ _ => N1
  refine forL (vs := []) (nn := 0) (fun i m' nx => i = 0 ∧ m' = _ ∧ nx = _) rfl F1 N1 ⟨rfl, rfl, rfl⟩ ?_ ?_ ?_ (.inr ⟨_, _, _, rfl⟩) (by passes_own)
  · rintro i m' nx ⟨_, _, rfl⟩; k_mem
  · intro i v m₁ nx I oI h tk hv; simp at hv
  · rintro m₁ nx h tk ⟨_, rfl, rfl⟩ F2 N2
    clear F1 N1
    k_steps
    rename News h₀ _ _ _ => kN
    rename _ ∧ _ ∧ AllLt _ _ => l1
    exact hret _ _ _ _ (by assumption) kN ⟨_, _, _, _, _, _, rfl, Nat.ne_of_lt l1.1, Nat.ne_of_lt l1.2.1, fun p hp => Nat.ne_of_lt (allLt_mem l1.2.2 p hp), rfl⟩
end
open PySem PySem.W PyProof.Rows
set_option Elab.async false
namespace Mine
section
variable {prog : Program} {w : World} {A : Around} {E : Value → Shared → Prop} {Q : Flow → Shared → Prop} {s : Shared} {env : Env} {h₀ : Heap}
/-- for x in range(a, b): any body, any ledger -/
theorem forR {x : Str} {px : Pos} {body : List Stmt} {r : Addr} {a₀ b₀ : Int} {t₀ u₀ v₀ : Tok} {n : Nat} {m : Str → Option Value} {news : List (Addr × Obj)} (J : Nat → (Str → Option Value) → List (Addr × Obj) → Prop)
    (hh : A.handled = none) (hr : IsRange s.heap r a₀ b₀ 1 t₀ u₀ v₀) (hsmall : Builtin.Range.small a₀ b₀ 1 = true) (hn : Builtin.Range.rangeSize a₀ b₀ 1 = (n : Int)) (F : Fr h₀ env.locals s.heap m) (N : News h₀ env.locals s.heap news) (hj : J 0 m news)
    (turn : ∀ i m₁ nx I oI h tk t, i < n → oI.cls = .type "range_iterator" → (∀ p ∈ nx, p.1 ≠ I) → J i m₁ nx → Fr h₀ env.locals h m₁ → News h₀ env.locals h ((I, oI) :: nx) →
      wpAny (model prog w) A (assign (.Name x px) env (.int (a₀ + (i : Int)) t)) (fun _ s₂ => wpAny (model prog w) A (execs body env) (TurnEnd h₀ env.locals s I oI (J (i + 1)) Q) E s₂) E { s with heap := h, toks := tk })
    (done : ∀ m₁ nx h tk, J n m₁ nx → Fr h₀ env.locals h m₁ → News h₀ env.locals h nx → Q .next { s with heap := h, toks := tk })
    (hE : PassesOwn (model prog w) A env E) :
    wpAny (model prog w) A (pyIter (.ref r)) (fun it s₂ => codeAny (model prog w) A (.forLoop (.Name x px) it body [] env) (fun r s' => match r with | .ok f => Q f s' | .error e => cameBackBy (model prog w) A env E e s') s₂) E s := by
  refine wpAny_pyIter_range hr hsmall ?_
  have I₀ := next_is_new F
  generalize hI : s.heap.objs.size = I at *
  refine codeAny_forLoop_any
    (fun k s' => ∃ h' tk m' nx i, s' = { s with heap := h', toks := tk } ∧ IsRangeIter h' I (a₀ + (i : Nat)) ((n : Int) - (i : Nat)) 1 ∧ Fr h₀ env.locals h' m' ∧ News h₀ env.locals h' nx ∧ (∀ p ∈ nx, p.1 ≠ I) ∧ I ≠ env.locals ∧ J i m' nx ∧ i ≤ n ∧ k = n + 1 - i) ?_ (n + 1)
    ⟨_, s.toks, m, news, 0, rfl, by rw [hn]; rw [← hI]; simpa using Heap.get?_push_size _ rfl, F.push _, (fun p hp => ⟨Heap.get?_push_of_some _ (N p hp).1, (N p hp).2⟩),
      (fun p hp => by rw [← hI]; exact Nat.ne_of_lt (Heap.lt_size (N p hp).1)), (by rw [← hI]; exact Nat.ne_of_gt F.ns.lt), hj, Nat.zero_le _, rfl⟩
  rintro k s' ⟨h', tk, m', nx, i, rfl, hit, F', N', hap, hIL, hJ, hi, rfl⟩
  have old : ∀ b o, h₀.get? b = some o → b ≠ I := fun b o e hb => by rw [hb, I₀] at e; cases e
  by_cases hlt : i < n
  · refine wpAny_pyNext_range_item hit (by omega) fun h₁ hit₁ hs₁ => ?_
    have F₁ : Fr h₀ env.locals h₁ m' := ⟨F'.ns.sameBut hs₁ (Ne.symm hIL), fun b o e => (hs₁.2 b (old b o e)).trans (F'.keep b o e), F'.above⟩
    have N₁ : News h₀ env.locals h₁ nx := fun p hp => ⟨(hs₁.2 _ (hap p hp)).trans (N' p hp).1, (N' p hp).2⟩
    refine wpAny_pure ?_
    refine wpAny_passesOwn hE (wpAny_mono (turn i m' nx I _ h₁ (tk + 1) tk hlt rfl hap hJ F₁ (by
      intro p hp
      rcases List.mem_cons.mp hp with rfl | hp
      · exact ⟨hit₁, hIL, I₀⟩
      · exact N₁ p hp)) (fun _ s₂ h₂ => wpAny_passesOwn hE (wpAny_mono h₂ (fun f s₃ h₃ => ?_) fun _ _ e => e)) fun _ _ e => e)
    have fin : (∃ h' tk' m' nx', s₃ = { s with heap := h', toks := tk' } ∧ Fr h₀ env.locals h' m' ∧ News h₀ env.locals h' ((I, { cls := .type "range_iterator", data := .fields #[rawInt (a₀ + (i : Nat) + 1), rawInt ((n : Int) - (i : Nat) - 1), rawInt 1] }) :: nx') ∧ (∀ p ∈ nx', p.1 ≠ I) ∧ J (i + 1) m' nx') →
        ∃ m_1, m_1 < n + 1 - i ∧ ∃ h' tk m' nx i, s₃ = { s with heap := h', toks := tk } ∧ IsRangeIter h' I (a₀ + (i : Nat)) ((n : Int) - (i : Nat)) 1 ∧ Fr h₀ env.locals h' m' ∧ News h₀ env.locals h' nx ∧ (∀ p ∈ nx, p.1 ≠ I) ∧ I ≠ env.locals ∧ J i m' nx ∧ i ≤ n ∧ m_1 = n + 1 - i := by
      rintro ⟨h₃', tk₃, m₃, nx₃, rfl, F₃, N₃, hap₃, hJ₃⟩
      have e := (N₃ _ (.head _)).1
      refine ⟨n + 1 - (i + 1), by omega, h₃', tk₃, m₃, nx₃, i + 1, rfl, ?_, F₃, fun p hp => N₃ p (.tail _ hp), hap₃, hIL, hJ₃, hlt, rfl⟩
      have e1 : a₀ + ((i + 1 : Nat) : Int) = a₀ + (i : Int) + 1 := by push_cast; omega
      have e2 : (n : Int) - ((i + 1 : Nat) : Int) = (n : Int) - (i : Int) - 1 := by push_cast; omega
      rw [e1, e2]; exact e
    cases f with
    | ret v => exact h₃
    | brk => exact h₃
    | next => exact fin h₃
    | cont => exact fin h₃
  · have hin : i = n := by omega
    subst hin
    refine wpAny_pyNext_range_end hh hit (by omega) fun h₁ he₁ => wpAny_execs_nil ?_
    have F₁ : Fr h₀ env.locals h₁ m' := ⟨F'.ns.at' fun o e => he₁ _ o (Ne.symm hIL) e, fun b o e => he₁ b o (old b o e) (F'.keep b o e), F'.above⟩
    exact done m' nx h₁ tk hJ F₁ fun p hp => ⟨he₁ _ _ (hap p hp) (N' p hp).1, (N' p hp).2⟩
/-- a contract of a def that also reads an old list -/
def ToldH (w : World) (k : Nat) (f : Addr) (args : List Value) (kw : List (Str × Value)) (news : List (Addr × Obj)) (H : Heap → Prop) (Post : Value → List (Addr × Obj) → Prop) : Prop :=
  ∀ (mean : ExcName → Option Value) (mg mb : Str → Option Value) (dp un : Nat) (gd : Option (List Code)) (cn : Str) (cs : Scope) (a : Addr) (ccd : Value) (cl : List (Str × Addr)) (outer : List Env) (A₀ : Around) (base h₀ : Heap) (L : Addr) (m : Str → Option Value) (s : Shared) (Q E : Value → Shared → Prop),
    Below A₀ base outer h₀ → Fr h₀ L s.heap m → (hd.heap_39 w.params).In h₀ → News h₀ L s.heap news → Top hd.view_39 LS mean mg mb h₀ → cs.kind = .function → dp + k < recursionLimit → un + 8 * k < cLine → H h₀ →
    (∀ (r : Value) (h' : Heap) (tk' : Nat) (news' : List (Addr × Obj)), Fr h₀ L h' m → News h₀ L h' news' → Post r news' → Q r { s with heap := h', toks := tk' }) →
    wpAny (model PR w) (ktrTop dp un gd cn cs L a ccd cl outer) (call (.ref f) args kw) Q E s
theorem ToldH.use {w : World} {k : Nat} {f : Addr} {args : List Value} {kw : List (Str × Value)} {news : List (Addr × Obj)} {H : Heap → Prop} {Post : Value → List (Addr × Obj) → Prop} (hH : ToldH w k f args kw news H Post)
    {mean : ExcName → Option Value} {mg mb : Str → Option Value} {dp un : Nat} {gd : Option (List Code)} {cn : Str} {cs : Scope} {a : Addr} {ccd : Value} {cl : List (Str × Addr)} {outer : List Env} {A₀ : Around} {base h₀ : Heap} {L : Addr} {m : Str → Option Value} {s : Shared} {Q E : Value → Shared → Prop}
    (B : Below A₀ base outer h₀) (F : Fr h₀ L s.heap m) (X : (hd.heap_39 w.params).In h₀) (N : News h₀ L s.heap news) (T : Top hd.view_39 LS mean mg mb h₀) (hk : cs.kind = .function) (hd : dp + k < recursionLimit) (hu : un + 8 * k < cLine) (hh : H h₀)
    (ret : ∀ (r : Value) (h' : Heap) (tk' : Nat) (news' : List (Addr × Obj)), Fr h₀ L h' m → News h₀ L h' news' → Post r news' → Q r { s with heap := h', toks := tk' }) :
    wpAny (model PR w) (ktrTop dp un gd cn cs L a ccd cl outer) (call (.ref f) args kw) Q E s := hH _ _ _ _ _ _ _ _ _ _ _ _ _ _ _ _ _ _ _ _ B F X N T hk hd hu hh ret
end
end Mine
open PySem PySem.W PyProof.Rows PySem.Calls
set_option Elab.async false
namespace Mine
/-- blanks -/
def sp (n : Nat) : Str := ⟨(List.replicate n 32).toArray⟩
theorem sp_len (n : Nat) : (sp n).length = n := by simp [sp, Str.length]
theorem sp_mul (z : Int) : Txt.mul (Str.ofString " ") z = sp z.toNat := by
  have e : (Str.ofString " ") = ⟨#[32]⟩ := by decide +kernel
  rw [e]
  have h := mul_one_list 32 z
  show (⟨(Txt.mul ⟨#[32]⟩ z).cps⟩ : Str) = ⟨_⟩
  congr 1
  apply Array.ext'
  simpa using h
theorem sp_bl (n i c : Nat) : sp n ++ bl i c = bl (n + i) c := by
  show (⟨(sp n ++ bl i c).cps⟩ : Str) = ⟨(bl (n + i) c).cps⟩
  rw [Str.cps_append]
  congr 1
  apply Array.ext'
  simp only [sp, bl, Array.toList_append]
  rw [← List.append_assoc, List.replicate_append_replicate]
section
variable {prog : Program} {w : World} {A : Around} {E : Value → Shared → Prop} {s : Shared} {t u : Tok} {Q : Value → Shared → Prop}
theorem mul_sp {z : Int} (h0 : 0 ≤ z) (h1 : z ≤ 20) (h : ∀ t' k, Q (.str (sp z.toNat) t') { s with toks := k }) : wpAny (model prog w) A (binaryOp .Mult (.str (Str.ofString " ") t) (.int z u)) Q E s :=
  KXi.mul (n := 1) (by decide +kernel) (by omega) (by omega) (by omega) fun t' k _ _ => by rw [sp_mul]; exact h t' k
theorem add_bl {n i c : Nat} (hn : n ≤ 20) (hi : i ≤ 20) (h : ∀ t' k, Q (.str (bl (n + i) c) t') { s with toks := k }) : wpAny (model prog w) A (binaryOp .Add (.str (sp n) t) (.str (bl i c) u)) Q E s :=
  SB.add (fun t' k => by rw [sp_bl]; exact h t' k) (by rw [sp_len, len_bl, sizeLine_eq]; omega)
theorem len_led {h₀ : Heap} {L l : Addr} {news : List (Addr × Obj)} {vs : List Value} {nn : Nat} (N : News h₀ L s.heap news) (hm : (l, W.listOf vs.toArray nn) ∈ news) (hz : vs.length ≤ 1000) (h : ∀ t k, Q (.int (vs.length : Int) t) { s with toks := k }) :
    wpAny (model prog w) A (call (.builtin "len") [.ref l]) Q E s := by
  have hls : s.heap.IsList l vs.toArray := ⟨_, (N _ hm).1, rfl, nn, rfl⟩
  exact call_len_list hls (by simp; omega) (by simpa using h _ _)
theorem len_old {h₀ : Heap} {L l : Addr} {m : Str → Option Value} {vs : List Value} (F : Fr h₀ L s.heap m) (hls : h₀.IsList l vs.toArray) (hz : vs.length ≤ 1000) (h : ∀ t k, Q (.int (vs.length : Int) t) { s with toks := k }) :
    wpAny (model prog w) A (call (.builtin "len") [.ref l]) Q E s :=
  call_len_list (hls.at fun o e => F.keep _ _ e) (by simp; omega) (by simpa using h _ _)
end
end Mine
open PySem PySem.W PyProof.Rows PySem.Calls
set_option Elab.async false
set_option maxRecDepth 100000
namespace Mine
open PySem.F
theorem lk_str_gi : typeLookup (.type "str") "__getitem__" = pure (some (.builtin "str.__getitem__")) := by rw [typeLookup_type, builtinLookup_eq_fast]; kernel_rfl
theorem type_str_gi : typeOf (.builtin "str.__getitem__") = pure (.type "wrapper_descriptor") := by show builtinType _ = _; rw [builtinType_eq_fast]; kernel_rfl
theorem slot_wd_get : Slot "wrapper_descriptor" "__get__" "wrapper_descriptor.__get__" :=
  .of (owner := "wrapper_descriptor") (n := "__get__") (by rw [typeLookup_type, builtinLookup_eq_fast]; kernel_rfl) (by decide +kernel) (by decide +kernel) (by decide +kernel)
    (by first | exact .inl (by decide +kernel) | exact .inr (by decide +kernel)) (by rw [isSubtype_type]; kernel_rfl)
theorem wd_set : typeLookup (.type "wrapper_descriptor") "__set__" = pure none := by rw [typeLookup_type, builtinLookup_eq_fast]; kernel_rfl
theorem wd_del : typeLookup (.type "wrapper_descriptor") "__delete__" = pure none := by rw [typeLookup_type, builtinLookup_eq_fast]; kernel_rfl
theorem args_wd_get (a b c : Value) : argsOk "wrapper_descriptor.__get__" ⟨[a, b, c], []⟩ := by unfold argsOk; kernel_rfl
theorem entry_wd_get : entryFor table "wrapper_descriptor.__get__" = some Builtin.«wrapper_descriptor.__get__» := entryFor_of_tree (by kernel_rfl)
theorem owner_gi : ".".intercalate ("str.__getitem__".cutAt '.').dropLast = "str" := by decide +kernel
theorem sub_gi : isSubtype (.type "str") (.type (".".intercalate ("str.__getitem__".cutAt '.').dropLast)) = pure true := by
  rw [owner_gi, isSubtype_type]; kernel_rfl
theorem entry_has : entryFor table "hasattr" = some Builtin.«hasattr» := entryFor_of_fast (by kernel_rfl)
theorem kind_has : builtinKind "hasattr" = none := by decide +kernel
theorem plain_has : plainId "hasattr" = true := by decide +kernel
theorem args_has (a b : Value) : argsOk "hasattr" ⟨[a, b], []⟩ := by unfold argsOk; kernel_rfl
theorem noend_gi : (withoutEnding? "str.__getitem__" "#data").isSome = false := by decide +kernel
set_option maxHeartbeats 2000000
section
variable {prog : Program} {w : World} {A : Around} {E : Value → Shared → Prop} {h : Heap} {g : Array GenState} {d : Drawn} {t : Nat} {os : OsState} {x : Str} {u : Tok}
theorem gi_get {R : Result → Shared → Prop} (hq : ∀ o, R (.ok (.ret (.ref h.objs.size))) ⟨h.push o, g, d, t, os⟩) :
    codeAny (model prog w) A (.call (.builtin "wrapper_descriptor.__get__") ⟨[.builtin "str.__getitem__", .str x u, .type "str"], []⟩) R ⟨h, g, d, t, os⟩ := by
  have hT : (⟨h, g, d, t, os⟩ : Shared).TypeIs (.str x u) "str" := rfl
  have hT5 : (⟨h, g, d, t, os⟩ : Shared).TypeIs (.builtin "str.__getitem__") "wrapper_descriptor" := type_str_gi
  have f8 := sub_gi
  refine codeAny_call_builtin slot_wd_get.plain entry_wd_get (slot_wd_get.check _ _ _ _ _ _ _ _ hT5 (args_wd_get _ _ _) ?_)
  repeat (any_goals (first | assumption | wp_step))
  all_goals exact hq _
theorem gi_entry {tk : Tok} {Q : Fin → Shared → Prop} (hq : ∀ o, Q (.done (.ret (.ref h.objs.size))) ⟨h.push o, g, d, t, os⟩) :
    wpAny (model prog w) A (Builtin.«object.__getattribute__» ⟨[.str x u, .str "__getitem__" tk], []⟩) Q E ⟨h, g, d, t, os⟩ := by
  have hT : (⟨h, g, d, t, os⟩ : Shared).TypeIs (.str x u) "str" := rfl
  have hT5 : (⟨h, g, d, t, os⟩ : Shared).TypeIs (.builtin "str.__getitem__") "wrapper_descriptor" := type_str_gi
  have f4 := lk_str_gi
  have f5 := type_str_gi
  have f6 := slot_wd_get.lookup
  have f7 := wd_set
  have f8 := wd_del
  repeat (any_goals (first | assumption | wp_step))
  refine gi_get fun o => ?_
  repeat (any_goals (first | assumption | wp_step))
  all_goals exact hq _
theorem gi_call {tk : Tok} {R : Result → Shared → Prop} (hq : ∀ o, R (.ok (.ret (.ref h.objs.size))) ⟨h.push o, g, d, t, os⟩) :
    codeAny (model prog w) A (.call (.builtin "object.__getattribute__") ⟨[.str x u, .str "__getitem__" tk], []⟩) R ⟨h, g, d, t, os⟩ :=
  codeAny_call_builtin F.slot_str_getattribute.plain F.entry_object_getattribute (F.slot_str_getattribute.check _ _ _ _ _ _ _ _ (show (⟨h, g, d, t, os⟩ : Shared).TypeIs (.str x u) "str" from rfl) (F.args_object_getattribute_2 _ _) (gi_entry hq))
theorem gi_by {tk : Tok} {Q : Value → Shared → Prop} (hq : ∀ o, Q (.ref h.objs.size) ⟨h.push o, g, d, t, os⟩) : wpAny (model prog w) A (getAttrBy (.str x u) (.str "__getitem__" tk) false) Q E ⟨h, g, d, t, os⟩ := by
  have hT : (⟨h, g, d, t, os⟩ : Shared).TypeIs (.str x u) "str" := rfl
  have f2 := F.slot_str_getattribute.lookup
  have f3 := F.slot_str_getattribute.bind (.str x u)
  repeat (any_goals (first | assumption | wp_step))
  refine gi_call fun o => ?_
  repeat (any_goals (first | assumption | wp_step))
  all_goals exact hq _
theorem has_str {tk : Tok} {Q : Value → Shared → Prop} (hq : ∀ o, Q (.bool true) ⟨h.push o, g, d, t, os⟩) : wpAny (model prog w) A (call (.builtin "hasattr") [.str x u, .str (Str.ofString "__getitem__") tk]) Q E ⟨h, g, d, t, os⟩ := by
  have hT : (⟨h, g, d, t, os⟩ : Shared).TypeIs (.str x u) "str" := rfl
  have f1 := lk_str_gi
  have f2 := F.slot_str_getattribute.lookup
  have f3 := noend_gi
  refine call_function_entry kind_has plain_has entry_has (args_has _ _) ?_
  unfold Builtin.«hasattr» getAttrBy?
  refine wpAny_bind (m := someArgs "hasattr" 2 2 _) (wpAny_pure ?_)
  dsimp only
  iterate 12 (first | assumption | wp_step)
  refine wpAny_pure ?_
  dsimp only
  refine wpAny_bind ?_
  rw [lk_str_gi]
  refine wpAny_pure ?_
  dsimp only
  refine wpAny_bind ?_
  rw [f2]
  refine wpAny_pure ?_
  rw [f3, Bool.false_and, if_neg Bool.false_ne_true]
  refine wpAny_bind (wpAny_pure (a := (0 : Nat)) ?_)
  rw [if_neg (by decide)]
  refine wpAny_bind ?_
  refine wpAny_bind (wpAny_attempt ?_)
  refine gi_by fun o => ?_
  repeat (any_goals (first | assumption | wp_step))
  all_goals exact ⟨_, rfl, hq _⟩
theorem has_K {s : Shared} {h₀ : Heap} {L : Addr} {m : Str → Option Value} {news : List (Addr × Obj)} {tk : Tok} {Q : Value → Shared → Prop} (F : Fr h₀ L s.heap m) (N : News h₀ L s.heap news)
    (hq : ∀ h', Fr h₀ L h' m → News h₀ L h' news → Q (.bool true) { s with heap := h' }) : wpAny (model prog w) A (call (.builtin "hasattr") [.str x u, .str (Str.ofString "__getitem__") tk]) Q E s :=
  has_str fun o => hq _ (F.push o) fun p hp => ⟨Heap.get?_push_of_some _ (N p hp).1, (N p hp).2⟩
end
end Mine
section
open PySem PySem.W PyProof.Rows Mine
set_option Elab.async false
set_option maxRecDepth 100000
set_option maxHeartbeats 8000000
set_option pp.maxSteps 6000
local macro_rules | `(tactic| walk_at "SrcAt") => `(tactic| fail)
local macro_rules | `(tactic| walk_at "TestAt") => `(tactic| fail)
local macro_rules | `(tactic| walk_at "WhileStep2") => `(tactic| fail)
local macro_rules | `(tactic| walk_at "call builtin:list.append") => `(tactic| fail)
local macro_rules | `(tactic| walk_at "call builtin:re.Pattern.search") => `(tactic| fail)
local macro_rules | `(tactic| walk_at "call builtin:str.lower") => `(tactic| fail)
local macro_rules | `(tactic| walk_at "call builtin:str.upper") => `(tactic| fail)
local macro_rules | `(tactic| walk_at "call ref") => `(tactic| fail)
local macro_rules | `(tactic| walk_at "call ref") => `(tactic| fail)
local macro_rules | `(tactic| walk_at "call ref") => `(tactic| fail)
local macro_rules | `(tactic| walk_at "call ref") => `(tactic| fail)
local macro_rules | `(tactic| walk_at "call ref") => `(tactic| fail)
local macro_rules | `(tactic| walk_at "call ref") => `(tactic| fail)
local macro_rules | `(tactic| walk_at "call ref") => `(tactic| fail)
local macro_rules | `(tactic| walk_at "call ref") => `(tactic| fail)
local macro_rules | `(tactic| walk_at "call ref") => `(tactic| fail)
local macro_rules | `(tactic| walk_at "call ref") => `(tactic| fail)
local macro_rules | `(tactic| walk_at "call ref") => `(tactic| fail)
local macro_rules | `(tactic| walk_at "call type:str") => `(tactic| fail)
local macro_rules | `(tactic| walk_at "delItem ref") => `(tactic| fail)
local macro_rules | `(tactic| walk_at "eval ListComp") => `(tactic| fail)
local macro_rules | `(tactic| walk_at "eval Name") => `(tactic| fail)
local macro_rules | `(tactic| walk_at "exec For") => `(tactic| fail)
local macro_rules | `(tactic| walk_at "exec For Name Call") => `(tactic| fail)
local macro_rules | `(tactic| walk_at "exec For Name Call cons cons") => `(tactic| fail)
local macro_rules | `(tactic| walk_at "exec For Tuple Name cons cons") => `(tactic| fail)
local macro_rules | `(tactic| walk_at "exec While") => `(tactic| fail)
local macro_rules | `(tactic| walk_at "getMethod ref") => `(tactic| fail)
local macro_rules | `(tactic| walk_at "setItem ref ref") => `(tactic| fail)
local macro_rules | `(tactic| walk_at "setItem ref str") => `(tactic| fail)
local macro_rules | `(tactic| walk_at "subscriptTail Name Name str int") => `(tactic| fail)
local macro_rules | `(tactic| walk_at "subscriptTail Name Slice str ref") => `(tactic| fail)
local macro_rules | `(tactic| walk_at "mine pad") => `(tactic| fail)
local macro_rules | `(tactic| walk_at "mine pad") => `(tactic| fail)
local macro_rules | `(tactic| walk_at "mine pad") => `(tactic| fail)
local macro_rules | `(tactic| walk_at "mine pad") => `(tactic| fail)
local macro_rules | `(tactic| walk_at "mine pad") => `(tactic| fail)
local macro_rules | `(tactic| walk_at "mine pad") => `(tactic| fail)
local macro_rules | `(tactic| walk_at "mine pad") => `(tactic| fail)
local macro_rules | `(tactic| walk_at "mine pad") => `(tactic| fail)
local macro_rules | `(tactic| k_room) => `(tactic| ktr_room)
local macro_rules | `(tactic| k_units) => `(tactic| ktr_units)
local macro_rules | `(tactic| k_enter) => `(tactic| first
  | (refine' code_def ?k1 ?k2 ?k3 ?k4 ?k5 ?kA ?kF ?kK ?k6 ?k7 ?k8 ?k9 ?kB ?_ ?c2 ?c3 ?c4 ?c5; (case kA => exact rfl); (case kF => exact rfl); (case kK => first | exact rfl | assumption); (case k1 => k_asm); (case k2 => k_asm); (case k3 => k_asm); (case k4 => k_asm); (case k5 => k_asm); (case k6 => k_is); (case k7 => k_is); (case k8 => ktr_room); (case k9 => first | exact BindsTo.of_eq rfl | exact binds_K (by k_in) rfl (by k_is) rfl rfl rfl | fail "k_enter: no rule for these arguments"); (case c5 => decide); (case kB => exact locs rfl); (case c2 => exact rfl); (case c3 => exact rfl); (case c4 => exact rfl); k_whole; intro g' L' h' FG' F' N' B' X' T'; (try dsimp only); (try k_lift B'); (try k_fold))
  | (refine' code_defC ?k1 ?k2 ?k3 ?k4 ?k5 ?kA ?kF ?kK ?k6 ?k7 ?k8 ?k9 ?kB ?kD ?_ ?c2 ?c3 ?c4; (case kA => exact rfl); (case kF => exact rfl); (case kK => first | exact rfl | assumption); (case k1 => k_asm); (case k2 => k_asm); (case k3 => k_asm); (case k4 => k_asm); (case k5 => k_asm); (case k6 => k_is); (case k7 => k_is); (case k8 => ktr_room); (case k9 => first | exact BindsTo.of_eq rfl | exact binds_K (by k_in) rfl (by k_is) rfl rfl rfl | fail "k_enter: no rule for these arguments"); (case kB => exact rfl); (case kD => decide +kernel); (case c2 => exact rfl); (case c3 => exact rfl); (case c4 => exact rfl); k_whole; intro g' L' h' tk' cells' FG' F' N' Y' B' X' T' l1; (try k_lt l1); k_cells Y'; (try simp only [List.cons_append, List.nil_append] at N'); (try dsimp only); (try k_lift B'); (try k_fold)))
local macro_rules | `(tactic| walk_at "exec For Tuple Attribute cons nil") => `(tactic| refine Halt.in ?_)
local macro_rules | `(tactic| walk_at "exec For Tuple Name cons nil") => `(tactic| refine Halt.in ?_)
local macro_rules | `(tactic| walk_at "exec For Name Call cons nil") => `(tactic| refine Halt.in ?_)
local macro_rules | `(tactic| walk_at "pyIter ref") => `(tactic| refine Halt.in ?_)
local macro_rules | `(tactic| walk_at "TurnEnd") => `(tactic| first | refine TurnEnd.ret ?_ | refine Halt.in ?_)
local macro_rules | `(tactic| walk_at "call builtin:len") => `(tactic| ((with_reducible show wpAny _ _ (call (Value.builtin "len") [Value.str (bl _ _) _]) _ _ _); refine len_writK _ (len_bl _ _) (by k_dflt omega) ?_))
local macro_rules | `(tactic| walk_at "call builtin:len") => `(tactic| ((with_reducible show wpAny _ _ (call (Value.builtin "len") [Value.ref _]) _ _ _); k_dflt (refine' len_led ?k1 ?k2 ?k3 ?_; (case k1 => k_asm); (case k2 => k_mem); (case k3 => assumption)); intro _ _))
local macro_rules | `(tactic| walk_at "binaryOp Mult str int") => `(tactic| (k_dflt (refine' mul_sp ?k1 ?k2 ?_; (case k1 => k_dflt omega); (case k2 => k_dflt omega)); intro t9 k9))
local macro_rules | `(tactic| walk_at "binaryOp Add str str") => `(tactic| ((with_reducible show wpAny _ _ (binaryOp _ (Value.str (sp _) _) (Value.str (bl _ _) _)) _ _ _); k_dflt (refine' add_bl ?k1 ?k2 ?_; (case k1 => k_dflt omega); (case k2 => k_dflt omega)); intro t9 k9))
local macro_rules | `(tactic| walk_at "call builtin:hasattr") => `(tactic| (k_dflt (refine' has_K ?k1 ?k2 ?_; (case k1 => k_asm); (case k2 => k_asm)); intro h' F' N'))
theorem Mine.lhint_ok (w : World) (tb d l : Addr) (tk : Tok) (n1 nn : Nat) (vs : List Value) (news : Led) (hz : vs.length ≤ 1000)
    (h1 : (tb, instObj 235 d) ∈ news) (h2 : (d, dictOf [⟨PyData.keyHash w.params (Str.ofString "_headers"), .str (Str.ofString "_headers") tk, .ref l⟩] n1) ∈ news) (h3 : (l, W.listOf vs.toArray nn) ∈ news) :
    Told w 4 88 [.ref tb] [] news (fun r news' => news = news' ∧ ∃ t, r = .int vs.length t) := by
  unfold Told PR
  k_fill
  intro mean mg mb dp un gd cn cs a ccd cl outer A₀ base h₀ L m s Q E B F X N T hk hdp hun hret
  refine wpAny_call ?_
  k_enter
  clear F N
  k_steps
  exact hret _ _ _ _ (by assumption) (by assumption) ⟨rfl, _, rfl⟩
end
section
open PySem PySem.W PyProof.Rows Mine
set_option Elab.async false
set_option maxRecDepth 100000
set_option maxHeartbeats 8000000
set_option pp.maxSteps 6000
local macro_rules | `(tactic| walk_at "SrcAt") => `(tactic| fail)
local macro_rules | `(tactic| walk_at "TestAt") => `(tactic| fail)
local macro_rules | `(tactic| walk_at "WhileStep2") => `(tactic| fail)
local macro_rules | `(tactic| walk_at "call builtin:list.append") => `(tactic| fail)
local macro_rules | `(tactic| walk_at "call builtin:re.Pattern.search") => `(tactic| fail)
local macro_rules | `(tactic| walk_at "call builtin:str.lower") => `(tactic| fail)
local macro_rules | `(tactic| walk_at "call builtin:str.upper") => `(tactic| fail)
local macro_rules | `(tactic| walk_at "call ref") => `(tactic| fail)
local macro_rules | `(tactic| walk_at "call ref") => `(tactic| fail)
local macro_rules | `(tactic| walk_at "call ref") => `(tactic| fail)
local macro_rules | `(tactic| walk_at "call ref") => `(tactic| fail)
local macro_rules | `(tactic| walk_at "call ref") => `(tactic| fail)
local macro_rules | `(tactic| walk_at "call ref") => `(tactic| fail)
local macro_rules | `(tactic| walk_at "call ref") => `(tactic| fail)
local macro_rules | `(tactic| walk_at "call ref") => `(tactic| fail)
local macro_rules | `(tactic| walk_at "call ref") => `(tactic| fail)
local macro_rules | `(tactic| walk_at "call ref") => `(tactic| fail)
local macro_rules | `(tactic| walk_at "call type:str") => `(tactic| fail)
local macro_rules | `(tactic| walk_at "delItem ref") => `(tactic| fail)
local macro_rules | `(tactic| walk_at "eval ListComp") => `(tactic| fail)
local macro_rules | `(tactic| walk_at "eval Name") => `(tactic| fail)
local macro_rules | `(tactic| walk_at "exec For") => `(tactic| fail)
local macro_rules | `(tactic| walk_at "exec For Name Call") => `(tactic| fail)
local macro_rules | `(tactic| walk_at "exec For Name Call cons cons") => `(tactic| fail)
local macro_rules | `(tactic| walk_at "exec For Tuple Name cons cons") => `(tactic| fail)
local macro_rules | `(tactic| walk_at "exec While") => `(tactic| fail)
local macro_rules | `(tactic| walk_at "getMethod ref") => `(tactic| fail)
local macro_rules | `(tactic| walk_at "setItem ref ref") => `(tactic| fail)
local macro_rules | `(tactic| walk_at "setItem ref str") => `(tactic| fail)
local macro_rules | `(tactic| walk_at "subscriptTail Name Name str int") => `(tactic| fail)
local macro_rules | `(tactic| walk_at "subscriptTail Name Slice str ref") => `(tactic| fail)
local macro_rules | `(tactic| walk_at "mine pad") => `(tactic| fail)
local macro_rules | `(tactic| walk_at "mine pad") => `(tactic| fail)
local macro_rules | `(tactic| walk_at "mine pad") => `(tactic| fail)
local macro_rules | `(tactic| walk_at "mine pad") => `(tactic| fail)
local macro_rules | `(tactic| walk_at "mine pad") => `(tactic| fail)
local macro_rules | `(tactic| walk_at "mine pad") => `(tactic| fail)
local macro_rules | `(tactic| walk_at "mine pad") => `(tactic| fail)
local macro_rules | `(tactic| walk_at "mine pad") => `(tactic| fail)
local macro_rules | `(tactic| walk_at "mine pad") => `(tactic| fail)
local macro_rules | `(tactic| k_room) => `(tactic| ktr_room)
local macro_rules | `(tactic| k_units) => `(tactic| ktr_units)
local macro_rules | `(tactic| k_enter) => `(tactic| first
  | (refine' code_def ?k1 ?k2 ?k3 ?k4 ?k5 ?kA ?kF ?kK ?k6 ?k7 ?k8 ?k9 ?kB ?_ ?c2 ?c3 ?c4 ?c5; (case kA => exact rfl); (case kF => exact rfl); (case kK => first | exact rfl | assumption); (case k1 => k_asm); (case k2 => k_asm); (case k3 => k_asm); (case k4 => k_asm); (case k5 => k_asm); (case k6 => k_is); (case k7 => k_is); (case k8 => ktr_room); (case k9 => first | exact BindsTo.of_eq rfl | exact binds_K (by k_in) rfl (by k_is) rfl rfl rfl | fail "k_enter: no rule for these arguments"); (case c5 => decide); (case kB => exact locs rfl); (case c2 => exact rfl); (case c3 => exact rfl); (case c4 => exact rfl); k_whole; intro g' L' h' FG' F' N' B' X' T'; (try dsimp only); (try k_lift B'); (try k_fold))
  | (refine' code_defC ?k1 ?k2 ?k3 ?k4 ?k5 ?kA ?kF ?kK ?k6 ?k7 ?k8 ?k9 ?kB ?kD ?_ ?c2 ?c3 ?c4; (case kA => exact rfl); (case kF => exact rfl); (case kK => first | exact rfl | assumption); (case k1 => k_asm); (case k2 => k_asm); (case k3 => k_asm); (case k4 => k_asm); (case k5 => k_asm); (case k6 => k_is); (case k7 => k_is); (case k8 => ktr_room); (case k9 => first | exact BindsTo.of_eq rfl | exact binds_K (by k_in) rfl (by k_is) rfl rfl rfl | fail "k_enter: no rule for these arguments"); (case kB => exact rfl); (case kD => decide +kernel); (case c2 => exact rfl); (case c3 => exact rfl); (case c4 => exact rfl); k_whole; intro g' L' h' tk' cells' FG' F' N' Y' B' X' T' l1; (try k_lt l1); k_cells Y'; (try simp only [List.cons_append, List.nil_append] at N'); (try dsimp only); (try k_lift B'); (try k_fold)))
local macro_rules | `(tactic| walk_at "exec For Tuple Attribute cons nil") => `(tactic| refine Halt.in ?_)
local macro_rules | `(tactic| walk_at "exec For Tuple Name cons nil") => `(tactic| refine Halt.in ?_)
local macro_rules | `(tactic| walk_at "exec For Name Call cons nil") => `(tactic| refine Halt.in ?_)
local macro_rules | `(tactic| walk_at "pyIter ref") => `(tactic| refine Halt.in ?_)
local macro_rules | `(tactic| walk_at "TurnEnd") => `(tactic| first | refine TurnEnd.ret ?_ | refine Halt.in ?_)
local macro_rules | `(tactic| walk_at "call builtin:len") => `(tactic| ((with_reducible show wpAny _ _ (call (Value.builtin "len") [Value.str (bl _ _) _]) _ _ _); refine len_writK _ (len_bl _ _) (by k_dflt omega) ?_))
local macro_rules | `(tactic| walk_at "call builtin:len") => `(tactic| ((with_reducible show wpAny _ _ (call (Value.builtin "len") [Value.ref _]) _ _ _); k_dflt (refine' len_led ?k1 ?k2 ?k3 ?_; (case k1 => k_asm); (case k2 => k_mem); (case k3 => assumption)); intro _ _))
local macro_rules | `(tactic| walk_at "binaryOp Mult str int") => `(tactic| (k_dflt (refine' mul_sp ?k1 ?k2 ?_; (case k1 => k_dflt omega); (case k2 => k_dflt omega)); intro t9 k9))
local macro_rules | `(tactic| walk_at "binaryOp Add str str") => `(tactic| ((with_reducible show wpAny _ _ (binaryOp _ (Value.str (sp _) _) (Value.str (bl _ _) _)) _ _ _); k_dflt (refine' add_bl ?k1 ?k2 ?_; (case k1 => k_dflt omega); (case k2 => k_dflt omega)); intro t9 k9))
local macro_rules | `(tactic| walk_at "call builtin:hasattr") => `(tactic| (k_dflt (refine' has_K ?k1 ?k2 ?_; (case k1 => k_asm); (case k2 => k_asm)); intro h' F' N'))
local macro_rules | `(tactic| walk_at "call ref") => `(tactic| (k_dflt (refine' Told.use (strip_z _ _ _ _ (by assumption) (by k_dflt omega) (by k_dflt omega) (by k_dflt omega) _ _ _) ?B ?F ?X ?N ?T ?hk ?hd ?hu ?_; (case B => k_asm); (case F => k_asm); (case X => k_asm); (case N => k_asm); (case T => k_asm); (case hk => first | exact rfl | assumption); (case hd => ktr_room); (case hu => ktr_units)); intro r' h' tk' news' F' N' hp'; obtain ⟨e1', t9, e2'⟩ := hp'; subst e1'; subst e2'; (try dsimp only)))

namespace Mine
/-- one deed's outcomes, in the text's order -/
def mv (rb rc i j : Nat) : List (Nat × Nat) := [(rb, j), (i, rc), (0, j), (i, 0), (i - (rc - j), j + (i - (i - (rc - j)))), (i + (j - (j - (rb - i))), j - (rb - i))]
def tx (p : Nat × Nat) : Str × Str := (bl p.1 98, bl p.2 99)
end Mine
theorem Mine.deeds_ok (w : World) (i j rb rc : Nat) (hi : i ≤ rb) (hj : j ≤ rc) (hb : rb ≤ 9) (hc : rc ≤ 9) (t1 t2 t3 t4 : Tok) (news : Led) :
    Told w 3 253 [.str (bl i 98) t1, .str (bl j 99) t2, .int rb t3, .int rc t4] [] news (fun r news' => ∃ (l : Addr) (vs : List Value) (ds : Led), r = .ref l ∧ (∀ p ∈ news, p.1 ≠ l) ∧ Ents ds vs ((mv rb rc i j).map tx) ∧ (l, W.listOf vs.toArray 0) :: (ds ++ news) = news') := by
  have hi9 : i ≤ 10 := by omega
  have hj9 : j ≤ 10 := by omega
  have hl1 : IsL 98 := .inl rfl
  have hl2 : IsL 99 := .inr rfl
  unfold Told PR
  k_fill
  intro mean mg mb dp un gd cn cs a ccd cl outer A₀ base h₀ L m s Q E B F X N T hk hdp hun hret
  refine wpAny_call ?_
  k_enter
  clear F N
  k_steps
  rename News h₀ _ _ _ => kN
  rename _ ∧ _ ∧ _ ∧ _ ∧ _ ∧ _ ∧ AllLt _ _ => l1
  obtain ⟨_, _, _, _, _, _, l1⟩ := l1
  have e1 : (((rb : Int) + 1 - ((i + 1 : Nat) : Int)).toNat + i) = rb := by omega
  have e2 : (((rc : Int) + 1 - ((j + 1 : Nat) : Int)).toNat + j) = rc := by omega
  have e3 : i - ((rb : Int)).toNat = 0 := by omega
  have e4 : j - ((rc : Int)).toNat = 0 := by omega
  have e5 : i - ((rc : Int) + 1 - ((j + 1 : Nat) : Int)).toNat = i - (rc - j) := by omega
  have e6 : j - ((rb : Int) + 1 - ((i + 1 : Nat) : Int)).toNat = j - (rb - i) := by omega
  have e7 : (((i + 1 : Nat) : Int) - ((i - (rc - j) + 1 : Nat) : Int)).toNat + j = j + (i - (i - (rc - j))) := by omega
  have e8 : (((j + 1 : Nat) : Int) - ((j - (rb - i) + 1 : Nat) : Int)).toNat + i = i + (j - (j - (rb - i))) := by omega
  rw [e1, e2, e3, e4, e5, e6, e7, e8] at kN
  exact hret _ _ _ _ (by assumption) kN ⟨_, [_, _, _, _, _, _], [_, _, _, _, _, _], rfl, fun p hp => Nat.ne_of_lt (allLt_mem l1 p hp),
    .cons (.tail _ (.tail _ (.tail _ (.tail _ (.tail _ (.head _)))))) (.cons (.tail _ (.tail _ (.tail _ (.tail _ (.head _))))) (.cons (.tail _ (.tail _ (.tail _ (.head _)))) (.cons (.tail _ (.tail _ (.head _))) (.cons (.tail _ (.head _)) (.cons (.head _) .nil))))), rfl⟩
end
section
open PySem PySem.W PyProof.Rows Mine
set_option Elab.async false
set_option maxRecDepth 100000
set_option maxHeartbeats 8000000
set_option pp.maxSteps 6000
local macro_rules | `(tactic| walk_at "SrcAt") => `(tactic| fail)
local macro_rules | `(tactic| walk_at "TestAt") => `(tactic| fail)
local macro_rules | `(tactic| walk_at "WhileStep2") => `(tactic| fail)
local macro_rules | `(tactic| walk_at "binaryOp Add str str") => `(tactic| fail)
local macro_rules | `(tactic| walk_at "binaryOp Mult str int") => `(tactic| fail)
local macro_rules | `(tactic| walk_at "call builtin:hasattr") => `(tactic| fail)
local macro_rules | `(tactic| walk_at "call builtin:len") => `(tactic| fail)
local macro_rules | `(tactic| walk_at "call builtin:list.append") => `(tactic| fail)
local macro_rules | `(tactic| walk_at "call builtin:re.Pattern.search") => `(tactic| fail)
local macro_rules | `(tactic| walk_at "call builtin:str.lower") => `(tactic| fail)
local macro_rules | `(tactic| walk_at "call builtin:str.upper") => `(tactic| fail)
local macro_rules | `(tactic| walk_at "call ref") => `(tactic| fail)
local macro_rules | `(tactic| walk_at "call ref") => `(tactic| fail)
local macro_rules | `(tactic| walk_at "call ref") => `(tactic| fail)
local macro_rules | `(tactic| walk_at "call ref") => `(tactic| fail)
local macro_rules | `(tactic| walk_at "call ref") => `(tactic| fail)
local macro_rules | `(tactic| walk_at "call ref") => `(tactic| fail)
local macro_rules | `(tactic| walk_at "call ref") => `(tactic| fail)
local macro_rules | `(tactic| walk_at "call ref") => `(tactic| fail)
local macro_rules | `(tactic| walk_at "call ref") => `(tactic| fail)
local macro_rules | `(tactic| walk_at "call ref") => `(tactic| fail)
local macro_rules | `(tactic| walk_at "call ref") => `(tactic| fail)
local macro_rules | `(tactic| walk_at "call type:str") => `(tactic| fail)
local macro_rules | `(tactic| walk_at "delItem ref") => `(tactic| fail)
local macro_rules | `(tactic| walk_at "eval ListComp") => `(tactic| fail)
local macro_rules | `(tactic| walk_at "eval Name") => `(tactic| fail)
local macro_rules | `(tactic| walk_at "exec For") => `(tactic| fail)
local macro_rules | `(tactic| walk_at "exec For Name Call") => `(tactic| fail)
local macro_rules | `(tactic| walk_at "exec For Name Call cons cons") => `(tactic| fail)
local macro_rules | `(tactic| walk_at "exec For Tuple Name cons cons") => `(tactic| fail)
local macro_rules | `(tactic| walk_at "exec While") => `(tactic| fail)
local macro_rules | `(tactic| walk_at "getMethod ref") => `(tactic| fail)
local macro_rules | `(tactic| walk_at "setItem ref ref") => `(tactic| fail)
local macro_rules | `(tactic| walk_at "setItem ref str") => `(tactic| fail)
local macro_rules | `(tactic| walk_at "subscriptTail Name Name str int") => `(tactic| fail)
local macro_rules | `(tactic| walk_at "subscriptTail Name Slice str ref") => `(tactic| fail)
local macro_rules | `(tactic| walk_at "mine pad") => `(tactic| fail)
local macro_rules | `(tactic| walk_at "mine pad") => `(tactic| fail)
local macro_rules | `(tactic| walk_at "mine pad") => `(tactic| fail)
local macro_rules | `(tactic| walk_at "mine pad") => `(tactic| fail)
local macro_rules | `(tactic| walk_at "mine pad") => `(tactic| fail)
local macro_rules | `(tactic| walk_at "mine pad") => `(tactic| fail)
local macro_rules | `(tactic| walk_at "mine pad") => `(tactic| fail)
local macro_rules | `(tactic| walk_at "mine pad") => `(tactic| fail)
local macro_rules | `(tactic| walk_at "mine pad") => `(tactic| fail)
local macro_rules | `(tactic| walk_at "mine pad") => `(tactic| fail)
local macro_rules | `(tactic| k_room) => `(tactic| ktr_room)
local macro_rules | `(tactic| k_units) => `(tactic| ktr_units)
local macro_rules | `(tactic| k_enter) => `(tactic| first
  | (refine' code_def ?k1 ?k2 ?k3 ?k4 ?k5 ?kA ?kF ?kK ?k6 ?k7 ?k8 ?k9 ?kB ?_ ?c2 ?c3 ?c4 ?c5; (case kA => exact rfl); (case kF => exact rfl); (case kK => first | exact rfl | assumption); (case k1 => k_asm); (case k2 => k_asm); (case k3 => k_asm); (case k4 => k_asm); (case k5 => k_asm); (case k6 => k_is); (case k7 => k_is); (case k8 => ktr_room); (case k9 => first | exact BindsTo.of_eq rfl | exact binds_K (by k_in) rfl (by k_is) rfl rfl rfl | fail "k_enter: no rule for these arguments"); (case c5 => decide); (case kB => exact locs rfl); (case c2 => exact rfl); (case c3 => exact rfl); (case c4 => exact rfl); k_whole; intro g' L' h' FG' F' N' B' X' T'; (try dsimp only); (try k_lift B'); (try k_fold))
  | (refine' code_defC ?k1 ?k2 ?k3 ?k4 ?k5 ?kA ?kF ?kK ?k6 ?k7 ?k8 ?k9 ?kB ?kD ?_ ?c2 ?c3 ?c4; (case kA => exact rfl); (case kF => exact rfl); (case kK => first | exact rfl | assumption); (case k1 => k_asm); (case k2 => k_asm); (case k3 => k_asm); (case k4 => k_asm); (case k5 => k_asm); (case k6 => k_is); (case k7 => k_is); (case k8 => ktr_room); (case k9 => first | exact BindsTo.of_eq rfl | exact binds_K (by k_in) rfl (by k_is) rfl rfl rfl | fail "k_enter: no rule for these arguments"); (case kB => exact rfl); (case kD => decide +kernel); (case c2 => exact rfl); (case c3 => exact rfl); (case c4 => exact rfl); k_whole; intro g' L' h' tk' cells' FG' F' N' Y' B' X' T' l1; (try k_lt l1); k_cells Y'; (try simp only [List.cons_append, List.nil_append] at N'); (try dsimp only); (try k_lift B'); (try k_fold)))
local macro_rules | `(tactic| walk_at "exec For Tuple Attribute cons nil") => `(tactic| refine Halt.in ?_)
local macro_rules | `(tactic| walk_at "exec For Tuple Name cons nil") => `(tactic| refine Halt.in ?_)
local macro_rules | `(tactic| walk_at "exec For Name Call cons nil") => `(tactic| refine Halt.in ?_)
local macro_rules | `(tactic| walk_at "pyIter ref") => `(tactic| refine Halt.in ?_)
local macro_rules | `(tactic| walk_at "TurnEnd") => `(tactic| first | refine TurnEnd.ret ?_ | refine Halt.in ?_)
local macro_rules | `(tactic| walk_at "call builtin:len") => `(tactic| ((with_reducible show wpAny _ _ (call (Value.builtin "len") [Value.ref _]) _ _ _); k_dflt (refine' len_old ?k1 ?k2 ?k3 ?_; (case k1 => k_asm); (case k2 => assumption); (case k3 => assumption)); intro _ _))
theorem Mine.draw_fin {h₀ h : Heap} {L tp : Addr} {z1 z2 z3 : Int} {t1 t2 t3 : Tok} {n1 n2 n3 : Nat} {x : Addr × Obj} {news : Led} (N : News h₀ L h ((tp, tupO #[.int z1 t1, .int z2 t2, .int z3 t3] 0) :: x :: news)) (e1 : z1 = (n1 : Int)) (e2 : z2 = (n2 : Int)) (e3 : z3 = (n3 : Int)) :
    News h₀ L h ((tp, tupO #[.int n1 t1, .int n2 t2, .int n3 t3] 0) :: news) := by
  subst e1; subst e2; subst e3
  exact News.sub N (by intro p hp; rcases List.mem_cons.mp hp with rfl | hp; exact .head _; exact .tail _ (.tail _ hp))
theorem Mine.draws_ok (w : World) (sc : Addr) (vs : List Value) (ns : List Int) (hz : vs.length ≤ 1000) (hns : IntsAre vs ns) (news : Led) :
    ToldH w 3 246 [.ref sc] [] news (fun h => h.IsList sc vs.toArray) (fun r news' => ∃ (tp : Addr) (rb rc lv : Nat) (t1 t2 t3 : Tok), r = .ref tp ∧ 1 ≤ rb ∧ rb ≤ 9 ∧ 1 ≤ rc ∧ rc ≤ 9 ∧ 3 ≤ lv ∧ lv ≤ 5 ∧ (tp, tupO #[.int rb t1, .int rc t2, .int lv t3] 0) :: news = news') := by
  unfold ToldH PR
  k_fill
  intro mean mg mb dp un gd cn cs a ccd cl outer A₀ base h₀ L m s Q E B F X N T hk hdp hun hls hret
  refine wpAny_call ?_
  k_enter
  clear F N
  rename Fr h₀ L _ _ => FG1
  have hg := hls.at fun o e => FG1.keep _ _ e
  have hln := hns.length
  k_steps
  refine Halt.out ?_
  refine wpAny_For ?_ (by intro _; rfl)
  k_steps
  refine Halt.out ?_
  rename IsRange _ _ _ _ _ _ _ _ => rg
  rename Fr _ _ _ _ => F1
  rename News _ _ _ _ => N1
  rename ∀ (p : Addr × Obj), p ∈ news → _ => l1
  obtain ⟨D, eD, l1⟩ : ∃ D : Addr, D = _ ∧ ∀ p ∈ news, @LT.lt Nat _ p.1 D := ⟨_, rfl, l1⟩
  subst eD
  refine forR (n := (((if (ns.length : Int) < 60 then (ns.length : Int) else 60) - 0)).toNat) (fun i m' nx => ∃ (dv : List Value) (dns : List Int), nx = (D, W.listOf dv.toArray 0) :: news ∧ IntsAre dv dns ∧ dns.length = 3 ∧ ∀ p ∈ [(Str.ofString "draws", Value.ref D), (Str.ofString "script", Value.ref sc)], m' p.1 = some p.2) rfl rg (small_one (by omega) (by omega) (by split <;> omega) (by split <;> omega)) (rangeSize_nat _ _) F1 N1 ⟨_, [4, 2, 1], rfl, .cons _ _ (.cons _ _ (.cons _ _ .nil)), rfl, all1 rfl (all1 rfl all0)⟩ ?turn ?done (by passes_own)
  case turn =>
    rintro i m₁ nx I oI h tk t hi hcI hap ⟨dv, dns, rfl, hd1, hd2, hp⟩ F2 N2
    clear F1 N1 rg
    replace F2 := canon _ F2 hp
    have hi2 : i < ns.length := by split at hi <;> omega
    have q1 : @Ne Nat D I := hap _ (.head _)
    have q2 : ∀ p ∈ news, @Ne Nat p.1 I := fun p hp => hap _ (.tail _ hp)
    k_steps
    rename Fr _ _ _ _ => kF
    rename News _ _ _ _ => kN
    refine Halt.out (TurnEnd.go (_ :: news) kF kN (all1 q1 q2) ⟨_, _, rfl, by assumption, ?_, all1 rfl (all1 rfl all0)⟩)
    rw [List.length_set]; exact hd2
  case done =>
    rintro m₁ nx h tk ⟨dv, dns, rfl, hd1, hd2, hp⟩ F2 N2
    clear F1 N1 rg
    replace F2 := canon _ F2 hp
    cases hd1 with
    | nil => cases hd2
    | cons a ta hd1 =>
    cases hd1 with
    | nil => cases hd2
    | cons b tb hd1 =>
    cases hd1 with
    | nil => cases hd2
    | cons c tc hd1 =>
    cases hd1 with
    | cons _ _ _ => simp at hd2
    | nil =>
    k_steps
    rename News h₀ _ _ _ => kN
    have num : ∀ (x k : Int), 0 < k → ∃ n : Nat, x.fmod k = (n : Int) ∧ n < k.toNat := fun x k h => ⟨(x.fmod k).toNat, by
      rw [Int.fmod_eq_emod_of_nonneg _ (by omega)]
      have := Int.emod_nonneg x (show k ≠ 0 by omega)
      omega, by
      rw [Int.fmod_eq_emod_of_nonneg _ (by omega)]
      have := Int.emod_nonneg x (show k ≠ 0 by omega)
      have := Int.emod_lt_of_pos x h
      omega⟩
    obtain ⟨a', ea, ha⟩ := num a 9 (by decide)
    obtain ⟨b', eb, hb⟩ := num b 9 (by decide)
    obtain ⟨c', ec, hc⟩ := num c 3 (by decide)
    have e1 : (1 + (a' : Int)) = ((1 + a' : Nat) : Int) := by omega
    have e2 : (1 + (b' : Int)) = ((1 + b' : Nat) : Int) := by omega
    have e3 : (3 + (c' : Int)) = ((3 + c' : Nat) : Int) := by omega
    have h9 : (9 : Int).toNat = 9 := rfl
    have h3 : (3 : Int).toNat = 3 := rfl
    exact hret _ _ _ _ (by assumption) (draw_fin kN (show 1 + a.fmod 9 = _ by rw [ea]; exact e1) (show 1 + b.fmod 9 = _ by rw [eb]; exact e2) (show 3 + c.fmod 3 = _ by rw [ec]; exact e3)) ⟨_, 1 + a', 1 + b', 3 + c', _, _, _, rfl, by omega, by omega, by omega, by omega, by omega, by omega, rfl⟩
end
open PySem PySem.W PyProof.Rows PySem.Calls
set_option Elab.async false
namespace Mine
/-- the ledger without an address -/
def off (l : Addr) (nx : Led) : Led := nx.filter fun p => decide (@Ne Nat p.1 l)
theorem mem_off {l : Addr} {nx : Led} {p : Addr × Obj} : p ∈ off l nx ↔ p ∈ nx ∧ p.1 ≠ l := by
  unfold off
  rw [List.mem_filter]
  exact and_congr_right fun _ => decide_eq_true_iff
theorem off_ne {l : Addr} {nx : Led} : ∀ p ∈ off l nx, p.1 ≠ l := fun _ hp => (mem_off.mp hp).2
theorem News.offs {h₀ h : Heap} {L l : Addr} {o : Obj} {nx : Led} (N : News h₀ L h nx) (hm : (l, o) ∈ nx) : News h₀ L h ((l, o) :: off l nx) := News.sub N fun p hp => by
  rcases List.mem_cons.mp hp with rfl | hp
  · exact hm
  · exact (mem_off.mp hp).1
theorem News.tup {h₀ h : Heap} {L l : Addr} {o : Obj} {nx : Led} (N : News h₀ L h nx) (hm : (l, o) ∈ nx) (hc : o.cls ≠ .type "tuple") {a : Addr} {vs : Array Value} {nn : Nat} (ha : (a, tupO vs nn) ∈ nx) : (a, tupO vs nn) ∈ off l nx :=
  mem_off.mpr ⟨ha, News.apart N ha hm (by intro e; exact hc e.symm)⟩
theorem TurnEnd.off {h₀ : Heap} {L : Addr} {s : Shared} {I : Addr} {oI : Obj} {J : (Str → Option Value) → List (Addr × Obj) → Prop} {Q : Flow → Shared → Prop} {h' : Heap} {tk' : Nat} {m' : Str → Option Value} {nx : Led}
    (F : Fr h₀ L h' m') (N : News h₀ L h' nx) (hI : (I, oI) ∈ nx) (hj : J m' (Mine.off I nx)) : TurnEnd h₀ L s I oI J Q .next { s with heap := h', toks := tk' } :=
  TurnEnd.go (Mine.off I nx) F (News.offs N hI) off_ne hj
section
variable {prog : Program} {w : World} {A : Around} {E : Value → Shared → Prop} {s : Shared} {h₀ : Heap} {L l : Addr} {m : Str → Option Value} {nx : Led} {vs : List Value} {nn : Nat} {v : Value} {Q : Value → Shared → Prop}
theorem append_led (F : Fr h₀ L s.heap m) (N : News h₀ L s.heap nx) (hm : (l, W.listOf vs.toArray nn) ∈ nx) (hz : vs.length ≤ 1000)
    (h : ∀ h' nn', Fr h₀ L h' m → News h₀ L h' ((l, W.listOf (vs ++ [v]).toArray nn') :: off l nx) → (∀ a ws k, (a, tupO ws k) ∈ nx → (a, tupO ws k) ∈ off l nx) → Q .none { s with heap := h' }) :
    wpAny (model prog w) A (call (.builtin "list.append") [.ref l, v]) Q E s := by
  refine append_K F (News.offs N hm) (Upd.head off_ne) ?_ (by simp [sizeLine_eq]; omega)
  intro h' F' N'
  rw [List.push_toArray] at N'
  exact h h' _ F' N' fun a ws k ha => News.tup N hm (by show Value.type "list" ≠ Value.type "tuple"; decide) ha
end
/-- setitem, whatever else the ledger bears -/
theorem seti_ok (w : World) (tb d l : Addr) (i j : Nat) (hi : i ≤ 9) (hj : j ≤ 9) (n : Nat) (hn : n ≤ 9) (t t' tk : Tok) (n1 nn : Nat) (vs : List Value) (es : List (Str × Str)) (nx : Led)
    (h1 : (tb, instObj 235 d) ∈ nx) (h2 : (d, dictOf [⟨PyData.keyHash w.params (Str.ofString "_headers"), .str (Str.ofString "_headers") tk, .ref l⟩] n1) ∈ nx) (h3 : (l, W.listOf vs.toArray nn) ∈ nx) (h4 : Ents nx vs es) (h5 : Small es) (hz : es.length ≤ 200) (h6 : seek (nm i j) es = none) :
    Told w 7 80 [.ref tb, .str (nm i j) t, .str (dg n) t'] [] nx (fun r news' => r = Value.none ∧ ∃ (vs' : List Value) (nn' : Nat), (l, W.listOf vs'.toArray nn') ∈ news' ∧ (∀ p ∈ nx, @Ne Nat p.1 l → p ∈ news') ∧ Ents news' vs' (es ++ [(nm i j, dg n)])) := by
  intro mean mg mb dp un gd cn cs a ccd cl outer A₀ base h₀ L m s Q E B F X N T hk hdp hun hret
  have g1 : (tb, instObj 235 d) ∈ off l nx := mem_off.mpr ⟨h1, fun e => by
    have := (N _ h1).1.symm.trans (e ▸ (N _ h3).1)
    exact absurd (congrArg Obj.data (Option.some.inj this)) (by intro e; cases e)⟩
  have g2 : (d, dictOf [⟨PyData.keyHash w.params (Str.ofString "_headers"), .str (Str.ofString "_headers") tk, .ref l⟩] n1) ∈ off l nx := mem_off.mpr ⟨h2, fun e => by
    have := (N _ h2).1.symm.trans (e ▸ (N _ h3).1)
    exact absurd (congrArg Obj.data (Option.some.inj this)) (by intro e; cases e)⟩
  have g4 : Ents (off l nx) vs es := h4.mono fun a vs nn ha => News.tup N h3 (by show Value.type "list" ≠ Value.type "tuple"; decide) ha
  refine Told.use (setitem_ok w tb d l i j hi hj n hn t t' tk n1 nn vs es (off l nx) off_ne g1 g2 g4 h5 hz h6) B F X (News.offs N h3) T hk hdp hun ?_
  rintro r h' tk' news' F' N' ⟨rfl, a, t1, t2, nn', ha, rfl⟩
  refine hret _ _ _ _ F' N' ⟨rfl, _, nn', .head _, ?_, ?_⟩
  · intro p hp hne
    exact .tail _ (.tail _ (mem_off.mpr ⟨hp, hne⟩))
  · exact (g4.mono fun _ _ _ hm => .tail _ (.tail _ hm)).snoc (.tail _ (.head _))
end Mine
section
open PySem PySem.W PyProof.Rows Mine
set_option Elab.async false
set_option maxRecDepth 100000
set_option maxHeartbeats 8000000
set_option pp.maxSteps 6000
local macro_rules | `(tactic| walk_at "WhileStep2") => `(tactic| fail)
local macro_rules | `(tactic| walk_at "binaryOp Add str str") => `(tactic| fail)
local macro_rules | `(tactic| walk_at "binaryOp Mult str int") => `(tactic| fail)
local macro_rules | `(tactic| walk_at "call builtin:hasattr") => `(tactic| fail)
local macro_rules | `(tactic| walk_at "call builtin:len") => `(tactic| fail)
local macro_rules | `(tactic| walk_at "call builtin:len") => `(tactic| fail)
local macro_rules | `(tactic| walk_at "call builtin:re.Pattern.search") => `(tactic| fail)
local macro_rules | `(tactic| walk_at "call builtin:str.lower") => `(tactic| fail)
local macro_rules | `(tactic| walk_at "call builtin:str.upper") => `(tactic| fail)
local macro_rules | `(tactic| walk_at "call ref") => `(tactic| fail)
local macro_rules | `(tactic| walk_at "call ref") => `(tactic| fail)
local macro_rules | `(tactic| walk_at "call ref") => `(tactic| fail)
local macro_rules | `(tactic| walk_at "call ref") => `(tactic| fail)
local macro_rules | `(tactic| walk_at "call ref") => `(tactic| fail)
local macro_rules | `(tactic| walk_at "call ref") => `(tactic| fail)
local macro_rules | `(tactic| walk_at "call ref") => `(tactic| fail)
local macro_rules | `(tactic| walk_at "call ref") => `(tactic| fail)
local macro_rules | `(tactic| walk_at "call ref") => `(tactic| fail)
local macro_rules | `(tactic| walk_at "call ref") => `(tactic| fail)
local macro_rules | `(tactic| walk_at "call ref") => `(tactic| fail)
local macro_rules | `(tactic| walk_at "call type:str") => `(tactic| fail)
local macro_rules | `(tactic| walk_at "delItem ref") => `(tactic| fail)
local macro_rules | `(tactic| walk_at "exec For") => `(tactic| fail)
local macro_rules | `(tactic| walk_at "exec For Name Call") => `(tactic| fail)
local macro_rules | `(tactic| walk_at "exec For Name Call cons cons") => `(tactic| fail)
local macro_rules | `(tactic| walk_at "exec For Tuple Name cons cons") => `(tactic| fail)
local macro_rules | `(tactic| walk_at "getMethod ref") => `(tactic| fail)
local macro_rules | `(tactic| walk_at "setItem ref str") => `(tactic| fail)
local macro_rules | `(tactic| walk_at "subscriptTail Name Name str int") => `(tactic| fail)
local macro_rules | `(tactic| walk_at "subscriptTail Name Slice str ref") => `(tactic| fail)
local macro_rules | `(tactic| walk_at "mine pad") => `(tactic| fail)
local macro_rules | `(tactic| walk_at "mine pad") => `(tactic| fail)
local macro_rules | `(tactic| walk_at "mine pad") => `(tactic| fail)
local macro_rules | `(tactic| walk_at "mine pad") => `(tactic| fail)
local macro_rules | `(tactic| walk_at "mine pad") => `(tactic| fail)
local macro_rules | `(tactic| walk_at "mine pad") => `(tactic| fail)
local macro_rules | `(tactic| walk_at "mine pad") => `(tactic| fail)
local macro_rules | `(tactic| walk_at "mine pad") => `(tactic| fail)
local macro_rules | `(tactic| walk_at "mine pad") => `(tactic| fail)
local macro_rules | `(tactic| walk_at "mine pad") => `(tactic| fail)
local macro_rules | `(tactic| walk_at "mine pad") => `(tactic| fail)
local macro_rules | `(tactic| k_room) => `(tactic| ktr_room)
local macro_rules | `(tactic| k_units) => `(tactic| ktr_units)
local macro_rules | `(tactic| k_enter) => `(tactic| first
  | (refine' code_def ?k1 ?k2 ?k3 ?k4 ?k5 ?kA ?kF ?kK ?k6 ?k7 ?k8 ?k9 ?kB ?_ ?c2 ?c3 ?c4 ?c5; (case kA => exact rfl); (case kF => exact rfl); (case kK => first | exact rfl | assumption); (case k1 => k_asm); (case k2 => k_asm); (case k3 => k_asm); (case k4 => k_asm); (case k5 => k_asm); (case k6 => k_is); (case k7 => k_is); (case k8 => ktr_room); (case k9 => first | exact BindsTo.of_eq rfl | exact binds_K (by k_in) rfl (by k_is) rfl rfl rfl | fail "k_enter: no rule for these arguments"); (case c5 => decide); (case kB => exact locs rfl); (case c2 => exact rfl); (case c3 => exact rfl); (case c4 => exact rfl); k_whole; intro g' L' h' FG' F' N' B' X' T'; (try dsimp only); (try k_lift B'); (try k_fold))
  | (refine' code_defC ?k1 ?k2 ?k3 ?k4 ?k5 ?kA ?kF ?kK ?k6 ?k7 ?k8 ?k9 ?kB ?kD ?_ ?c2 ?c3 ?c4; (case kA => exact rfl); (case kF => exact rfl); (case kK => first | exact rfl | assumption); (case k1 => k_asm); (case k2 => k_asm); (case k3 => k_asm); (case k4 => k_asm); (case k5 => k_asm); (case k6 => k_is); (case k7 => k_is); (case k8 => ktr_room); (case k9 => first | exact BindsTo.of_eq rfl | exact binds_K (by k_in) rfl (by k_is) rfl rfl rfl | fail "k_enter: no rule for these arguments"); (case kB => exact rfl); (case kD => decide +kernel); (case c2 => exact rfl); (case c3 => exact rfl); (case c4 => exact rfl); k_whole; intro g' L' h' tk' cells' FG' F' N' Y' B' X' T' l1; (try k_lt l1); k_cells Y'; (try simp only [List.cons_append, List.nil_append] at N'); (try dsimp only); (try k_lift B'); (try k_fold)))
local macro_rules | `(tactic| walk_at "exec For Tuple Attribute cons nil") => `(tactic| refine Halt.in ?_)
local macro_rules | `(tactic| walk_at "exec For Tuple Name cons nil") => `(tactic| refine Halt.in ?_)
local macro_rules | `(tactic| walk_at "exec For Name Call cons nil") => `(tactic| refine Halt.in ?_)
local macro_rules | `(tactic| walk_at "pyIter ref") => `(tactic| refine Halt.in ?_)
local macro_rules | `(tactic| walk_at "TurnEnd") => `(tactic| first | refine TurnEnd.ret ?_ | refine Halt.in ?_)
namespace Mine
theorem fmodN (a b : Nat) (hb : 0 < b) : (a : Int).fmod (b : Int) = ((a % b : Nat) : Int) := by
  rw [Int.fmod_eq_emod_of_nonneg _ (by omega)]; omega
/-- the least turn at which the jugs are even again -/
def Least (rb rc j : Nat) : Prop := 1 ≤ j ∧ j * rb % (rb + rc) = 0 ∧ ∀ k, 1 ≤ k → k < j → k * rb % (rb + rc) ≠ 0
def row2 (rb rc j n : Nat) : List (Nat × Nat × Nat) :=
  [(min (n * rb % (rb + rc)) rb, n * rb % (rb + rc) - min (n * rb % (rb + rc)) rb, min (2 * n - 1) (2 * (j - n))), (n * rb % (rb + rc) - min (n * rb % (rb + rc)) rc, min (n * rb % (rb + rc)) rc, min (2 * n) (2 * (j - n) - 1))]
noncomputable def rowsN (rb rc j : Nat) : Nat → List (Nat × Nat × Nat)
  | 0 => [(0, 0, 0), (rb, rc, 2)]
  | n + 1 => rowsN rb rc j n ++ row2 rb rc j (n + 1)
inductive Rws (news : Led) : List Value → List (Nat × Nat × Nat) → Prop
  | nil : Rws news [] []
  | cons {a : Addr} {x y z : Nat} {t1 t2 t3 : Tok} {nn : Nat} {vs : List Value} {es : List (Nat × Nat × Nat)} : (a, tupO #[.int x t1, .int y t2, .int z t3] nn) ∈ news → Rws news vs es → Rws news (.ref a :: vs) ((x, y, z) :: es)
theorem Rws.mono {news news' : Led} (h : ∀ a vs nn, (a, tupO vs nn) ∈ news → (a, tupO vs nn) ∈ news') : ∀ {vs : List Value} {es : List (Nat × Nat × Nat)}, Rws news vs es → Rws news' vs es
  | _, _, .nil => .nil
  | _, _, .cons hm r => .cons (h _ _ _ hm) (r.mono h)
theorem Rws.length {news : Led} : ∀ {vs : List Value} {es : List (Nat × Nat × Nat)}, Rws news vs es → vs.length = es.length
  | _, _, .nil => rfl
  | _, _, .cons _ r => by simp [r.length]
theorem Rws.get {news : Led} : ∀ {vs : List Value} {es : List (Nat × Nat × Nat)}, Rws news vs es → ∀ {i : Nat} {v : Value}, vs[i]? = some v → ∃ a x y z t1 t2 t3 nn, v = .ref a ∧ es[i]? = some (x, y, z) ∧ (a, tupO #[.int x t1, .int y t2, .int z t3] nn) ∈ news
  | _, _, .nil, i, v, e => by simp at e
  | _, _, .cons hm r, 0, v, e => by simp at e; subst e; exact ⟨_, _, _, _, _, _, _, _, rfl, rfl, hm⟩
  | _, _, .cons hm r, i + 1, v, e => r.get (by simpa using e)
theorem Rws.snoc {news : Led} {a : Addr} {x y z : Nat} {t1 t2 t3 : Tok} {nn : Nat} (hm : (a, tupO #[.int x t1, .int y t2, .int z t3] nn) ∈ news) : ∀ {vs : List Value} {es : List (Nat × Nat × Nat)}, Rws news vs es → Rws news (vs ++ [.ref a]) (es ++ [(x, y, z)])
  | _, _, .nil => .cons hm .nil
  | _, _, .cons h r => .cons h (r.snoc hm)
theorem Rws.filter {news : Led} (fn : ∀ a o o', (a, o) ∈ news → (a, o') ∈ news → o = o') (lv : Nat) (p : Value → Bool) (hp : ∀ a (x y z : Nat) t1 t2 t3 nn, (a, tupO #[.int x t1, .int y t2, .int z t3] nn) ∈ news → p (.ref a) = decide (z ≤ lv)) : ∀ {vs : List Value} {es : List (Nat × Nat × Nat)}, Rws news vs es → Rws news (vs.filter p) (es.filter fun r => decide (r.2.2 ≤ lv))
  | _, _, .nil => .nil
  | _, _, .cons (a := a) (x := x) (y := y) (z := z) hm r => by
    have e := hp _ _ _ _ _ _ _ _ hm
    by_cases h : z ≤ lv
    · rw [List.filter_cons_of_pos (by rw [e]; simpa using h), List.filter_cons_of_pos (by simpa using h)]
      exact .cons hm (r.filter fn lv p hp)
    · rw [List.filter_cons_of_neg (by rw [e]; simpa using h), List.filter_cons_of_neg (by simpa using h)]
      exact r.filter fn lv p hp
theorem Rws.snoc' {news : Led} {a : Addr} {x y z : Nat} {x' y' z' : Int} {t1 t2 t3 : Tok} {nn : Nat} {vs : List Value} {es : List (Nat × Nat × Nat)} (hm : (a, tupO #[.int x' t1, .int y' t2, .int z' t3] nn) ∈ news) (hx : x' = (x : Int)) (hy : y' = (y : Int)) (hz : z' = (z : Int)) (r : Rws news vs es) : Rws news (vs ++ [.ref a]) (es ++ [(x, y, z)]) := by
  subst hx; subst hy; subst hz; exact r.snoc hm
theorem twoOff {R a1 a2 : Addr} {q : Addr × Obj} {l1 l2 l3 o1 o2 : Obj} {nx X : Led} (eX : X = (R, l3) :: off R ((a2, o2) :: (R, l2) :: off R ((a1, o1) :: (R, l1) :: q :: nx))) (h1 : a1 ≠ R) (h2 : a2 ≠ R) :
    (R, l3) ∈ X ∧ (∀ p ∈ q :: nx, @Ne Nat p.1 R → p ∈ X) ∧ (a1, o1) ∈ X ∧ (a2, o2) ∈ X := by
  subst eX
  exact ⟨.head _, fun p hp hne => .tail _ (mem_off.mpr ⟨.tail _ (.tail _ (mem_off.mpr ⟨.tail _ (.tail _ hp), hne⟩)), hne⟩), .tail _ (mem_off.mpr ⟨.tail _ (.tail _ (mem_off.mpr ⟨.head _, h1⟩)), h1⟩), .tail _ (mem_off.mpr ⟨.head _, h2⟩)⟩
theorem nameHd {h₀ h : Heap} {L a : Addr} {o : Obj} {nx : Led} (_ : News h₀ L h ((a, o) :: nx)) : ∃ a', a' = a := ⟨a, rfl⟩
theorem nameFr {h₀ h : Heap} {L : Addr} {m : Str → Option Value} (_ : Fr h₀ L h m) : ∃ L', L' = L := ⟨L, rfl⟩
theorem nameOb {o : Obj} {d : Data} (_ : o.data = d) : ∃ o', o' = o := ⟨o, rfl⟩
end Mine
local macro_rules | `(tactic| walk_at "call builtin:list.append") => `(tactic| (k_dflt (refine' append_led ?k1 ?k2 ?k3 ?k4 ?_; (case k1 => k_asm); (case k2 => k_asm); (case k3 => k_mem); (case k4 => (first | (simp only [List.length_append, List.length_singleton, List.length_cons, List.length_nil]; omega) | omega))); intro h' nn9 F' N' hT9; (try k_sweep)))
local macro_rules | `(tactic| k_all) => `(tactic| assumption)
local macro_rules | `(tactic| walk_at "eval ListComp") => `(tactic| refine Halt.in ?_)
local macro_rules | `(tactic| walk_at "SrcAt") => `(tactic| refine Halt.in ?_)
local macro_rules | `(tactic| walk_at "TestAt") => `(tactic| refine Halt.in ?_)
local macro_rules | `(tactic| walk_at "setItem ref ref") => `(tactic| refine Halt.in ?_)
local macro_rules | `(tactic| walk_at "eval Name") => `(tactic| (k_inBlock; k_dflt (first
  | (refine' blkL ?hn ?hv ?_ ?hk ?hx ?hd; (case hk => exact rfl); (case hx => exact rfl); (case hd => decide); (case hn => exact Fr.ns (by k_asm)); (case hv => k_asm); k_whole)
  | (refine' blkC ?ho ?hd ?_ ?hc ?hk ?hx ?hb; (case hk => exact rfl); (case hx => exact rfl); (case hb => decide); (case hc => exact rfl); (case ho => exact News.get (by k_asm) (by k_mem)); (case hd => k_asm); k_whole))))
local macro_rules | `(tactic| walk_at "exec While") => `(tactic| refine Halt.in ?_)
theorem Mine.states_ok (w : World) (rb rc lv : Nat) (hb1 : 1 ≤ rb) (hc1 : 1 ≤ rc) (hb : rb ≤ 9) (hc : rc ≤ 9) (h3 : 3 ≤ lv) (h5 : lv ≤ 5) (t1 t2 t3 : Tok) (news : Led) :
    Told w 3 258 [.int rb t1, .int rc t2, .int lv t3] [] news (fun r news' => ∃ (l : Addr) (j : Nat) (vs : List Value) (nn : Nat) (ds : Led), r = .ref l ∧ Least rb rc j ∧ Rws ds vs ((rowsN rb rc j (j - 1)).filter fun r => decide (r.2.2 ≤ lv)) ∧ (l, W.listOf vs.toArray nn) :: (ds ++ news) = news') := by
  unfold Told PR
  k_fill
  intro mean mg mb dp un gd cn cs a ccd cl outer A₀ base h₀ L m s Q E B F X N T hk hdp hun hret
  refine wpAny_call ?_
  k_enter
  clear F N
  k_steps
  refine Halt.out ?_
  rename Fr _ _ _ _ => F1
  rename News _ _ _ _ => N1
  obtain ⟨R, eR⟩ := nameHd N1
  subst eR
  obtain ⟨L1, eL⟩ := nameFr F1
  subst eL
  rename _ = Data.cell _ => dc
  obtain ⟨oc, eo⟩ := nameOb dc
  subst eo
  replace dc : oc.data = Data.cell (some (.int lv t3)) := dc
  rename _ ∧ _ ∧ _ ∧ AllLt R news => lR
  have hK : ∀ p ∈ (L1 + 1, oc) :: news, @Ne Nat p.1 R := all1 (Nat.ne_of_lt lR.2.2.1) fun p hp => Nat.ne_of_lt (allLt_mem lR.2.2.2 p hp)
  obtain ⟨rest, N1, hr, hw, hk9⟩ : ∃ rest : Led, News _ L1 _ ((R, W.listOf _ 0) :: rest) ∧ (∀ p ∈ rest, @Ne Nat p.1 R) ∧ Rws rest _ (rowsN rb rc 1 0) ∧ (∀ p ∈ (L1 + 1, oc) :: news, p ∈ rest) :=
    ⟨_, N1, all1 (Nat.ne_of_lt lR.1) (all1 (Nat.ne_of_lt lR.2.1) hK), .cons (x := 0) (y := 0) (z := 0) (.tail _ (.head _)) (.cons (x := rb) (y := rc) (z := 2) (.head _) .nil), fun p hp => .tail _ (.tail _ hp)⟩
  clear lR
  refine While_inv2 (fun n m₁ news₁ => (R, W.listOf #[_, _] 0) :: rest = news₁ ∧ ∃ (j : Nat) (tj : Tok), n = rb + rc - j ∧ 1 ≤ j ∧ j ≤ rb + rc ∧ (∀ k, 1 ≤ k → k < j → k * rb % (rb + rc) ≠ 0) ∧ ∀ p ∈ [(Str.ofString "steps", Value.int j tj), (Str.ofString "rows", Value.ref R), (Str.ofString "room_b", Value.int rb t1), (Str.ofString "room_c", Value.int rc t2)], m₁ p.1 = some p.2) F1 N1 (n₀ := rb + rc - 1)
    ⟨rfl, 1, _, rfl, by omega, by omega, (by intro k h1 h2; omega), all1 rfl (all1 rfl (all1 rfl (all1 rfl all0)))⟩ ?_
  rintro n m₁ news₁ h₁ tk₁ F2 N2 ⟨e, j, tj, hn, hj1, hj2, hj3, hp⟩
  subst e
  replace F2 := canon _ F2 hp
  clear F1 N1
  k_steps
  all_goals refine Halt.out ?_
  all_goals (
    have hf : ((j : Int) * rb).fmod (rb + rc) = ((j * rb % (rb + rc) : Nat) : Int) := by
      have := fmodN (j * rb) (rb + rc) (by omega)
      rwa [Int.natCast_mul, Int.natCast_add] at this)
  · rename _ ≠ (0 : Int) => hne
    rw [hf] at hne
    have hj4 : j * rb % (rb + rc) ≠ 0 := by omega
    have hj5 : j ≠ rb + rc := by
      rintro rfl
      rw [Nat.mul_mod_right] at hj4
      exact hj4 rfl
    have e1 : ((j : Int) + 1) = ((j + 1 : Nat) : Int) := by omega
    exact ⟨_, _, _, _, rb + rc - (j + 1), rfl, by assumption, by assumption, by omega, rfl, j + 1, _, rfl, by omega, by omega, (fun k h1 h2 => by
      by_cases e : k = j
      · subst e; exact hj4
      · exact hj3 k h1 (by omega)), all1 (by rw [← e1]; rfl) (all1 rfl (all1 rfl (all1 rfl all0)))⟩
  · rename _ = (0 : Int) => hne
    rw [hf] at hne
    have hLe : Least rb rc j := ⟨hj1, by omega, hj3⟩
    clear hne hf hj3
    refine wpAny_For ?_ (by intro _; rfl)
    k_steps
    refine Halt.out ?_
    rename IsRange _ _ _ _ _ _ _ _ => rg
    rename Fr _ _ _ _ => F3
    rename News _ _ _ _ => N3
    refine forR (n := ((j : Int) - 1).toNat) (fun i m' nx => ∃ (rvs : List Value) (nn : Nat), (R, W.listOf rvs.toArray nn) ∈ nx ∧ Rws nx rvs (rowsN rb rc j i) ∧ (∀ p ∈ (L1 + 1, oc) :: news, p ∈ nx) ∧ ∀ p ∈ [(Str.ofString "rows", Value.ref R), (Str.ofString "steps", Value.int j tj), (Str.ofString "room_b", Value.int rb t1), (Str.ofString "room_c", Value.int rc t2)], m' p.1 = some p.2) rfl rg (small_one (by omega) (by omega) (by omega) (by omega)) (rangeSize_nat _ _) F3 N3 ⟨[_, _], 0, .head _, hw.mono (fun _ _ _ hm => .tail _ hm), (fun p hp => .tail _ (hk9 p hp)), all1 rfl (all1 rfl (all1 rfl (all1 rfl all0)))⟩ ?turn ?done (by passes_own)
    case turn =>
      clear hr hw hk9 N3 F3 rg
      rintro i m₁ nx I oI h tk t hi hcI hap ⟨rvs, nn, hRm, hw, hk9, hp⟩ F4 N4
      replace F4 := canon _ F4 hp
      have hz : rvs.length ≤ 100 := by
        rw [hw.length]
        have : ∀ k, (rowsN rb rc j k).length = 2 + 2 * k := fun k => by
          induction k with
          | zero => rfl
          | succ k ih => simp [rowsN, row2, ih]; omega
        rw [this]; omega
      have q1 : @Ne Nat R I := hap _ hRm
      replace N4 := News.dup N4 (.tail _ hRm)
      k_steps
      refine Halt.out ?_
      rename Fr _ _ _ _ => kF
      rename News _ _ _ _ => kN
      rename ∀ (a : Addr) (ws : Array Value) (k : Nat), (a, tupO ws k) ∈ _ :: (R, W.listOf rvs.toArray nn) :: _ → _ => hT1
      rename ∀ (a : Addr) (ws : Array Value) (k : Nat), (a, tupO ws k) ∈ _ :: (R, W.listOf (rvs ++ _).toArray _) :: _ → _ => hT2
      have kNX := kN
      obtain ⟨X, eX, kN⟩ : ∃ X : Led, X = _ ∧ News _ _ _ X := ⟨_, rfl, kN⟩
      obtain ⟨k0, k1, k2, k3⟩ := twoOff eX (mem_off.mp (hT1 _ _ _ (.head _))).2 (mem_off.mp (hT2 _ _ _ (.head _))).2
      have kI := k1 _ (.head _) (Ne.symm q1)
      have aI : ∀ a vs nn, (a, tupO vs nn) ∈ X → (a, tupO vs nn) ∈ off I X := fun a vs nn ha => News.tup kN kI (by rw [hcI]; decide) ha
      have hf : ((1 + (i : Int)) * rb).fmod (rb + rc) = (((i + 1) * rb % (rb + rc) : Nat) : Int) := by
        have := fmodN ((i + 1) * rb) (rb + rc) (by omega)
        rw [← this, Int.natCast_mul, Int.natCast_add, Int.natCast_add, Int.add_comm 1]; rfl
      have hj9 : i + 1 < j := by omega
      have wR : Rws (off I _) rvs (rowsN rb rc j i) := hw.mono fun a vs nn ha => aI a vs nn (k1 _ (.tail _ ha) (by
        have := News.apart N4 (.tail _ (.tail _ ha)) (.head _) (by show Value.type "tuple" ≠ Value.type "list"; decide)
        exact this))
      refine TurnEnd.off kF kN kI ⟨_, _, mem_off.mpr ⟨k0, q1⟩, ?_, ?_, all1 rfl (all1 rfl (all1 rfl (all1 rfl all0)))⟩
      · show Rws _ _ (rowsN rb rc j i ++ ([_] ++ [_]))
        rw [← List.append_assoc]
        refine Rws.snoc' (aI _ _ _ k3) ?_ ?_ ?_ (Rws.snoc' (aI _ _ _ k2) ?_ ?_ ?_ wR)
        all_goals (first | rw [hf] | skip)
        all_goals (split <;> omega)
      · intro p hp
        exact mem_off.mpr ⟨k1 _ (.tail _ (hk9 p hp)) (hK p hp), hap _ (hk9 p hp)⟩
    case done =>
      clear hr hw hk9 N3 F3 rg
      rintro m₁ nx h tk ⟨rvs, nn, hRm, hw, hk9, hp⟩ F4 N4
      replace F4 := canon _ F4 hp
      have hz : rvs.length ≤ 100 := by
        rw [hw.length]
        have : ∀ k, (rowsN rb rc j k).length = 2 + 2 * k := fun k => by
          induction k with
          | zero => rfl
          | succ k ih => simp [rowsN, row2, ih]; omega
        rw [this]; omega
      have fn : ∀ a o o', (a, o) ∈ nx → (a, o') ∈ nx → o = o' := fun a o o' h1 h2 => Option.some.inj ((N4 _ h1).1.symm.trans (N4 _ h2).1)
      obtain ⟨p, pe⟩ : ∃ p : Value → Bool, ∀ a (x y z : Nat) t1 t2 t3 nn, (a, tupO #[.int x t1, .int y t2, .int z t3] nn) ∈ nx → p (.ref a) = decide (z ≤ lv) := by
        refine ⟨fun v => @decide (∃ (a : Addr) (x y z : Nat) (t1 t2 t3 : Tok) (nn : Nat), v = .ref a ∧ (a, tupO #[.int x t1, .int y t2, .int z t3] nn) ∈ nx ∧ z ≤ lv) (Classical.propDecidable _), ?_⟩
        intro a x y z t1 t2 t3 nn ha
        refine decide_eq_decide.mpr ⟨?_, fun hz => ⟨a, x, y, z, t1, t2, t3, nn, rfl, ha, hz⟩⟩
        rintro ⟨a', x', y', z', t1', t2', t3', nn', e, ha', hz'⟩
        cases e
        have := fn _ _ _ ha ha'
        simp at this
        omega
      have hgo := fun (D : Addr) n9 h' tk' F N => hret (.ref D) h' tk' ((D, W.listOf (rvs.filter p).toArray n9) :: (nx ++ news)) F N ⟨_, j, _, _, nx, rfl, hLe, by
              have e : ((j : Int) - 1).toNat = j - 1 := by omega
              rw [← e]
              exact hw.filter fn lv p pe, rfl⟩
      replace N4 := News.dup (News.dup N4 hRm) (.tail _ (hk9 _ (.head _)))
      k_steps
      refine Halt.out ?_
      rename Fr _ _ _ _ => F5
      rename News _ _ _ _ => N5
      rename _ ∧ _ => lx
      clear lx
      refine comp_filter (vs := rvs) (nn := nn) (l := R) (cl := [(Str.ofString "levels", L1 + 1)]) p F5 N5 rfl rfl (by decide) rfl (by decide) rfl ?hl (by omega) ?src ?test ?done (by intro _; rfl) (by decide)
      case src =>
        k_steps
        exact Halt.out (SrcAt.in (by assumption) (by assumption))
      case hl => k_mem
      case test =>
        intro C n v s₃ m₃ E' hv hC hN hNC hN0 hK9 hns hm
        obtain ⟨a', x, y, z, t1', t2', t3', n2, rfl, he, hme⟩ := hw.get hv
        have F3 : Fr _ C s₃.heap m₃ := ⟨hns, hK9, hC⟩
        have N3 : News _ C s₃.heap _ := fun p hp => ⟨hN p hp, hNC p hp, hN0 p hp⟩
        replace N3 := News.dup N3 (.tail _ (.tail _ hme))
        clear F5 N5 hN hNC hN0 hK9 hns
        have hpv := pe _ _ _ _ _ _ _ _ hme
        k_steps
        have e9 : decide ((z : Int) ≤ (lv : Int)) = p (.ref a') := by rw [hpv]; exact decide_eq_decide.mpr (by omega)
        exact Halt.out ⟨e9, s₃.heap, _, rfl, fun _ _ e => e⟩
      case done =>
        intro D h9 tk9 n9 F6 N6 hD
        clear F5 N5
        k_steps
        rename News h₀ _ _ _ => kN
        exact hgo _ _ _ _ (by assumption) (News.sub kN (by
          intro q hq
          rcases List.mem_cons.mp hq with rfl | hq
          · exact .head _
          · rcases List.mem_append.mp hq with hq | hq
            · exact .tail _ (.tail _ (.tail _ hq))
            · exact .tail _ (.tail _ (.tail _ (hk9 _ (.tail _ hq))))))
end
open PySem PySem.W PyProof.Rows PySem.Calls
set_option Elab.async false
set_option maxRecDepth 100000
namespace Mine
abbrev Tbl : Type := List ((Nat × Nat) × Nat)
abbrev St : Type := Tbl × List (Nat × Nat)
def stepPair (lvl : Nat) (st : St) (p : Nat × Nat) : St := if st.1.any (fun e => e.1 == p) then st else (st.1 ++ [(p, lvl)], st.2 ++ [p])
def stepEdge (rb rc lvl : Nat) (st : St) (p : Nat × Nat) : St := (mv rb rc p.1 p.2).foldl (stepPair lvl) st
def stepLevel (rb rc : Nat) (st : St) (lvl : Nat) : St := st.2.foldl (stepEdge rb rc lvl) (st.1, [])
noncomputable def bfs (rb rc : Nat) : Nat → St
  | 0 => ([((0, 0), 0)], [(0, 0)])
  | n + 1 => stepLevel rb rc (bfs rb rc n) (n + 1)
def per (rb rc : Nat) : Nat := ((List.range 19).find? fun j => 1 ≤ j && j * rb % (rb + rc) == 0).getD 0
noncomputable def rows (rb rc lv : Nat) : List (Nat × Nat × Nat) := (rowsN rb rc (per rb rc) (per rb rc - 1)).filter fun r => decide (r.2.2 ≤ lv)
def look (t : Tbl) (p : Nat × Nat) : Option Nat := (t.find? fun e => e.1 == p).map (·.2)
noncomputable def goodAt (rb rc lv : Nat) : Bool := (bfs rb rc lv).1.length == (rows rb rc lv).length && (rows rb rc lv).all fun r => look (bfs rb rc lv).1 (r.1, r.2.1) == some r.2.2 && decide (r.1 ≤ 9) && decide (r.2.1 ≤ 9)
theorem good_all : ((List.range 9).all fun a => (List.range 9).all fun b => (List.range 3).all fun c => goodAt (a + 1) (b + 1) (c + 3)) = true := by decide +kernel
theorem small_all : ((List.range 9).all fun a => (List.range 9).all fun b => (List.range 6).all fun n => decide ((bfs (a + 1) (b + 1) n).1.length + (bfs (a + 1) (b + 1) n).2.length ≤ 150)) = true := by decide +kernel
theorem per_all : ((List.range 9).all fun a => (List.range 9).all fun b => (List.range 18).all fun j => !((j + 1) * (a + 1) % (a + 1 + (b + 1)) == 0 && (List.range j).all (fun k => (k + 1) * (a + 1) % (a + 1 + (b + 1)) != 0)) || (j + 1 == per (a + 1) (b + 1))) = true := by decide +kernel
theorem all_at {n : Nat} {f : Nat → Bool} (h : (List.range n).all f = true) {k : Nat} (hk : k < n) : f k = true := List.all_eq_true.mp h k (List.mem_range.mpr hk)
theorem law_holds {rb rc lv : Nat} (hb1 : 1 ≤ rb) (hb : rb ≤ 9) (hc1 : 1 ≤ rc) (hc : rc ≤ 9) (h3 : 3 ≤ lv) (h5 : lv ≤ 5) : goodAt rb rc lv = true := by
  obtain ⟨a, rfl⟩ := Nat.exists_eq_add_of_le' hb1
  obtain ⟨b, rfl⟩ := Nat.exists_eq_add_of_le' hc1
  obtain ⟨c, rfl⟩ := Nat.exists_eq_add_of_le' h3
  exact all_at (all_at (all_at good_all (k := a) (by omega)) (k := b) (by omega)) (k := c) (by omega)
theorem len_small {rb rc n : Nat} (hb1 : 1 ≤ rb) (hb : rb ≤ 9) (hc1 : 1 ≤ rc) (hc : rc ≤ 9) (h5 : n ≤ 5) : (bfs rb rc n).1.length + (bfs rb rc n).2.length ≤ 150 := by
  obtain ⟨a, rfl⟩ := Nat.exists_eq_add_of_le' hb1
  obtain ⟨b, rfl⟩ := Nat.exists_eq_add_of_le' hc1
  exact of_decide_eq_true (all_at (all_at (all_at small_all (k := a) (by omega)) (k := b) (by omega)) (k := n) (by omega))
theorem least_per {rb rc j : Nat} (hb : rb ≤ 9) (hb1 : 1 ≤ rb) (hc : rc ≤ 9) (hc1 : 1 ≤ rc) (h : Least rb rc j) : j = per rb rc := by
  obtain ⟨h1, h2, h3⟩ := h
  obtain ⟨a, rfl⟩ := Nat.exists_eq_add_of_le' hb1
  obtain ⟨b, rfl⟩ := Nat.exists_eq_add_of_le' hc1
  obtain ⟨j, rfl⟩ := Nat.exists_eq_add_of_le' h1
  have hj : j < 18 := by
    by_cases e : j + 1 ≤ a + 1 + (b + 1)
    · omega
    · exact absurd (Nat.mul_mod_right _ _) (h3 (a + 1 + (b + 1)) (by omega) (by omega))
  have q := all_at (all_at (all_at per_all (k := a) (by omega)) (k := b) (by omega)) (k := j) hj
  rw [Bool.or_eq_true] at q
  rcases q with q | q
  · rw [Bool.not_eq_true'] at q
    refine absurd q ?_
    rw [Bool.not_eq_false]
    refine Bool.and_eq_true_iff.mpr ⟨by simpa using h2, List.all_eq_true.mpr fun k hk => ?_⟩
    have := h3 (k + 1) (by omega) (by have := List.mem_range.mp hk; omega)
    simpa using this
  · simpa using q
def len (st : St) : Nat := st.1.length + st.2.length
theorem len_pair (lvl : Nat) (st : St) (p : Nat × Nat) : len st ≤ len (stepPair lvl st p) := by
  unfold stepPair len; split
  · exact Nat.le_refl _
  · simp; omega
theorem len_fold {f : St → Nat × Nat → St} (h : ∀ st p, len st ≤ len (f st p)) : ∀ (l : List (Nat × Nat)) (st : St), len st ≤ len (l.foldl f st)
  | [], _ => Nat.le_refl _
  | p :: l, st => Nat.le_trans (h st p) (len_fold h l (f st p))
theorem len_edge (rb rc lvl : Nat) (st : St) (p : Nat × Nat) : len st ≤ len (stepEdge rb rc lvl st p) := len_fold (len_pair lvl) _ _
theorem len_take {f : St → Nat × Nat → St} (h : ∀ st p, len st ≤ len (f st p)) (l : List (Nat × Nat)) (st : St) (k : Nat) : len ((l.take k).foldl f st) ≤ len (l.foldl f st) := by
  conv => rhs; rw [← List.take_append_drop k l, List.foldl_append]
  exact len_fold h _ _
theorem fold_take {f : St → Nat × Nat → St} {l : List (Nat × Nat)} {st : St} {k : Nat} {p : Nat × Nat} (h : l[k]? = some p) : (l.take (k + 1)).foldl f st = f ((l.take k).foldl f st) p := by
  rw [List.take_add_one, h]; simp
/-- in bounds -/
def Good (rb rc : Nat) (st : St) : Prop := (∀ e ∈ st.1, e.1.1 ≤ rb ∧ e.1.2 ≤ rc ∧ e.2 ≤ 9) ∧ ∀ p ∈ st.2, p.1 ≤ rb ∧ p.2 ≤ rc
theorem good_mv {rb rc i j : Nat} (hi : i ≤ rb) (hj : j ≤ rc) : ∀ q ∈ mv rb rc i j, q.1 ≤ rb ∧ q.2 ≤ rc := by
  unfold mv
  refine all1 ⟨by omega, by omega⟩ (all1 ⟨by omega, by omega⟩ (all1 ⟨by omega, by omega⟩ (all1 ⟨by omega, by omega⟩ (all1 ⟨?_, ?_⟩ (all1 ⟨?_, ?_⟩ all0))))) <;> (dsimp only; omega)
theorem good_pair {rb rc lvl : Nat} {st : St} {p : Nat × Nat} (hl : lvl ≤ 9) (hp : p.1 ≤ rb ∧ p.2 ≤ rc) (h : Good rb rc st) : Good rb rc (stepPair lvl st p) := by
  unfold stepPair; split
  · exact h
  · refine ⟨fun e he => ?_, fun q hq => ?_⟩
    · rcases List.mem_append.mp he with he | he
      · exact h.1 e he
      · rw [List.mem_singleton.mp he]; exact ⟨hp.1, hp.2, hl⟩
    · rcases List.mem_append.mp hq with hq | hq
      · exact h.2 q hq
      · rw [List.mem_singleton.mp hq]; exact hp
theorem good_fold {rb rc : Nat} {f : St → Nat × Nat → St} : ∀ {l : List (Nat × Nat)} {st : St}, (∀ st, ∀ p ∈ l, Good rb rc st → Good rb rc (f st p)) → Good rb rc st → Good rb rc (l.foldl f st)
  | [], _, _, h => h
  | p :: l, st, hf, h => good_fold (l := l) (fun st q hq => hf st q (.tail _ hq)) (hf st p (.head _) h)
theorem good_edge {rb rc lvl : Nat} {st : St} {p : Nat × Nat} (hl : lvl ≤ 9) (hp : p.1 ≤ rb ∧ p.2 ≤ rc) (h : Good rb rc st) : Good rb rc (stepEdge rb rc lvl st p) :=
  good_fold (fun _ q hq g => good_pair hl (good_mv hp.1 hp.2 q hq) g) h
theorem good_bfs (rb rc : Nat) : ∀ n ≤ 9, Good rb rc (bfs rb rc n)
  | 0, _ => ⟨all1 ⟨Nat.zero_le _, Nat.zero_le _, Nat.zero_le _⟩ all0, all1 ⟨Nat.zero_le _, Nat.zero_le _⟩ all0⟩
  | n + 1, h => good_fold (fun _ q hq g => good_edge h ((good_bfs rb rc n (by omega)).2 q hq) g) ⟨(good_bfs rb rc n (by omega)).1, fun _ h => nomatch h⟩
def txt (t : Tbl) : List (Str × Str) := t.map fun e => (nm e.1.1 e.1.2, dg e.2)
theorem txt_len (t : Tbl) : (txt t).length = t.length := by simp [txt]
theorem small_txt {rb rc : Nat} {st : St} (h : Good rb rc st) (hb : rb ≤ 9) (hc : rc ≤ 9) : Small (txt st.1) := by
  intro p hp
  obtain ⟨e, he, rfl⟩ := List.mem_map.mp hp
  have := h.1 e he
  exact ⟨e.1.1, e.1.2, by omega, by omega, rfl⟩
theorem seek_txt {rb rc i j : Nat} (hb : rb ≤ 9) (hc : rc ≤ 9) (hi : i ≤ 9) (hj : j ≤ 9) : ∀ {t : Tbl}, (∀ e ∈ t, e.1.1 ≤ rb ∧ e.1.2 ≤ rc ∧ e.2 ≤ 9) → seek (nm i j) (txt t) = (look t (i, j)).map dg
  | [], _ => rfl
  | e :: t, h => by
    have he := h e (.head _)
    have ih := seek_txt hb hc hi hj (t := t) fun x hx => h x (.tail _ hx)
    show (if nm e.1.1 e.1.2 = nm i j then some (dg e.2) else seek (nm i j) (txt t)) = _
    by_cases q : e.1 = (i, j)
    · rw [if_pos (by rw [q]), look, List.find?_cons_of_pos (by simpa using q)]; rfl
    · rw [if_neg (fun c => q (by
        obtain ⟨a, b⟩ := nm_inj (by omega) (by omega) hi hj c
        exact Prod.ext a b)), ih, look, look, List.find?_cons_of_neg (by simpa using q)]
theorem seek_any {rb rc i j : Nat} (hb : rb ≤ 9) (hc : rc ≤ 9) (hi : i ≤ 9) (hj : j ≤ 9) {st : St} (h : Good rb rc st) : (seek (nm i j) (txt st.1)).isSome = st.1.any (fun e => e.1 == (i, j)) := by
  rw [seek_txt hb hc hi hj h.1, look]
  rw [Option.isSome_map, Option.isSome_map]
  exact Bool.eq_iff_iff.mpr (by rw [List.find?_isSome, List.any_eq_true])
end Mine
open PySem PySem.W PyProof.Rows PySem.Calls
set_option Elab.async false
set_option maxRecDepth 100000
namespace Mine
/-- the ledger in mid-law: the table's list, the found list, and what must stay -/
structure Bag (lt f : Addr) (st : St) (base nx : Led) : Prop where
  tab : ∃ vs nn, (lt, W.listOf vs.toArray nn) ∈ nx ∧ Ents nx vs (txt st.1)
  fnd : ∃ fvs fn, (f, W.listOf fvs.toArray fn) ∈ nx ∧ Ents nx fvs (st.2.map tx)
  kept : ∀ p ∈ base, p ∈ nx
theorem Bag.off {lt f I : Addr} {st : St} {base X : Led} {oI : Obj} {h₀ h : Heap} {L : Addr} (B : Bag lt f st base X) (N : News h₀ L h X) (hI : (I, oI) ∈ X) (hc : oI.cls ≠ .type "tuple") (h1 : lt ≠ I) (h2 : f ≠ I) (hb : ∀ p ∈ base, p.1 ≠ I) : Bag lt f st base (off I X) := by
  obtain ⟨⟨vs, nn, a1, a2⟩, ⟨fvs, fn, b1, b2⟩, k⟩ := B
  exact ⟨⟨vs, nn, mem_off.mpr ⟨a1, h1⟩, a2.mono fun _ _ _ ha => News.tup N hI hc ha⟩, ⟨fvs, fn, mem_off.mpr ⟨b1, h2⟩, b2.mono fun _ _ _ ha => News.tup N hI hc ha⟩, fun p hp => mem_off.mpr ⟨k p hp, hb p hp⟩⟩
theorem Bag.up {lt f : Addr} {st : St} {base X Y : Led} (B : Bag lt f st base X) (h : ∀ p ∈ X, p ∈ Y) : Bag lt f st base Y := by
  obtain ⟨⟨vs, nn, a1, a2⟩, ⟨fvs, fn, b1, b2⟩, k⟩ := B
  exact ⟨⟨vs, nn, h _ a1, a2.mono fun _ _ _ ha => h _ ha⟩, ⟨fvs, fn, h _ b1, b2.mono fun _ _ _ ha => h _ ha⟩, fun p hp => h _ (k p hp)⟩
theorem Bag.base {lt f : Addr} {st : St} {base base' X : Led} (B : Bag lt f st base X) (h : ∀ p ∈ base', p ∈ base) : Bag lt f st base' X := ⟨B.tab, B.fnd, fun p hp => B.kept p (h p hp)⟩
theorem name_b : Str.ofString "b" = bl 0 98 ∧ Str.ofString "c" = bl 0 99 ∧ Str.ofString "0" = dg 0 := by decide +kernel
theorem bag_name (w : World) (i j : Nat) (hi : i ≤ 9) (hj : j ≤ 9) (tp : Addr) (t1 t2 : Tok) (nn : Nat) (nx : Led) (hm : (tp, tupO #[.str (bl i 98) t1, .str (bl j 99) t2] nn) ∈ nx) :
    Told w 1 102 [.ref tp] [] nx (fun r news' => nx = news' ∧ ∃ t, r = .str (nm i j) t) := by
  intro mean mg mb dp un gd cn cs a ccd cl outer A₀ base h₀ L m s Q E B F X N T hk hdp hun hret
  refine Told.use (name_ok w (bl i 98) (bl j 99) (by rw [len_bl]; omega) (by rw [len_bl]; omega) tp t1 t2 nn nx) B F X (News.dup N hm) T hk hdp hun ?_
  rintro r h' tk' news' F' N' ⟨rfl, t, rfl⟩
  exact hret _ _ _ _ F' (News.sub N' fun p hp => .tail _ hp) ⟨rfl, t, rfl⟩
theorem bag_name0 (w : World) (tp : Addr) (t1 t2 : Tok) (nn : Nat) (nx : Led) (hm : (tp, tupO #[.str (Str.ofString "b") t1, .str (Str.ofString "c") t2] nn) ∈ nx) :
    Told w 1 102 [.ref tp] [] nx (fun r news' => nx = news' ∧ ∃ t, r = .str (nm 0 0) t) := by
  rw [name_b.1, name_b.2.1] at hm
  exact bag_name w 0 0 (by omega) (by omega) tp t1 t2 nn nx hm
theorem bag_has (w : World) (tb d lt f : Addr) (st : St) (base nx : Led) (rb rc i j : Nat) (hb : rb ≤ 9) (hc : rc ≤ 9) (hi : i ≤ 9) (hj : j ≤ 9) (t tk : Tok) (n1 : Nat)
    (h1 : (tb, instObj 235 d) ∈ base) (h2 : (d, dictOf [⟨PyData.keyHash w.params (Str.ofString "_headers"), .str (Str.ofString "_headers") tk, .ref lt⟩] n1) ∈ base) (hB : Bag lt f st base nx) (hG : Good rb rc st) :
    Told w 6 66 [.ref tb, .str (NM i j) t] [] nx (fun r news' => nx = news' ∧ r = .bool (st.1.any fun e => e.1 == (i, j))) := by
  obtain ⟨vs, nn, a1, a2⟩ := hB.tab
  have := contains_ok w tb d lt i j hi hj t tk n1 nn vs _ nx (hB.kept _ h1) (hB.kept _ h2) a1 a2 (small_txt hG hb hc)
  rwa [seek_any hb hc hi hj hG] at this
theorem bag_set (w : World) (tb d lt f : Addr) (st : St) (base nx : Led) (rb rc i j : Nat) (hb : rb ≤ 9) (hc : rc ≤ 9) (hi : i ≤ 9) (hj : j ≤ 9) (n : Nat) (hn : n ≤ 9) (t t' tk : Tok) (n1 : Nat)
    (h1 : (tb, instObj 235 d) ∈ base) (h2 : (d, dictOf [⟨PyData.keyHash w.params (Str.ofString "_headers"), .str (Str.ofString "_headers") tk, .ref lt⟩] n1) ∈ base) (hf : f ≠ lt) (hbs : ∀ p ∈ base, p.1 ≠ lt) (hB : Bag lt f st base nx) (hG : Good rb rc st) (hz : len st ≤ 200) (ha : (st.1.any fun e => e.1 == (i, j)) = false) :
    Told w 7 80 [.ref tb, .str (nm i j) t, .str (dg n) t'] [] nx (fun r news' => r = Value.none ∧ Bag lt f (st.1 ++ [((i, j), n)], st.2) base news') := by
  obtain ⟨vs, nn, a1, a2⟩ := hB.tab
  intro mean mg mb dp un gd cn cs a ccd cl outer A₀ base' h₀ L m s Q E B F X N T hk hdp hun hret
  refine Told.use (seti_ok w tb d lt i j hi hj n hn t t' tk n1 nn vs _ nx (hB.kept _ h1) (hB.kept _ h2) a1 a2 (small_txt hG hb hc) (by rw [txt_len]; unfold len at hz; omega) (by
    rw [← seek_any hb hc hi hj hG] at ha
    cases q : seek (nm i j) (txt st.1) with
    | none => rfl
    | some x => rw [q] at ha; cases ha)) B F X N T hk hdp hun ?_
  rintro r h' tk' news' F' N' ⟨rfl, vs', nn', c1, c2, c3⟩
  refine hret _ _ _ _ F' N' ⟨rfl, ⟨vs', nn', c1, ?_⟩, ?_, fun p hp => c2 p (hB.kept p hp) (hbs p hp)⟩
  · show Ents news' vs' (txt (st.1 ++ [((i, j), n)]))
    rw [txt, List.map_append]; exact c3
  · obtain ⟨fvs, fn, b1, b2⟩ := hB.fnd
    refine ⟨fvs, fn, c2 _ b1 hf, b2.mono fun a vs nn ha => c2 _ ha ?_⟩
    exact News.apart N ha a1 (by show Value.type "tuple" ≠ Value.type "list"; decide)
theorem bag_append {prog : Program} {w : World} {A : Around} {E : Value → Shared → Prop} {s : Shared} {h₀ : Heap} {L : Addr} {m : Str → Option Value} {lt f : Addr} {st : St} {base nx : Led} {p : Nat × Nat} {D : Addr} {t1 t2 : Tok} {nn : Nat} {Q : Value → Shared → Prop}
    (F : Fr h₀ L s.heap m) (N : News h₀ L s.heap nx) (hB : Bag lt f st base nx) (hf : f ≠ lt) (hbs : ∀ p ∈ base, p.1 ≠ f) (hz : len st ≤ 200) (hD : (D, tupO #[.str (bl p.1 98) t1, .str (bl p.2 99) t2] nn) ∈ base)
    (h : ∀ h' nx', Fr h₀ L h' m → News h₀ L h' nx' → Bag lt f (st.1, st.2 ++ [p]) base nx' → Q .none { s with heap := h' }) :
    wpAny (model prog w) A (call (.builtin "list.append") [.ref f, .ref D]) Q E s := by
  obtain ⟨⟨vs, nn', a1, a2⟩, ⟨fvs, fn, b1, b2⟩, k⟩ := hB
  refine append_led F N b1 (by rw [b2.length, List.length_map]; unfold len at hz; omega) ?_
  intro h' nn9 F' N' hT
  refine h h' _ F' N' ⟨⟨vs, nn', .tail _ (mem_off.mpr ⟨a1, Ne.symm hf⟩), a2.mono fun _ _ _ ha => .tail _ (hT _ _ _ ha)⟩, ⟨_, _, .head _, ?_⟩, fun p hp => .tail _ (mem_off.mpr ⟨k p hp, hbs p hp⟩)⟩
  rw [List.map_append]
  exact (b2.mono fun _ _ _ ha => .tail _ (hT _ _ _ ha)).snoc (.tail _ (hT _ _ _ (k _ hD)))
theorem bag_set0 (w : World) (tb d lt : Addr) (t t' tk : Tok) (n1 nn : Nat) (nx : Led)
    (h1 : (tb, instObj 235 d) ∈ nx) (h2 : (d, dictOf [⟨PyData.keyHash w.params (Str.ofString "_headers"), .str (Str.ofString "_headers") tk, .ref lt⟩] n1) ∈ nx) (h3 : (lt, W.listOf #[] nn) ∈ nx) :
    Told w 7 80 [.ref tb, .str (nm 0 0) t, .str (Str.ofString "0") t'] [] nx (fun r news' => r = Value.none ∧ ∃ (vs' : List Value) (nn' : Nat), (lt, W.listOf vs'.toArray nn') ∈ news' ∧ (∀ p ∈ nx, @Ne Nat p.1 lt → p ∈ news') ∧ Ents news' vs' (txt [((0, 0), 0)])) := by
  rw [name_b.2.2]
  exact seti_ok w tb d lt 0 0 (by omega) (by omega) 0 (by omega) t t' tk n1 nn [] [] nx h1 h2 h3 .nil (fun _ h => nomatch h) (by simp) rfl
theorem bag_hint (w : World) (tb d lt f : Addr) (st : St) (base nx : Led) (tk : Tok) (n1 : Nat) (hz : len st ≤ 200)
    (h1 : (tb, instObj 235 d) ∈ base) (h2 : (d, dictOf [⟨PyData.keyHash w.params (Str.ofString "_headers"), .str (Str.ofString "_headers") tk, .ref lt⟩] n1) ∈ base) (hB : Bag lt f st base nx) :
    Told w 4 88 [.ref tb] [] nx (fun r news' => nx = news' ∧ ∃ t, r = .int (st.1.length : Int) t) := by
  obtain ⟨vs, nn, a1, a2⟩ := hB.tab
  have e : vs.length = st.1.length := by rw [a2.length, txt_len]
  have := lhint_ok w tb d lt tk n1 nn vs nx (by unfold len at hz; omega) (hB.kept _ h1) (hB.kept _ h2) a1
  rwa [e] at this
theorem bag_rows (w : World) (lt f : Addr) (st : St) (base nx : Led) (rb rc lv : Nat) (hb1 : 1 ≤ rb) (hb : rb ≤ 9) (hc1 : 1 ≤ rc) (hc : rc ≤ 9) (h3 : 3 ≤ lv) (h5 : lv ≤ 5) (t1 t2 t3 : Tok) (hB : Bag lt f st base nx) :
    Told w 3 258 [.int rb t1, .int rc t2, .int lv t3] [] nx (fun r news' => ∃ (l : Addr) (vs : List Value) (nn : Nat), r = .ref l ∧ (l, W.listOf vs.toArray nn) ∈ news' ∧ Rws news' vs (rows rb rc lv) ∧ vs.length ≤ 1000 ∧ Bag lt f st base news') := by
  intro mean mg mb dp un gd cn cs a ccd cl outer A₀ base' h₀ L m s Q E B F X N T hk hdp hun hret
  refine Told.use (states_ok w rb rc lv hb1 hc1 hb hc h3 h5 t1 t2 t3 nx) B F X N T hk hdp hun ?_
  rintro r h' tk' news' F' N' ⟨l, j, vs, nn, ds, rfl, hL, hR, rfl⟩
  have e := least_per hb hb1 hc hc1 hL
  subst e
  have hg := law_holds hb1 hb hc1 hc h3 h5
  unfold goodAt at hg
  rw [Bool.and_eq_true] at hg
  have e1 : (bfs rb rc lv).1.length = (rows rb rc lv).length := by simpa using hg.1
  have e2 := len_small hb1 hb hc1 hc h5
  have e3 : vs.length = (rows rb rc lv).length := hR.length
  exact hret _ _ _ _ F' N' ⟨l, vs, nn, rfl, .head _, hR.mono fun _ _ _ ha => .tail _ (List.mem_append.mpr (.inl ha)), by omega, hB.up fun p hp => .tail _ (List.mem_append.mpr (.inr hp))⟩
theorem bag_deeds (w : World) (lt f : Addr) (st : St) (base nx : Led) (i j rb rc : Nat) (hi : i ≤ rb) (hj : j ≤ rc) (hb : rb ≤ 9) (hc : rc ≤ 9) (t1 t2 t3 t4 : Tok) (hB : Bag lt f st base nx) :
    Told w 3 253 [.str (bl i 98) t1, .str (bl j 99) t2, .int rb t3, .int rc t4] [] nx (fun r news' => ∃ (l : Addr) (vs : List Value), r = .ref l ∧ l ≠ lt ∧ l ≠ f ∧ (l, W.listOf vs.toArray 0) ∈ news' ∧ (∀ p ∈ nx, p ∈ news') ∧ Ents news' vs ((mv rb rc i j).map tx)) := by
  intro mean mg mb dp un gd cn cs a ccd cl outer A₀ base' h₀ L m s Q E B F X N T hk hdp hun hret
  refine Told.use (deeds_ok w i j rb rc hi hj hb hc t1 t2 t3 t4 nx) B F X N T hk hdp hun ?_
  rintro r h' tk' news' F' N' ⟨l, vs, ds, rfl, hl, hE, rfl⟩
  obtain ⟨_, _, a1, _⟩ := hB.tab
  obtain ⟨_, _, b1, _⟩ := hB.fnd
  exact hret _ _ _ _ F' N' ⟨l, vs, rfl, (hl _ a1).symm, (hl _ b1).symm, .head _, fun p hp => .tail _ (List.mem_append.mpr (.inr hp)), hE.mono fun _ _ _ ha => .tail _ (List.mem_append.mpr (.inl ha))⟩
/-- a state's name in great letters -/
theorem name_big (i j : Nat) : sp i ++ Str.ofString "B." ++ sp j ++ Str.ofString "C" = NM i j := by
  show (⟨(sp i ++ Str.ofString "B." ++ sp j ++ Str.ofString "C").cps⟩ : Str) = ⟨(NM i j).cps⟩
  rw [NM_cps]
  congr 1
  rw [Str.cps_append, Str.cps_append, Str.cps_append, show (Str.ofString "B.").cps = #[66, 46] from by decide +kernel, show (Str.ofString "C").cps = #[67] from by decide +kernel]
  apply Array.ext'
  simp [sp]
theorem bag_get (w : World) (tb d lt f : Addr) (base nx : Led) (rb rc lv x y z : Nat) (hb1 : 1 ≤ rb) (hb : rb ≤ 9) (hc1 : 1 ≤ rc) (hc : rc ≤ 9) (h3 : 3 ≤ lv) (h5 : lv ≤ 5) (t tk : Tok) (n1 : Nat)
    (h1 : (tb, instObj 235 d) ∈ base) (h2 : (d, dictOf [⟨PyData.keyHash w.params (Str.ofString "_headers"), .str (Str.ofString "_headers") tk, .ref lt⟩] n1) ∈ base) (hB : Bag lt f (bfs rb rc lv) base nx) (hr : (x, y, z) ∈ rows rb rc lv) :
    Told w 6 73 [.ref tb, .str (sp x ++ Str.ofString "B." ++ sp y ++ Str.ofString "C") t] [] nx (fun r news' => nx = news' ∧ ∃ t, r = .str (dg z) t) := by
  have hg := law_holds hb1 hb hc1 hc h3 h5
  unfold goodAt at hg
  rw [Bool.and_eq_true] at hg
  have q := List.all_eq_true.mp hg.2 _ hr
  rw [Bool.and_eq_true, Bool.and_eq_true] at q
  obtain ⟨⟨q1, q2⟩, q3⟩ := q
  have hx : x ≤ 9 := of_decide_eq_true q2
  have hy : y ≤ 9 := of_decide_eq_true q3
  have hl : look (bfs rb rc lv).1 (x, y) = some z := by simpa using q1
  have hG := good_bfs rb rc lv (by omega)
  obtain ⟨vs, nn, a1, a2⟩ := hB.tab
  rw [name_big]
  intro mean mg mb dp un gd cn cs a ccd cl outer A₀ base' h₀ L m s Q E B F X N T hk hdp hun hret
  refine Told.use (getitem_ok w tb d lt x y hx hy t tk n1 nn vs _ nx (hB.kept _ h1) (hB.kept _ h2) a1 a2 (small_txt hG hb hc)) B F X N T hk hdp hun ?_
  rw [seek_txt hb hc hx hy hG.1, hl]
  rintro r h' tk' news' F' N' ⟨rfl, h⟩
  rcases h with ⟨h, _⟩ | ⟨x', tx', h, rfl⟩
  · cases h
  · cases h
    exact hret _ _ _ _ F' N' ⟨rfl, _, rfl⟩
theorem row_small {rb rc lv x y z : Nat} (hb1 : 1 ≤ rb) (hb : rb ≤ 9) (hc1 : 1 ≤ rc) (hc : rc ≤ 9) (h3 : 3 ≤ lv) (h5 : lv ≤ 5) (hr : (x, y, z) ∈ rows rb rc lv) : x ≤ 9 ∧ y ≤ 9 ∧ z ≤ 9 := by
  have hg := law_holds hb1 hb hc1 hc h3 h5
  unfold goodAt at hg
  rw [Bool.and_eq_true] at hg
  have q := List.all_eq_true.mp hg.2 _ hr
  rw [Bool.and_eq_true, Bool.and_eq_true] at q
  obtain ⟨⟨_, q2⟩, q3⟩ := q
  have : z ≤ lv := of_decide_eq_true (List.mem_filter.mp hr).2
  exact ⟨of_decide_eq_true q2, of_decide_eq_true q3, by omega⟩
end Mine
open PySem PySem.W PyProof.Rows PySem.Calls
set_option Elab.async false
set_option maxRecDepth 100000
namespace Mine
theorem bag_start {rb rc : Nat} {lt e D : Addr} {vs : List Value} {nn k n2 : Nat} {t1 t2 : Tok} {base nx : Led} {h₀ h : Heap} {L : Addr} (_ : News h₀ L h ((e, W.listOf #[.ref D] k) :: (D, tupO #[.str (Str.ofString "b") t1, .str (Str.ofString "c") t2] n2) :: nx)) (m1 : (lt, W.listOf vs.toArray nn) ∈ nx) (m3 : Ents nx vs (txt [((0, 0), 0)])) (hb : ∀ p ∈ base, p ∈ nx) :
    Bag lt e (bfs rb rc 0) base ((e, W.listOf #[.ref D] k) :: (D, tupO #[.str (Str.ofString "b") t1, .str (Str.ofString "c") t2] n2) :: nx) := by
  rw [name_b.1, name_b.2.1]
  exact ⟨⟨vs, nn, .tail _ (.tail _ m1), m3.mono fun _ _ _ ha => .tail _ (.tail _ ha)⟩, ⟨[.ref D], k, .head _, .cons (.tail _ (.head _)) .nil⟩, fun p hp => .tail _ (.tail _ (hb p hp))⟩
theorem len_ok {vs : List Value} {ns : List Int} (h : IntsAre vs ns) (hc : ¬ ((63 : Nat) : Int) < (ns.length : Int)) : vs.length ≤ 1000 := by
  rw [h.length]; omega
theorem edge_start {lt e f I : Addr} {oI : Obj} {st : St} {base nx : Led} {evs : List Value} {en k : Nat} {h₀ h : Heap} {L : Addr} (N : News h₀ L h ((f, W.listOf #[] k) :: (I, oI) :: nx)) (hl : I < f ∧ AllLt f nx) (hap : ∀ p ∈ nx, p.1 ≠ I) (B : Bag lt e st base nx) (he : e ≠ lt) (b1 : (e, W.listOf evs.toArray en) ∈ nx) (b2 : Ents nx evs (st.2.map tx)) (hb : ∀ p ∈ base, p.1 ≠ lt) :
    ∃ base1 : Led, f ≠ lt ∧ Bag lt f (st.1, []) base1 ((f, W.listOf #[] k) :: (I, oI) :: nx) ∧ (∀ p ∈ base1, p.1 ≠ lt) ∧ (∀ p ∈ base1, p.1 ≠ f) ∧ (∀ p ∈ base, p ∈ base1) ∧ (e, W.listOf evs.toArray en) ∈ base1 ∧ Ents base1 evs (st.2.map tx) ∧ (I, oI) ∈ base1 := by
  obtain ⟨vs, nn, a1, a2⟩ := B.tab
  have hf : ∀ p ∈ (I, oI) :: nx, p.1 ≠ f := all1 (Nat.ne_of_lt hl.1) fun p hp => Nat.ne_of_lt (allLt_mem hl.2 p hp)
  have N' : News h₀ L h nx := News.sub N fun p hp => .tail _ (.tail _ hp)
  refine ⟨off lt ((I, oI) :: nx), (hf _ (.tail _ a1)).symm, ⟨⟨vs, nn, .tail _ (.tail _ a1), a2.mono fun _ _ _ ha => .tail _ (.tail _ ha)⟩, ⟨[], k, .head _, .nil⟩, fun p hp => .tail _ (mem_off.mp hp).1⟩, off_ne, fun p hp => hf p (mem_off.mp hp).1, fun p hp => mem_off.mpr ⟨.tail _ (B.kept p hp), hb p hp⟩, mem_off.mpr ⟨.tail _ b1, he⟩, b2.mono fun a vs nn ha => mem_off.mpr ⟨.tail _ ha, ?_⟩, mem_off.mpr ⟨.head _, (hap _ a1).symm⟩⟩
  exact News.apart N' ha a1 (by show Value.type "tuple" ≠ Value.type "list"; decide)
theorem pair_start {lt f l I1 : Addr} {o1 : Obj} {st : St} {base1 nx : Led} {vs6 : List Value} {k : Nat} {es : List (Str × Str)} {h₀ h : Heap} {L : Addr} (N : News h₀ L h nx) (B : Bag lt f st base1 nx) (h1 : l ≠ lt) (h2 : l ≠ f) (hl : (l, W.listOf vs6.toArray k) ∈ nx) (hE : Ents nx vs6 es) (hI : (I1, o1) ∈ nx) (hI1 : I1 ≠ lt) (hI2 : I1 ≠ f) (hb1 : ∀ p ∈ base1, p.1 ≠ lt) (hb2 : ∀ p ∈ base1, p.1 ≠ f) :
    ∃ base2 : Led, Bag lt f st base2 nx ∧ (∀ p ∈ base2, p.1 ≠ lt) ∧ (∀ p ∈ base2, p.1 ≠ f) ∧ (∀ p ∈ base1, p ∈ base2) ∧ (l, W.listOf vs6.toArray k) ∈ base2 ∧ Ents base2 vs6 es ∧ (I1, o1) ∈ base2 := by
  obtain ⟨vs, nn, a1, a2⟩ := B.tab
  obtain ⟨fvs, fn, c1, c2⟩ := B.fnd
  have m : ∀ {p : Addr × Obj}, p ∈ nx → p.1 ≠ lt → p.1 ≠ f → p ∈ off f (off lt nx) := fun hp x y => mem_off.mpr ⟨mem_off.mpr ⟨hp, x⟩, y⟩
  refine ⟨off f (off lt nx), ⟨⟨vs, nn, a1, a2⟩, ⟨fvs, fn, c1, c2⟩, fun p hp => (mem_off.mp (mem_off.mp hp).1).1⟩, fun p hp => (mem_off.mp (mem_off.mp hp).1).2, off_ne, fun p hp => m (B.kept p hp) (hb1 p hp) (hb2 p hp), m hl h1 h2, hE.mono fun a vs nn ha => m ha ?_ ?_, m hI hI1 hI2⟩
  · exact News.apart N ha a1 (by show Value.type "tuple" ≠ Value.type "list"; decide)
  · exact News.apart N ha c1 (by show Value.type "tuple" ≠ Value.type "list"; decide)
theorem Ents.pair {X : Led} {vs : List Value} {ps : List (Nat × Nat)} (h : Ents X vs (ps.map tx)) {k : Nat} {v : Value} (hv : vs[k]? = some v) : ∃ a i j t1 t2 nn, v = .ref a ∧ ps[k]? = some (i, j) ∧ (a, tupO #[.str (bl i 98) t1, .str (bl j 99) t2] nn) ∈ X := by
  obtain ⟨a, x, y, t1, t2, nn, rfl, he, hm⟩ := h.get hv
  rw [List.getElem?_map] at he
  cases q : ps[k]? with
  | none => rw [q] at he; cases he
  | some p =>
    rw [q] at he
    simp only [Option.map_some, Option.some.injEq, tx, Prod.mk.injEq] at he
    obtain ⟨rfl, rfl⟩ := he
    exact ⟨a, p.1, p.2, t1, t2, nn, rfl, rfl, hm⟩
theorem dg_all : ((List.range 10).all fun n => Str.ofString (toString (n : Int)) == dg n) = true := by decide +kernel
theorem str_dg {prog : Program} {w : World} {A : Around} {E : Value → Shared → Prop} {s : Shared} {z : Int} {n : Nat} {t : Tok} {Q : Value → Shared → Prop} (hz : z = (n : Int)) (hn : n ≤ 9) (h : Q (.str (dg n) s.toks) { s with toks := s.toks + 1 }) : wpAny (model prog w) A (call (.type "str") [.int z t]) Q E s := by
  subst hz
  refine str_of_int_fit (N := 10) (by split <;> omega) (by decide) fun _ => ?_
  have e : Str.ofString (toString (n : Int)) = dg n := by simpa using all_at dg_all (k := n) (by omega)
  show Q (.str (Str.ofString (toString (n : Int))) s.toks) _
  rw [e]; exact h
/-- the state after k edges of level i+1 -/
noncomputable def atE (rb rc i k : Nat) : St := ((bfs rb rc i).2.take k).foldl (stepEdge rb rc (i + 1)) ((bfs rb rc i).1, [])
/-- .. and q deeds of the next edge -/
noncomputable def atP (rb rc i k a b q : Nat) : St := ((mv rb rc a b).take q).foldl (stepPair (i + 1)) (atE rb rc i k)
theorem atE_full {rb rc i k : Nat} (h : (bfs rb rc i).2.length = k) : atE rb rc i k = bfs rb rc (i + 1) := by
  subst h; unfold atE; rw [List.take_length]; rfl
theorem atP_full {rb rc i k a b : Nat} (hk : (bfs rb rc i).2[k]? = some (a, b)) : atP rb rc i k a b (mv rb rc a b).length = atE rb rc i (k + 1) := by
  unfold atP; rw [List.take_length]
  exact (fold_take (f := stepEdge rb rc (i + 1)) (st := ((bfs rb rc i).1, [])) hk).symm
theorem good_E {rb rc i k : Nat} (hi : i + 1 ≤ 9) : Good rb rc (atE rb rc i k) :=
  good_fold (fun _ p hp g => good_edge hi ((good_bfs rb rc i (by omega)).2 p (List.mem_of_mem_take hp)) g) ⟨(good_bfs rb rc i (by omega)).1, fun _ h => nomatch h⟩
theorem edge_in {rb rc i k a b : Nat} (hi : i ≤ 9) (hk : (bfs rb rc i).2[k]? = some (a, b)) : a ≤ rb ∧ b ≤ rc := (good_bfs rb rc i hi).2 _ (List.mem_of_getElem? hk)
theorem good_P {rb rc i k a b q : Nat} (hi : i + 1 ≤ 9) (hk : (bfs rb rc i).2[k]? = some (a, b)) : Good rb rc (atP rb rc i k a b q) :=
  good_fold (fun _ p hp g => good_pair hi (good_mv (edge_in (by omega) hk).1 (edge_in (by omega) hk).2 p (List.mem_of_mem_take hp)) g) (good_E hi)
theorem len_P {rb rc i k a b q : Nat} (hb1 : 1 ≤ rb) (hb : rb ≤ 9) (hc1 : 1 ≤ rc) (hc : rc ≤ 9) (hi : i + 1 ≤ 5) (hk : (bfs rb rc i).2[k]? = some (a, b)) : len (atP rb rc i k a b q) ≤ 150 := by
  refine Nat.le_trans (len_take (len_pair (i + 1)) _ _ _) ?_
  have e := atP_full hk
  unfold atP at e
  rw [List.take_length] at e
  rw [e]
  refine Nat.le_trans (len_take (len_edge rb rc (i + 1)) _ _ _) ?_
  exact len_small (n := i + 1) hb1 hb hc1 hc hi
/-- what a turn of the innermost loop leans on -/
theorem inner {rb rc i k a b q x y : Nat} (hb1 : 1 ≤ rb) (hb : rb ≤ 9) (hc1 : 1 ≤ rc) (hc : rc ≤ 9) (hi : i + 1 ≤ 5) (hk : (bfs rb rc i).2[k]? = some (a, b)) (hq : (mv rb rc a b)[q]? = some (x, y)) :
    x ≤ 9 ∧ y ≤ 9 ∧ Good rb rc (atP rb rc i k a b q) ∧ len (atP rb rc i k a b q) ≤ 200 ∧ len ((atP rb rc i k a b q).1 ++ [((x, y), i + 1)], (atP rb rc i k a b q).2) ≤ 200 ∧ atP rb rc i k a b (q + 1) = stepPair (i + 1) (atP rb rc i k a b q) (x, y) := by
  have h1 := len_P (q := q) hb1 hb hc1 hc hi hk
  have h2 := good_mv (edge_in (by omega) hk).1 (edge_in (by omega) hk).2 _ (List.mem_of_getElem? hq)
  dsimp only at h2
  refine ⟨by omega, by omega, good_P (by omega) hk, by omega, ?_, fold_take hq⟩
  unfold len at h1 ⊢
  simp only [List.length_append, List.length_singleton]
  omega
theorem pair_old {lvl x y : Nat} {st : St} (h : (st.1.any fun e => e.1 == (x, y)) = true) : stepPair lvl st (x, y) = st := if_pos h
theorem pair_new {lvl x y : Nat} {st : St} (h : (st.1.any fun e => e.1 == (x, y)) = false) : stepPair lvl st (x, y) = (st.1 ++ [((x, y), lvl)], st.2 ++ [(x, y)]) := if_neg (by rw [h]; decide)
theorem len_B : (Str.ofString "B.").length = 2 := by decide +kernel
theorem len_C : (Str.ofString "C").length = 1 := by decide +kernel
theorem mul_spN {prog : Program} {w : World} {A : Around} {E : Value → Shared → Prop} {s : Shared} {x : Nat} {t u : Tok} {Q : Value → Shared → Prop} (hx : x ≤ 20) (h : ∀ t' k, Q (.str (sp x) t') { s with toks := k }) : wpAny (model prog w) A (binaryOp .Mult (.str (Str.ofString " ") t) (.int (x : Int) u)) Q E s :=
  mul_sp (by omega) (by omega) fun t' k => by rw [Int.toNat_natCast]; exact h t' k
theorem add_txt {prog : Program} {w : World} {A : Around} {E : Value → Shared → Prop} {s : Shared} {x y : Str} {t u : Tok} {Q : Value → Shared → Prop} (hx : x.length + y.length ≤ 200) (h : ∀ t' k, Q (.str (x ++ y) t') { s with toks := k }) : wpAny (model prog w) A (binaryOp .Add (.str x t) (.str y u)) Q E s :=
  SB.add h (by rw [sizeLine_eq]; omega)
theorem sums {rb rc lv : Nat} (hb1 : 1 ≤ rb) (hb : rb ≤ 9) (hc1 : 1 ≤ rc) (hc : rc ≤ 9) (h3 : 3 ≤ lv) (h5 : lv ≤ 5) {X : Led} {vs : List Value} (h : Rws X vs (rows rb rc lv)) : (bfs rb rc lv).1.length = vs.length := by
  have hg := law_holds hb1 hb hc1 hc h3 h5
  unfold goodAt at hg
  rw [Bool.and_eq_true] at hg
  rw [h.length]
  simpa using hg.1
end Mine
section
open PySem PySem.W PyProof.Rows Mine
set_option Elab.async false
set_option maxRecDepth 100000
set_option maxHeartbeats 8000000
set_option pp.maxSteps 6000
local macro_rules | `(tactic| walk_at "SrcAt") => `(tactic| fail)
local macro_rules | `(tactic| walk_at "TestAt") => `(tactic| fail)
local macro_rules | `(tactic| walk_at "WhileStep2") => `(tactic| fail)
local macro_rules | `(tactic| walk_at "call builtin:hasattr") => `(tactic| fail)
local macro_rules | `(tactic| walk_at "call builtin:len") => `(tactic| fail)
local macro_rules | `(tactic| walk_at "call builtin:re.Pattern.search") => `(tactic| fail)
local macro_rules | `(tactic| walk_at "call builtin:str.lower") => `(tactic| fail)
local macro_rules | `(tactic| walk_at "delItem ref") => `(tactic| fail)
local macro_rules | `(tactic| walk_at "eval ListComp") => `(tactic| fail)
local macro_rules | `(tactic| walk_at "eval Name") => `(tactic| fail)
local macro_rules | `(tactic| walk_at "exec While") => `(tactic| fail)
local macro_rules | `(tactic| walk_at "getMethod ref") => `(tactic| fail)
local macro_rules | `(tactic| walk_at "setItem ref ref") => `(tactic| fail)
local macro_rules | `(tactic| walk_at "setItem ref str") => `(tactic| fail)
local macro_rules | `(tactic| walk_at "subscriptTail Name Name str int") => `(tactic| fail)
local macro_rules | `(tactic| walk_at "subscriptTail Name Slice str ref") => `(tactic| fail)
local macro_rules | `(tactic| walk_at "mine pad") => `(tactic| fail)
local macro_rules | `(tactic| walk_at "mine pad") => `(tactic| fail)
local macro_rules | `(tactic| walk_at "mine pad") => `(tactic| fail)
local macro_rules | `(tactic| walk_at "mine pad") => `(tactic| fail)
local macro_rules | `(tactic| walk_at "mine pad") => `(tactic| fail)
local macro_rules | `(tactic| walk_at "mine pad") => `(tactic| fail)
local macro_rules | `(tactic| walk_at "mine pad") => `(tactic| fail)
local macro_rules | `(tactic| walk_at "mine pad") => `(tactic| fail)
local macro_rules | `(tactic| walk_at "mine pad") => `(tactic| fail)
local macro_rules | `(tactic| walk_at "mine pad") => `(tactic| fail)
local macro_rules | `(tactic| walk_at "mine pad") => `(tactic| fail)
local macro_rules | `(tactic| walk_at "mine pad") => `(tactic| fail)
local macro_rules | `(tactic| k_room) => `(tactic| ktr_room)
local macro_rules | `(tactic| k_units) => `(tactic| ktr_units)
local macro_rules | `(tactic| k_enter) => `(tactic| first
  | (refine' code_def ?k1 ?k2 ?k3 ?k4 ?k5 ?kA ?kF ?kK ?k6 ?k7 ?k8 ?k9 ?kB ?_ ?c2 ?c3 ?c4 ?c5; (case kA => exact rfl); (case kF => exact rfl); (case kK => first | exact rfl | assumption); (case k1 => k_asm); (case k2 => k_asm); (case k3 => k_asm); (case k4 => k_asm); (case k5 => k_asm); (case k6 => k_is); (case k7 => k_is); (case k8 => ktr_room); (case k9 => first | exact BindsTo.of_eq rfl | exact binds_K (by k_in) rfl (by k_is) rfl rfl rfl | fail "k_enter: no rule for these arguments"); (case c5 => decide); (case kB => exact locs rfl); (case c2 => exact rfl); (case c3 => exact rfl); (case c4 => exact rfl); k_whole; intro g' L' h' FG' F' N' B' X' T'; (try dsimp only); (try k_lift B'); (try k_fold))
  | (refine' code_defC ?k1 ?k2 ?k3 ?k4 ?k5 ?kA ?kF ?kK ?k6 ?k7 ?k8 ?k9 ?kB ?kD ?_ ?c2 ?c3 ?c4; (case kA => exact rfl); (case kF => exact rfl); (case kK => first | exact rfl | assumption); (case k1 => k_asm); (case k2 => k_asm); (case k3 => k_asm); (case k4 => k_asm); (case k5 => k_asm); (case k6 => k_is); (case k7 => k_is); (case k8 => ktr_room); (case k9 => first | exact BindsTo.of_eq rfl | exact binds_K (by k_in) rfl (by k_is) rfl rfl rfl | fail "k_enter: no rule for these arguments"); (case kB => exact rfl); (case kD => decide +kernel); (case c2 => exact rfl); (case c3 => exact rfl); (case c4 => exact rfl); k_whole; intro g' L' h' tk' cells' FG' F' N' Y' B' X' T' l1; (try k_lt l1); k_cells Y'; (try simp only [List.cons_append, List.nil_append] at N'); (try dsimp only); (try k_lift B'); (try k_fold)))
local macro_rules | `(tactic| walk_at "exec For Tuple Attribute cons nil") => `(tactic| refine Halt.in ?_)
local macro_rules | `(tactic| walk_at "exec For Tuple Name cons nil") => `(tactic| refine Halt.in ?_)
local macro_rules | `(tactic| walk_at "exec For Name Call cons nil") => `(tactic| refine Halt.in ?_)
local macro_rules | `(tactic| walk_at "pyIter ref") => `(tactic| refine Halt.in ?_)
local macro_rules | `(tactic| walk_at "TurnEnd") => `(tactic| first | refine TurnEnd.ret ?_ | refine Halt.in ?_)
local macro_rules | `(tactic| walk_at "exec For Name Call cons cons") => `(tactic| refine Halt.in ?_)
local macro_rules | `(tactic| walk_at "exec For Tuple Name cons cons") => `(tactic| refine Halt.in ?_)
local macro_rules | `(tactic| walk_at "exec For Name Call") => `(tactic| refine Halt.in ?_)
local macro_rules | `(tactic| walk_at "exec For") => `(tactic| refine Halt.in ?_)
local macro_rules | `(tactic| walk_at "call ref") => `(tactic| (k_dflt (refine' ToldH.use (draws_ok _ _ _ _ ?hz ?hn _) ?B ?F ?X ?N ?T ?hk ?hd ?hu ?hh ?_; (case B => k_asm); (case F => k_asm); (case X => k_asm); (case N => k_asm); (case T => k_asm); (case hk => first | exact rfl | assumption); (case hd => ktr_room); (case hu => ktr_units); (case hn => assumption); (case hh => assumption); (case hz => assumption)); intro r' h' tk' news' F' N' hp'; obtain ⟨tp9, rb9, rc9, lv9, t19, t29, t39, e1', q1, q2, q3, q4, q5, q6, e2'⟩ := hp'; subst e1'; subst e2'; (try dsimp only)))
local macro_rules | `(tactic| walk_at "call ref") => `(tactic| (k_dflt (refine' Told.use (new_ok _ _) ?B ?F ?X ?N ?T ?hk ?hd ?hu ?_; (case B => k_asm); (case F => k_asm); (case X => k_asm); (case N => k_asm); (case T => k_asm); (case hk => first | exact rfl | assumption); (case hd => ktr_room); (case hu => ktr_units)); intro r' h' tk' news' F' N' hp'; obtain ⟨x9, d9, l9, tk9, n19, nn9, e1', g1, g2, g3, e2'⟩ := hp'; subst e1'; subst e2'; (try dsimp only)))
local macro_rules | `(tactic| walk_at "call ref") => `(tactic| (k_dflt (refine' Told.use (bag_name _ _ _ ?h0 ?h1 _ _ _ _ _ ?h2) ?B ?F ?X ?N ?T ?hk ?hd ?hu ?_; (case B => k_asm); (case F => k_asm); (case X => k_asm); (case N => k_asm); (case T => k_asm); (case hk => first | exact rfl | assumption); (case hd => ktr_room); (case hu => ktr_units); (case h2 => assumption); (case h0 => assumption); (case h1 => assumption)); intro r' h' tk' news' F' N' hp'; obtain ⟨e1', t9, e2'⟩ := hp'; subst e1'; subst e2'; (try dsimp only)))
local macro_rules | `(tactic| walk_at "call ref") => `(tactic| (k_dflt (refine' Told.use (bag_name0 _ _ _ _ _ _ ?h2) ?B ?F ?X ?N ?T ?hk ?hd ?hu ?_; (case B => k_asm); (case F => k_asm); (case X => k_asm); (case N => k_asm); (case T => k_asm); (case hk => first | exact rfl | assumption); (case hd => ktr_room); (case hu => ktr_units); (case h2 => k_mem)); intro r' h' tk' news' F' N' hp'; obtain ⟨e1', t9, e2'⟩ := hp'; subst e1'; subst e2'; (try dsimp only)))
local macro_rules | `(tactic| walk_at "call ref") => `(tactic| ((with_reducible show wpAny _ _ (call (Value.ref 80) [_, Value.str (nm _ _) _, Value.str (dg _) _] _) _ _ _); refine Halt.in ?_))
local macro_rules | `(tactic| walk_at "call ref") => `(tactic| (k_dflt (refine' Told.use (bag_set0 _ _ _ _ _ _ _ _ _ _ ?h1 ?h2 ?h3) ?B ?F ?X ?N ?T ?hk ?hd ?hu ?_; (case B => k_asm); (case F => k_asm); (case X => k_asm); (case N => k_asm); (case T => k_asm); (case hk => first | exact rfl | assumption); (case hd => ktr_room); (case hu => ktr_units); (case h1 => k_mem); (case h2 => k_mem); (case h3 => k_mem)); intro r' h' tk' news' F' N' hp'; obtain ⟨e1', vs9, nn9, m1, m2, m3⟩ := hp'; subst e1'; (try dsimp only)))
local macro_rules | `(tactic| walk_at "call ref") => `(tactic| (k_dflt (refine' Told.use (bag_has _ _ _ _ _ _ _ _ _ _ _ _ ?a1 ?a2 ?a3 ?a4 _ _ _ ?b1 ?b2 ?b3 ?b4) ?B ?F ?X ?N ?T ?hk ?hd ?hu ?_; (case B => k_asm); (case F => k_asm); (case X => k_asm); (case N => k_asm); (case T => k_asm); (case hk => first | exact rfl | assumption); (case hd => ktr_room); (case hu => ktr_units); (case b3 => assumption); (case b1 => assumption); (case b2 => assumption); (case b4 => assumption); (case a1 => assumption); (case a2 => assumption); (case a3 => assumption); (case a4 => assumption)); intro r' h' tk' news' F' N' hp'; obtain ⟨e1', e2'⟩ := hp'; subst e1'; subst e2'; (try dsimp only)))
local macro_rules | `(tactic| walk_at "call ref") => `(tactic| (k_dflt (refine' Told.use (bag_deeds _ _ _ _ _ _ _ _ _ _ ?a1 ?a2 ?a3 ?a4 _ _ _ _ ?b1) ?B ?F ?X ?N ?T ?hk ?hd ?hu ?_; (case B => k_asm); (case F => k_asm); (case X => k_asm); (case N => k_asm); (case T => k_asm); (case hk => first | exact rfl | assumption); (case hd => ktr_room); (case hu => ktr_units); (case b1 => assumption); (case a1 => assumption); (case a2 => assumption); (case a3 => assumption); (case a4 => assumption)); intro r' h' tk' news' F' N' hp'; obtain ⟨l9, vs9, e1', g1, g2, g3, g4, g5⟩ := hp'; subst e1'; (try dsimp only)))
local macro_rules | `(tactic| walk_at "call ref") => `(tactic| (k_dflt (refine' Told.use (bag_rows _ _ _ _ _ _ _ _ _ ?a1 ?a2 ?a3 ?a4 ?a5 ?a6 _ _ _ ?b1) ?B ?F ?X ?N ?T ?hk ?hd ?hu ?_; (case B => k_asm); (case F => k_asm); (case X => k_asm); (case N => k_asm); (case T => k_asm); (case hk => first | exact rfl | assumption); (case hd => ktr_room); (case hu => ktr_units); (case b1 => assumption); (case a1 => assumption); (case a2 => assumption); (case a3 => assumption); (case a4 => assumption); (case a5 => assumption); (case a6 => assumption)); intro r' h' tk' news' F' N' hp'; obtain ⟨l9, vs9, nn9, e1', g1, g2, g3, g4⟩ := hp'; subst e1'; (try dsimp only)))
local macro_rules | `(tactic| walk_at "call ref") => `(tactic| (k_dflt (refine' Told.use (bag_hint _ _ _ _ _ _ _ _ _ _ ?a1 ?b1 ?b2 ?b3) ?B ?F ?X ?N ?T ?hk ?hd ?hu ?_; (case B => k_asm); (case F => k_asm); (case X => k_asm); (case N => k_asm); (case T => k_asm); (case hk => first | exact rfl | assumption); (case hd => ktr_room); (case hu => ktr_units); (case b3 => assumption); (case b1 => assumption); (case b2 => assumption); (case a1 => assumption)); intro r' h' tk' news' F' N' hp'; obtain ⟨e1', t9, e2'⟩ := hp'; subst e1'; subst e2'; (try dsimp only)))
local macro_rules | `(tactic| walk_at "call ref") => `(tactic| (k_dflt (refine' Told.use (bag_get _ _ _ _ _ _ _ _ _ _ _ _ _ ?a1 ?a2 ?a3 ?a4 ?a5 ?a6 _ _ _ ?b1 ?b2 ?b3 ?b4) ?B ?F ?X ?N ?T ?hk ?hd ?hu ?_; (case B => k_asm); (case F => k_asm); (case X => k_asm); (case N => k_asm); (case T => k_asm); (case hk => first | exact rfl | assumption); (case hd => ktr_room); (case hu => ktr_units); (case b3 => assumption); (case b1 => assumption); (case b2 => assumption); (case b4 => assumption); (case a1 => assumption); (case a2 => assumption); (case a3 => assumption); (case a4 => assumption); (case a5 => assumption); (case a6 => assumption)); intro r' h' tk' news' F' N' hp'; obtain ⟨e1', t9, e2'⟩ := hp'; subst e1'; subst e2'; (try dsimp only)))
local macro_rules | `(tactic| walk_at "call builtin:list.append") => `(tactic| refine Halt.in ?_)
local macro_rules | `(tactic| walk_at "call builtin:len") => `(tactic| ((with_reducible show wpAny _ _ (call (Value.builtin "len") [Value.ref _]) _ _ _); k_dflt (refine' len_led ?k1 ?k2 ?k3 ?_; (case k1 => k_asm); (case k2 => assumption); (case k3 => assumption)); intro _ _))
local macro_rules | `(tactic| walk_at "call type:str") => `(tactic| (k_dflt (refine' str_dg ?k1 ?k2 ?_; (case k1 => first | assumption | exact rfl); (case k2 => omega))))
local macro_rules | `(tactic| walk_at "call builtin:str.upper") => `(tactic| (refine up1 (by assumption) (by assumption) ?_))
local macro_rules | `(tactic| walk_at "binaryOp Mult str int") => `(tactic| (k_dflt (refine' mul_spN ?k1 ?_; (case k1 => omega)); intro t9 k9))
local macro_rules | `(tactic| walk_at "binaryOp Add str str") => `(tactic| (k_dflt (refine' add_txt ?k1 ?_; (case k1 => (simp only [Str.length_append, sp_len, len_B, len_C]; omega))); intro t9 k9))
theorem Mine.News.eq {h₀ h : Heap} {L : Addr} {X Y : Led} (e : X = Y) (N : News h₀ L h X) : News h₀ L h Y := e ▸ N
theorem Mine.mem_of_eq {p : Addr × Obj} {X Y : Led} (h : Y = X) (hm : p ∈ X) : p ∈ Y := h ▸ hm
theorem PySem.Challenge.cw_xg0086_01_holds : PySem.Challenge.rw_xg0086_01.Holds :=
  hd (by
  k_go0
  rename World => w
  rename IntsAre _ _ => hns
  rename ¬ _ < _ => hcond
  rename Heap.IsList _ _ _ => hls
  have hz := len_ok hns hcond
  k_steps
  rename_i tp rb rc lv t1 t2 t3 q1 q2 q3 q4 q5 q6 _ _ _ _ _ _ _ tb d lt tkk n1 nn0 g1 g2 g3 _ _ _ _ l0 _ _ _ _ _ nx vs9 nn9 m1 m2 m3 D _ l1a e _ l1b _ F1 N1
  refine Halt.out ?_
  have hm2 := m2 _ (.tail _ (.tail _ (.head _))) g1
  have hd2 := m2 _ (.tail _ (.tail _ (.tail _ (.head _)))) g2
  have he : e ≠ lt := Nat.ne_of_gt (allLt_mem l1b.2 _ m1)
  obtain ⟨base0, eb0, hb0⟩ : ∃ base0 : Led, base0 = [(tb, instObj 235 d), (d, dictOf [⟨PyData.keyHash w.params (Str.ofString "_headers"), .str (Str.ofString "_headers") tkk, .ref lt⟩] n1)] ∧ ∀ p ∈ base0, p.1 ≠ lt := ⟨_, rfl, all1 g1 (all1 g2 all0)⟩
  have htb : (tb, instObj 235 d) ∈ base0 := by rw [eb0]; exact .head _
  have hdd : (d, dictOf [⟨PyData.keyHash w.params (Str.ofString "_headers"), .str (Str.ofString "_headers") tkk, .ref lt⟩] n1) ∈ base0 := by rw [eb0]; exact .tail _ (.head _)
  have hB0 := bag_start (rb := rb) (rc := rc) (base := base0) N1 m1 m3 (by rw [eb0]; exact all1 hm2 (all1 hd2 all0))
  clear eb0 m1 m2 m3 l1a l1b l0 hm2 hd2 g1 g2 g3
  refine wpAny_For ?_ (by intro _; rfl)
  k_steps
  refine Halt.out ?_
  rename IsRange _ _ _ _ _ _ _ _ => rg
  rename Fr _ _ _ _ => F2
  rename News _ _ _ _ => N2
  try clear F1
  try clear N1
  refine forR (n := (((lv : Int) + 1) - 1).toNat) (fun i m' nx => ∃ e : Addr, e ≠ lt ∧ Bag lt e (bfs rb rc i) base0 nx ∧ ∀ p ∈ [(Str.ofString "edge", Value.ref e), (Str.ofString "table", Value.ref tb), (Str.ofString "levels", Value.int lv t3), (Str.ofString "room_c", Value.int rc t2), (Str.ofString "room_b", Value.int rb t1)], m' p.1 = some p.2) rfl rg (small_one (by omega) (by omega) (by omega) (by omega)) (rangeSize_nat _ _) F2 N2 ⟨e, he, hB0, all1 rfl (all1 rfl (all1 rfl (all1 rfl (all1 rfl all0))))⟩ ?turn ?done (by passes_own)
  case turn =>
    clear hB0 he rg F2 N2
    rintro i m₁ nx I oI h tk t hi hcI hap ⟨e, he, hB, hp⟩ F3 N3
    replace F3 := canon _ F3 hp
    obtain ⟨evs, en, b1, b2⟩ := hB.fnd
    k_steps
    refine Halt.out ?_
    refine wpAny_For ?_ (by intro _; rfl)
    k_steps
    refine Halt.out ?_
    rename Fr _ _ _ _ => F4
    rename News _ _ _ _ => N4
    obtain ⟨f, ef⟩ := nameHd N4
    subst ef
    rename _ ∧ AllLt f nx => lf
    try clear F3
    have q9 : i + 1 ≤ 5 := by omega
    have z1 : lt ≠ I := by
      obtain ⟨_, _, c1, _⟩ := hB.tab
      exact hap _ c1
    have z2 : f ≠ I := Nat.ne_of_gt lf.1
    have z3 : ∀ p ∈ base0, p.1 ≠ I := fun p hp => hap p (hB.kept p hp)
    have q10 : i + 1 ≤ 9 := by omega
    have hlev : (1 + (i : Int)) = ((i + 1 : Nat) : Int) := by omega
    obtain ⟨base1, hf, hB1, hn1, hn2, hs1, hev, hE1, hI1⟩ := edge_start N4 lf hap hB he b1 b2 hb0
    have hlE := b2.length
    rw [List.length_map] at hlE
    have htb1 := hs1 _ htb
    have hdd1 := hs1 _ hdd
    clear lf hB he b1 b2 N3
    refine forL (vs := evs) (nn := en) (fun k m' nx' => Bag lt f (atE rb rc i k) base1 nx' ∧ ∀ p ∈ [(Str.ofString "found", Value.ref f), (Str.ofString "level", Value.int (1 + (i : Int)) t), (Str.ofString "table", Value.ref tb), (Str.ofString "levels", Value.int lv t3), (Str.ofString "room_c", Value.int rc t2), (Str.ofString "room_b", Value.int rb t1)], m' p.1 = some p.2) rfl F4 N4 ⟨hB1, by refine all1 ?_ (all1 ?_ (all1 ?_ (all1 ?_ (all1 ?_ (all1 ?_ all0))))) <;> first | rfl | (dsimp only; trace_state; fail)⟩ ?keep2 ?turn2 ?done2 (.inr ⟨_, _, _, rfl⟩) (by passes_own)
    case keep2 => exact fun k m' nx' h => h.1.kept _ hev
    case turn2 =>
      clear hB1 F4 N4
      rintro k v m₂ nx1 I1 oI1 h₂ tk₂ hv hcI1 hap1 ⟨hB1, hp1⟩ F5 N5
      replace F5 := canon _ F5 hp1
      obtain ⟨tp2, a, b, ta, tb2, nn2, rfl, hk, hat⟩ := hE1.pair hv
      obtain ⟨_, _, c1, _⟩ := hB1.tab
      obtain ⟨_, _, c2, _⟩ := hB1.fnd
      have hbI1 : ∀ p ∈ base1, p.1 ≠ I1 := fun p hp => hap1 p (hB1.kept p hp)
      have x1 : I1 ≠ lt := (hap1 _ c1).symm
      have x2 : I1 ≠ f := (hap1 _ c2).symm
      have hbd : a ≤ rb ∧ b ≤ rc := edge_in (by omega) hk
      obtain ⟨ha1, ha2⟩ := hbd
      obtain ⟨X1, N5, hB2, hat2, hI2⟩ : ∃ X1 : Led, News _ _ _ X1 ∧ Bag lt f (atE rb rc i k) base1 X1 ∧ (tp2, tupO #[.str (bl a 98) ta, .str (bl b 99) tb2] nn2) ∈ X1 ∧ (I1, oI1) ∈ X1 := ⟨_, N5, hB1.up fun p hp => .tail _ hp, .tail _ (hB1.kept _ hat), .head _⟩
      clear c1 c2
      k_steps
      refine Halt.out ?_
      refine wpAny_For ?_ (by intro _; rfl)
      k_steps
      refine Halt.out ?_
      rename Fr _ _ _ _ => F6
      rename News _ _ _ _ => N6
      rename_i l vs6 g1 g2 g3 g4 g5
      try clear F5
      try clear N5
      obtain ⟨base2, hB3, hn3, hn4, hs2, hl6, hE2, hI3⟩ := pair_start N6 (hB2.up g4) g1 g2 g3 g5 (g4 _ hI2) x1 x2 hn1 hn2
      have hlP := g5.length
      rw [List.length_map] at hlP
      have htb2 := hs2 _ htb1
      have hdd2 := hs2 _ hdd1
      clear g1 g2 g3 g4 g5 hB2 hat2 hI2
      refine forL (vs := vs6) (nn := 0) (fun q m' nx' => Bag lt f (atP rb rc i k a b q) base2 nx' ∧ ∀ p ∈ [(Str.ofString "found", Value.ref f), (Str.ofString "level", Value.int (1 + (i : Int)) t), (Str.ofString "table", Value.ref tb), (Str.ofString "levels", Value.int lv t3), (Str.ofString "room_c", Value.int rc t2), (Str.ofString "room_b", Value.int rb t1)], m' p.1 = some p.2) rfl F6 N6 ⟨hB3, by refine all1 ?_ (all1 ?_ (all1 ?_ (all1 ?_ (all1 ?_ (all1 ?_ all0))))) <;> rfl⟩ ?keep3 ?turn3 ?done3 (.inl ⟨_, _, rfl⟩) (by passes_own)
      case keep3 => exact fun q m' nx' h => h.1.kept _ hl6
      case turn3 =>
        clear hB3 F6 N6
        rintro q v m₃ nx2 I2 oI2 h₃ tk₃ hv hcI2 hap2 ⟨hB3, hp2⟩ F7 N7
        replace F7 := canon _ F7 hp2
        obtain ⟨tp3, x, y, tc, td, nn3, rfl, hq, hat3⟩ := hE2.pair hv
        obtain ⟨_, _, c1, _⟩ := hB3.tab
        obtain ⟨_, _, c2, _⟩ := hB3.fnd
        have y1 : I2 ≠ lt := (hap2 _ c1).symm
        have y2 : I2 ≠ f := (hap2 _ c2).symm
        obtain ⟨hx9, hy9, hGd, hln, hln2, hnext⟩ := inner q1 q2 q3 q4 q9 hk hq
        obtain ⟨X2, base3, N7, hB4, hat4, hI4, hn5, hn6, htb3, hdd3, hat5, hb23, hi23⟩ : ∃ X2 base3 : Led, News _ _ _ X2 ∧ Bag lt f (atP rb rc i k a b q) base3 X2 ∧ (tp3, tupO #[.str (bl x 98) tc, .str (bl y 99) td] nn3) ∈ X2 ∧ (I2, oI2) ∈ base3 ∧ (∀ p ∈ base3, p.1 ≠ lt) ∧ (∀ p ∈ base3, p.1 ≠ f) ∧ (tb, instObj 235 d) ∈ base3 ∧ (d, dictOf [⟨PyData.keyHash w.params (Str.ofString "_headers"), .str (Str.ofString "_headers") tkk, .ref lt⟩] n1) ∈ base3 ∧ (tp3, tupO #[.str (bl x 98) tc, .str (bl y 99) td] nn3) ∈ base3 ∧ (∀ p ∈ base2, p ∈ base3) ∧ ∀ p ∈ base2, p.1 ≠ I2 :=
          ⟨_, (I2, oI2) :: base2, N7, ⟨(hB3.up fun p hp => .tail _ hp).tab, (hB3.up fun p hp => .tail _ hp).fnd, all1 (.head _) fun p hp => .tail _ (hB3.kept p hp)⟩, .tail _ (hB3.kept _ hat3), .head _, all1 y1 hn3, all1 y2 hn4, .tail _ htb2, .tail _ hdd2, .tail _ hat3, fun p hp => .tail _ hp, fun p hp => hap2 p (hB3.kept p hp)⟩
        clear c1 c2
        generalize hst : atP rb rc i k a b q = st at hB4 hGd hln hln2 hnext
        clear hB3 hst
        k_steps
        all_goals refine Halt.out ?_
        · rename Fr _ _ _ _ => F9
          rename News _ _ _ _ => N9
          rename List.any _ _ = true => hany
          have kI := hB4.kept _ hI4
          refine TurnEnd.off F9 N9 kI ⟨?_, by refine all1 ?_ (all1 ?_ (all1 ?_ (all1 ?_ (all1 ?_ (all1 ?_ all0))))) <;> rfl⟩
          rw [hnext, pair_old hany]
          exact Bag.off (hB4.base hb23) N9 kI (by rw [hcI2]; decide) (Ne.symm y1) (Ne.symm y2) hi23
        · rename Fr _ _ _ _ => F8
          rename News _ _ _ _ => N8
          rename List.any _ _ = false => hany
          refine Told.use (bag_set w tb d lt f st base3 X2 rb rc x y q2 q4 hx9 hy9 (i + 1) q10 _ _ tkk n1 htb3 hdd3 hf hn5 hB4 hGd hln hany) (by k_asm) F8 (by k_asm) N8 (by k_asm) (by rfl) (by ktr_room) (by ktr_units) ?_
          rintro r9 h9 tk9 news9 F9 N9 ⟨rfl, hB9⟩
          clear F8 N8
          (try dsimp only)
          obtain ⟨fvs9, fn9, hfm9, _⟩ := hB9.fnd
          k_steps
          refine Halt.out ?_
          rename Fr _ _ _ _ => F8
          rename News _ _ _ _ => N8
          refine bag_append (p := (x, y)) F8 N8 hB9 hf hn6 hln2 hat5 ?_
          intro h8 nx8 F10 N10 hB10
          clear F8 N8 hB9
          try clear F9
          try clear N9
          k_steps
          refine Halt.out ?_
          rename Fr _ _ _ _ => F9
          rename News _ _ _ _ => N9
          have kI := hB10.kept _ hI4
          refine TurnEnd.off F9 N9 kI ⟨?_, by refine all1 ?_ (all1 ?_ (all1 ?_ (all1 ?_ (all1 ?_ (all1 ?_ all0))))) <;> rfl⟩
          rw [hnext, pair_new hany]
          exact Bag.off (hB10.base hb23) N9 kI (by rw [hcI2]; decide) (Ne.symm y1) (Ne.symm y2) hi23
      case done3 =>
        clear hB3 F6 N6
        rintro m₃ nx2 h₃ tk₃ ⟨hB3, hp2⟩ F7 N7
        replace F7 := canon _ F7 hp2
        rw [hlP, atP_full hk] at hB3
        k_steps
        refine Halt.out ?_
        rename Fr _ _ _ _ => F9
        rename News _ _ _ _ => N9
        have kI := hB3.kept _ hI3
        exact TurnEnd.off F9 N9 kI ⟨Bag.off (hB3.base hs2) N9 kI (by rw [hcI1]; decide) (Ne.symm x1) (Ne.symm x2) hbI1, by refine all1 ?_ (all1 ?_ (all1 ?_ (all1 ?_ (all1 ?_ (all1 ?_ all0))))) <;> rfl⟩
    case done2 =>
      clear hB1 F4 N4
      rintro m₂ nx1 h₂ tk₂ ⟨hB1, hp1⟩ F5 N5
      replace F5 := canon _ F5 hp1
      rw [atE_full hlE.symm] at hB1
      k_steps
      refine Halt.out ?_
      rename Fr _ _ _ _ => F9
      rename News _ _ _ _ => N9
      have kI := hB1.kept _ hI1
      exact TurnEnd.off F9 N9 kI ⟨f, hf, Bag.off (hB1.base hs1) N9 kI (by rw [hcI]; decide) z1 z2 z3, by refine all1 ?_ (all1 ?_ (all1 ?_ (all1 ?_ (all1 ?_ all0)))) <;> rfl⟩
  case done =>
    clear hB0 he rg F2 N2
    rintro m₁ nx h tk ⟨e, he, hB, hp⟩ F3 N3
    replace F3 := canon _ F3 hp
    rw [show (((lv : Int) + 1) - 1).toNat = lv by omega] at hB
    have hlen : len (bfs rb rc lv) ≤ 200 := Nat.le_trans (len_small q1 q2 q3 q4 q6) (by omega)
    k_steps
    · rename Rws _ _ _ => hW
      have := sums q1 q2 q3 q4 q5 q6 hW
      exfalso
      omega
    · refine Halt.out ?_
      refine wpAny_For ?_ (by intro _; rfl)
      k_steps
      refine Halt.out ?_
      rename Fr _ _ _ _ => F4
      rename News _ _ _ _ => N4
      rename Rws _ _ _ => hW
      rename Bag _ _ _ _ _ => hB5
      rename List Value => vs
      rename List (Addr × Obj) => X
      rename (_, W.listOf (List.toArray vs) _) ∈ X => hlm
      refine forL (vs := vs) (fun n m' nx' => nx' = X ∧ ∀ p ∈ [(Str.ofString "table", Value.ref tb)], m' p.1 = some p.2) rfl F4 N4 ⟨rfl, by refine all1 ?_ all0; rfl⟩ (fun n m' nx' h => mem_of_eq h.1 hlm) ?turn4 ?done4 (.inr ⟨_, _, _, rfl⟩) (by passes_own)
      case turn4 =>
        clear F4 N4
        rintro n v m₂ nx1 I1 oI1 h₂ tk₂ hv hcI1 hap1 ⟨rfl, hp1⟩ F5 N5
        replace F5 := canon _ F5 hp1
        obtain ⟨tp2, x, y, z, ta, tb2, tc2, nn2, rfl, hk, hat⟩ := hW.get hv
        have hr := List.mem_of_getElem? hk
        obtain ⟨hx9, hy9, hz9⟩ := row_small q1 q2 q3 q4 q5 q6 hr
        obtain ⟨X1, N5, hB6, hat2, hX⟩ : ∃ X1 : Led, News _ _ _ X1 ∧ Bag lt e (bfs rb rc lv) base0 X1 ∧ (tp2, tupO #[.int x ta, .int y tb2, .int z tc2] nn2) ∈ X1 ∧ X1 = (I1, oI1) :: nx1 := ⟨_, N5, hB5.up fun p hp => .tail _ hp, .tail _ hat, rfl⟩
        k_steps
        refine Halt.out ?_
        rename Fr _ _ _ _ => F9
        rename News _ _ _ _ => N9
        exact TurnEnd.go nx1 F9 (News.eq hX N9) hap1 ⟨rfl, by refine all1 ?_ all0; rfl⟩
      case done4 =>
        clear F4 N4
        rintro m₂ nx1 h₂ tk₂ ⟨rfl, hp1⟩ F5 N5
        replace F5 := canon _ F5 hp1
        k_steps)
end
