import PyProof.Rows.All
import Wide.All
import OpenK.AllK
import Wide.FinOn
import PySem.Challenge.RW_dw0044_01
/- dw0044-01: the law of _check_time_fields. Own rules (a list's +=, _operator.index, a loop that leaves all as it stood, a comprehension whose test is false throughout,
   an exception's arguments), then the contract of _law_told, walked once (told_call), then the law's walk by the library's lines and these. -/
open PySem PySem.W PyProof.Rows PySem.Calls
set_option Elab.async false
set_option maxRecDepth 100000
namespace Mine
section
variable {M : Model} {A : Around} {E : Value → Shared → Prop} {s : Shared}
theorem seq_list_iadd : seqSlot? (.type "list") (dunderI "add") = pure (some (.builtin "list.__iadd__")) := PySem.seqSlot_of PySem.F.slot_list_iadd.lookup (by decide +kernel)
theorem inplace_list {a b : Value} {Q : Value → Shared → Prop} (ha : s.TypeIs a "list") (hb : s.TypeIs b "list")
    (hc : wpAny M A (call (.builtin "list.__iadd__") [a, b]) Q E s) : wpAny M A (inplaceOp .Add a b) Q E s := by
  unfold inplaceOp
  refine wpAny_holding ?_
  have hfi : fillsInplaceSlot (.type "list") "add" (Operator.Add == .Add) = pure false := by
    unfold fillsInplaceSlot
    show (typeLookup (.type "list") (dunderI "add") >>= fun fi => pure (fi.isSome && !isSeqSlot fi)) = pure false
    rw [PySem.F.slot_list_iadd.lookup]
    have e : isSeqSlot (some (Value.builtin "list.__iadd__")) = true := by decide +kernel
    simp only [pure_bind, e]
    rfl
  refine wpAny_bind (wpAny_typeOf ha (wpAny_bind (wpAny_of_eq hfi ?_)))
  show wpAny M A (if false = true then _ else _) Q E s
  rw [if_neg Bool.false_ne_true]
  refine wpAny_bind (wpAny_binaryOp1_none (nm := "add") ha hb noFill_list_add ?_)
  refine wpAny_bind (wpAny_of_eq seq_list_iadd ?_)
  exact wpAny_bind (wpAny_rule hc)
end
section
variable {prog : Program} {w : World} {A : Around} {E : Value → Shared → Prop} {s : Shared} {h₀ : Heap} {L D b : Addr} {m : Str → Option Value} {news news' : List (Addr × Obj)} {its its2 : Array Value} {n n2 : Nat} {l : List Value}
theorem iadd_list {Q : Value → Shared → Prop} (F : Fr h₀ L s.heap m) (N : News h₀ L s.heap news) (hb : (b, listOf its2 n2) ∈ news) (e : its.toList ++ its2.toList = l) (hne : its2.toList.length ≠ 0)
    (U : Upd D (listOf its n) (listOf l.toArray (n + 1)) news news') (hd : ¬(!its.isEmpty && Builtin.List.listTooLong (its.size + its2.size)) = true) (hz : its.toList.length ≤ sizeLine) (hz2 : its.size + its2.size ≤ sizeLine + 1)
    (h : ∀ h', Fr h₀ L h' m → News h₀ L h' news' → Q (.ref D) { s with heap := h' }) : wpAny (model prog w) A (inplaceOp .Add (.ref D) (.ref b)) Q E s := by
  obtain ⟨pre, post, rfl, rfl, a, c⟩ := U.split
  have z := N (D, listOf its n) (List.mem_append.mpr (.inr (.head _)))
  refine inplace_list ⟨_, z.1, rfl⟩ ⟨_, (N _ hb).1, rfl⟩ ?_
  refine call_meets PySem.F.slot_list_iadd ⟨_, z.1, rfl⟩ PySem.F.entry_list_iadd (PySem.F.args_list_iadd_2 _ _) (PySem.AutoSeq1.list___iadd___list_list_0 D its n b its2 n2 hd (by simpa using hz) hz2) ⟨z.1, (N _ hb).1, h _ (F.change (Heap.SameBut.update ..) z.2.1 z.2.2) (kl_turn _ N a c ?_ ?_)⟩
  · subst e
    apply Array.toList_inj.mp
    simp
  · subst e
    simp at hne ⊢
    exact hne
end

def StayS (news : List (Addr × Obj)) (x : Str) (stored : List Str) (m₀ : Str → Option Value) (m : Str → Option Value) (nx : List (Addr × Obj)) : Prop :=
  nx = news ∧ ∀ z, z ≠ x → stored.contains z = false → m z = m₀ z

section
variable {prog : Program} {w : World} {A : Around} {E : Value → Shared → Prop} {s : Shared} {env : Env} {h₀ : Heap} {x : Str} {body : List Stmt} {Q : Flow → Shared → Prop}
theorem stay_fr {L : Addr} {h : Heap} {stored : List Str} {m₀ m₁ : Str → Option Value} {v : Option Value} (h2 : ∀ z, z ≠ x → stored.contains z = false → m₁ z = m₀ z)
    (F : Fr h₀ L h (fun y => if y = x then v else m₁ y)) : Fr h₀ L h (fun y => if y = x then v else if stored.contains y then m₁ y else m₀ y) := by
  have em : (fun y => if y = x then v else if stored.contains y then m₁ y else m₀ y) = fun y => if y = x then v else m₁ y := by
    funext y
    by_cases hy : y = x
    · rw [if_pos hy, if_pos hy]
    · rw [if_neg hy, if_neg hy]
      cases h3 : stored.contains y with
      | true => simp
      | false => simp only [Bool.false_eq_true, if_false]; exact (h2 y hy h3).symm
  rw [em]
  exact F
theorem stay_frOut {L : Addr} {h : Heap} {stored : List Str} {m₀ m₁ : Str → Option Value} (h2 : ∀ z, z ≠ x → stored.contains z = false → m₁ z = m₀ z)
    (F : Fr h₀ L h m₁) : Fr h₀ L h (fun y => if y = x then m₁ y else if stored.contains y then m₁ y else m₀ y) := by
  have em : (fun y => if y = x then m₁ y else if stored.contains y then m₁ y else m₀ y) = m₁ := by
    funext y
    by_cases hy : y = x
    · rw [if_pos hy]
    · rw [if_neg hy]
      cases h3 : stored.contains y with
      | true => simp
      | false => simp only [Bool.false_eq_true, if_false]; exact (h2 y hy h3).symm
  rw [em]
  exact F
theorem stay_list {l : Addr} {vs : List Value} {ns : List Int} {nn : Nat} {m₀ : Str → Option Value} {news : List (Addr × Obj)} (stored : List Str)
    (hh : A.handled = none) (hl : (l, listOf vs.toArray nn) ∈ news) (hi : IntsAre vs ns) (F : Fr h₀ env.locals s.heap m₀) (N : News h₀ env.locals s.heap news)
    (turn : ∀ n t (u : Str → Option Value) h tk own, OwnOff own (news.map (·.1)) →
      Fr h₀ env.locals h (fun y => if y = x then some (.int n t) else if stored.contains y then u y else m₀ y) → News h₀ env.locals h (news ++ own) →
      wpAny (model prog w) A (execs body env) (InvPostN h₀ env.locals (StayS news x stored m₀) own (news.map (·.1)) { s with heap := h, toks := tk } Q) E { s with heap := h, toks := tk })
    (done : ∀ (u : Str → Option Value) h tk, Fr h₀ env.locals h (fun y => if y = x then u y else if stored.contains y then u y else m₀ y) → News h₀ env.locals h news → Q .next { s with heap := h, toks := tk }) :
    wpAny (model prog w) A (pyIter (.ref l)) (fun it s₂ => LoopAtV prog w A h₀ env x body Q E it s₂) E s := by
  refine iter_invNL (fun _ m nx => StayS news x stored m₀ m nx) hh hl hi F N ⟨rfl, fun _ _ _ => rfl⟩ ?_ ?_
  · rintro i n t m₁ nx h tk own hn _ hoff _ ⟨rfl, h2⟩ F₁ N₁
    refine wpAny_mono (turn n t m₁ h tk own hoff (stay_fr h2 F₁) N₁) (fun f s₂ p => ?_) fun _ _ x => x
    have up : InvEndN h₀ env.locals (StayS nx x stored m₀) own (nx.map (·.1)) { s with heap := h, toks := tk } s₂ →
        InvEndN h₀ env.locals (fun m' nx' => (l, listOf vs.toArray nn) ∈ nx' ∧ StayS nx x stored m₀ m' nx') own (nx.map (·.1)) { s with heap := h, toks := tk } s₂ := by
      rintro ⟨h', tk', m', news', nx', e', F', N', hn', ho', ha, hS⟩
      refine ⟨h', tk', m', news', nx', e', F', N', hn', ho', ha, ?_, hS⟩
      obtain ⟨rfl, _⟩ := hS
      exact hl
    cases f with
    | ret v => exact p
    | brk => exact p
    | next => exact up p
    | cont => exact up p
  · rintro m₁ nx h tk _ ⟨rfl, h2⟩ F₁ N₁
    exact done m₁ h tk (stay_frOut h2 F₁) N₁

theorem stay_tup {ax : Addr} {its : Array Value} {nn : Nat} {m₀ : Str → Option Value} {news : List (Addr × Obj)} (stored : List Str)
    (hh : A.handled = none) (F : Fr h₀ env.locals s.heap m₀) (N : News h₀ env.locals s.heap ((ax, ({ cls := .type "tuple", data := .seq its nn } : Obj)) :: news))
    (hne : ∀ p ∈ news, p.1 ≠ ax) (hi : ∀ v ∈ its.toList, ∃ (n : Int) (t : Tok), v = .int n t)
    (turn : ∀ n t (u : Str → Option Value) h tk own, OwnOff own (news.map (·.1)) →
      Fr h₀ env.locals h (fun y => if y = x then some (.int n t) else if stored.contains y then u y else m₀ y) → News h₀ env.locals h (news ++ own) →
      wpAny (model prog w) A (execs body env) (InvPostN h₀ env.locals (StayS news x stored m₀) own (news.map (·.1)) { s with heap := h, toks := tk } Q) E { s with heap := h, toks := tk })
    (done : ∀ (u : Str → Option Value) h tk, Fr h₀ env.locals h (fun y => if y = x then u y else if stored.contains y then u y else m₀ y) → News h₀ env.locals h news → Q .next { s with heap := h, toks := tk }) :
    wpAny (model prog w) A (pyIter (.ref ax)) (fun it s₂ => LoopAtV prog w A h₀ env x body Q E it s₂) E s := by
  have hax := N _ (List.mem_cons_self ..)
  have N₀ : News h₀ env.locals s.heap news := fun p hp => N p (List.mem_cons_of_mem _ hp)
  have hl : s.heap.IsTuple ax its := ⟨_, hax.1, rfl, nn, rfl⟩
  have hlt : ax < s.heap.objs.size := Heap.lt_size hax.1
  refine wpAny_pyIter_tuple hl ?_
  have W := Walks.tuple (prog := prog) (w := w) hh s.heap.objs.size ax (Nat.ne_of_lt hlt) its
  refine loop_invN (news := news) (fun _ m nx => StayS news x stored m₀ m nx) W ?_ ?_ ?_ ?_ ⟨⟨_, Heap.get?_push_size _ rfl, rfl, rfl⟩, hl.at fun o e => Heap.get?_push_of_some _ e⟩ (F.push _) (fun p hp => ⟨Heap.get?_push_of_some _ (N₀ p hp).1, (N₀ p hp).2⟩) ⟨rfl, fun _ _ _ => rfl⟩ ?_ ?_
  · intro hI
    rcases List.mem_cons.mp hI with e | hI
    · exact absurd F.ns.lt (e ▸ Nat.lt_irrefl _)
    · exact hax.2.1 (List.mem_singleton.mp hI).symm
  · intro b hb
    rw [List.mem_singleton.mp hb]
    exact next_is_new F
  · intro p hp hI
    exact absurd (Heap.lt_size (N₀ p hp).1) ((List.mem_singleton.mp hI) ▸ Nat.lt_irrefl _)
  · intro p hp hI
    rcases List.mem_cons.mp hI with e | hI
    · exact absurd (Heap.lt_size (N₀ p hp).1) (e ▸ Nat.lt_irrefl _)
    · exact hne p hp (List.mem_singleton.mp hI)
  · rintro i v m₁ nx h tk own _ hp _ hoff ⟨rfl, h2⟩ F₁ N₁
    have hp' : its[i]? = some v := hp
    obtain ⟨n, t, rfl⟩ := hi v (Array.mem_toList_iff.mpr (Array.mem_of_getElem? hp'))
    exact turn n t m₁ h tk own hoff (stay_fr h2 F₁) N₁
  · rintro m₁ nx h tk ⟨rfl, h2⟩ F₁ N₁
    exact done m₁ h tk (stay_frOut h2 F₁) N₁
theorem stay_end {stored : List Str} {m₀ : Str → Option Value} {L : Addr} {m' : Str → Option Value} {own news news' : List (Addr × Obj)} {s₁ : Shared} {h' : Heap} {tk : Nat}
    (F : Fr h₀ L h' m') (N : News h₀ L h' news') (hn : ∀ p ∈ news, p ∈ news') (ho : ∀ p ∈ own, p ∈ news') (hr : ∀ z, z ≠ x → stored.contains z = false → m' z = m₀ z) :
    InvEndN h₀ L (StayS news x stored m₀) own (news.map (·.1)) s₁ { s₁ with heap := h', toks := tk } :=
  InvEndN.intro F N ⟨rfl, hr⟩ rfl hn ho
end

theorem fmod_five {P : Int → Prop} {n : Int} (h0 : P 0) (h1 : P 1) (h2 : P 2) (h3 : P 3) (h4 : P 4) : P (Int.fmod n 5) := by
  have e : Int.fmod n 5 = n % 5 := Int.fmod_eq_emod_of_nonneg n (by decide)
  rw [e]
  have a : n % 5 = 0 ∨ n % 5 = 1 ∨ n % 5 = 2 ∨ n % 5 = 3 ∨ n % 5 = 4 := by omega
  rcases a with a | a | a | a | a <;> rw [a] <;> assumption
theorem store_five {M : Model} {A : Around} {E : Value → Shared → Prop} {s : Shared} {env : Env} {x : Str} {n : Int} {t : Tok} {Q : Unit → Shared → Prop}
    (h0 : wpAny M A (storeName env x (.int 0 t)) Q E s) (h1 : wpAny M A (storeName env x (.int 1 t)) Q E s) (h2 : wpAny M A (storeName env x (.int 2 t)) Q E s)
    (h3 : wpAny M A (storeName env x (.int 3 t)) Q E s) (h4 : wpAny M A (storeName env x (.int 4 t)) Q E s) : wpAny M A (storeName env x (.int (Int.fmod n 5) t)) Q E s :=
  fmod_five (P := fun j => wpAny M A (storeName env x (.int j t)) Q E s) h0 h1 h2 h3 h4

theorem entry_index : entryFor table "_operator.index" = some Builtin.«_operator.index» := entryFor_of_tree (by kernel_rfl)
theorem kind_index : builtinKind "_operator.index" = none := by kernel_rfl
theorem plain_index : plainId "_operator.index" = true := by decide +kernel
theorem args_index (a : Value) : argsOk "_operator.index" ⟨[a], []⟩ := by unfold argsOk; kernel_rfl
theorem run_index (i : Int) (t : Tok) : Gives (Builtin.«_operator.index» ⟨[.int i t], []⟩) (.val (.int i t)) :=
  .of_wp fun M A E s Q h => by obtain ⟨hp, g, d, tk, os⟩ := s; wp_walk; exact ⟨_, rfl, h⟩
theorem call_index {prog : Program} {w : World} {A : Around} {E : Value → Shared → Prop} {s : Shared} {Q : Value → Shared → Prop} {i : Int} {t : Tok} (h : Q (.int i t) s) :
    wpAny (model prog w) A (call (.builtin "_operator.index") [.int i t]) Q E s :=
  call_function_meets kind_index plain_index entry_index (args_index _) (run_index i t).meets h

/-- a caught exception and its arguments, laid into the frame's own ledger -/
theorem got_in {h₀ h : Heap} {L e t : Addr} {news₂ news : List (Addr × Obj)} {cls : Value} {vs : List Value} (N₂ : News h₀ L h news₂) (G : Got news₂ e t cls vs) (N : News h₀ L h news) :
    ∃ (oe ot : Obj) (ws : Array Value) (nt : Nat), News h₀ L h ((e, oe) :: (t, ot) :: news) ∧ (oe.cls = cls ∧ oe.data = .fields ws ∧ ws[0]? = some (.ref t)) ∧ (ot.cls = .type "tuple" ∧ ot.data = .seq vs.toArray nt) := by
  obtain ⟨oe, ot, ws, nt, h1, h2, a1, a2, a3, b1, b2⟩ := G
  refine ⟨oe, ot, ws, nt, fun p hp => ?_, ⟨a1, a2, a3⟩, b1, b2⟩
  rcases List.mem_cons.mp hp with rfl | hp
  · exact N₂ _ h1
  rcases List.mem_cons.mp hp with rfl | hp
  · exact N₂ _ h2
  exact N _ hp
section
variable {prog : Program} {w : World} {A : Around} {E : Value → Shared → Prop} {s : Shared} {h₀ : Heap} {L D e t : Addr} {m : Str → Option Value} {news : List (Addr × Obj)} {oe ot : Obj} {ws : Array Value} {nt nn : Nat} {its vs zs : List Value} {Q : Value → Shared → Prop}
theorem args_in {p : Addr × Obj} (N : News h₀ L s.heap (p :: (e, oe) :: (t, ot) :: news)) (a : oe.cls = .type "ValueError" ∧ oe.data = .fields ws ∧ ws[0]? = some (.ref t))
    (h : Q (.ref t) { s with toks := s.toks + 1 }) : wpAny (model prog w) A (getAttr (.ref e) "args" true) Q E s := by
  obtain ⟨hp, g, d, tk, os⟩ := s
  exact args_attr PySem.F.attr_ValueError (N.get (.tail _ (.head _))) a.1 a.2.1 a.2.2 h
theorem add_told (F : Fr h₀ L s.heap m) (N : News h₀ L s.heap ((D, ({ cls := .type "tuple", data := .seq its.toArray nn } : Obj)) :: (e, oe) :: (t, ot) :: news)) (b : ot.cls = .type "tuple" ∧ ot.data = .seq vs.toArray nt)
    (hv : its ≠ []) (hw : vs ≠ []) (hz : its.length + vs.length ≤ 16384) (ez : its ++ vs = zs)
    (h : ∀ D' h', Fr h₀ L h' m → News h₀ L h' ((D', ({ cls := .type "tuple", data := .seq zs.toArray } : Obj)) :: news) → (∀ p ∈ news, p.1 < D') → Q (.ref D') { s with heap := h' }) :
    wpAny (model prog w) A (binaryOp .Add (.ref D) (.ref t)) Q E s := by
  refine kde_addT (its := its.toArray) (its2 := vs.toArray) F N ⟨_, (N _ (.head _)).1, rfl, nn, rfl⟩ ⟨_, (N _ (.tail _ (.tail _ (.head _)))).1, b.1, nt, b.2⟩ (by simpa using hv) (by simpa using hw) (by simpa using hz) (by simpa using ez) fun D' h' F' N' l => ?_
  refine h D' h' F' (fun p hp => ?_) fun p hp => l p (.tail _ (.tail _ (.tail _ hp)))
  rcases List.mem_cons.mp hp with rfl | hp
  · exact N' _ (.head _)
  · exact N' _ (.tail _ (.tail _ (.tail _ (.tail _ hp))))
end

theorem drop1 {h₀ h : Heap} {L : Addr} {q p : Addr × Obj} {news : List (Addr × Obj)} (N : News h₀ L h (q :: p :: news)) : News h₀ L h (q :: news) := fun r hr => by
  rcases List.mem_cons.mp hr with rfl | hr
  · exact N _ (.head _)
  · exact N _ (.tail _ (.tail _ hr))
theorem fold_in {v : Int} (h : ([0, 1].any fun x => x == v) = true) : v = 0 ∨ v = 1 := by
  simp only [List.any_cons, List.any_nil, Bool.or_false, Bool.or_eq_true, beq_iff_eq] at h
  omega
theorem fold_out {v : Int} (h : ([0, 1].any fun x => x == v) = false) : ¬(v = 0 ∨ v = 1) := by
  simp only [List.any_cons, List.any_nil, Bool.or_false, Bool.or_eq_false_iff, beq_eq_false_iff_ne] at h
  omega

/-- a comprehension's test came out false and touched nothing but the token count -/
def TestNo (s₀ : Shared) (ok : Bool) (s' : Shared) : Prop := ok = false ∧ ∃ tk, s' = { s₀ with toks := tk }
section
variable {prog : Program} {w : World} {A : Around} {E : Value → Shared → Prop} {s : Shared} {h₀ : Heap} {L : Addr} {m : Str → Option Value} {env : Env}
abbrev NoAt (prog : Program) (w : World) (A : Around) (h₀ : Heap) (L : Addr) (m : Str → Option Value) (env : Env) (ct : Expr) (x : Str) (scope : Scope) (cl : List (Str × Addr)) (news : List (Addr × Obj)) (s₁ : Shared) : Prop :=
  ∀ (n : Int) (t : Tok) (C : Addr) (oC : Obj) (m₂ : Str → Option Value) (h : Heap) (tk : Nat), LCg.NsObj oC m₂ → m₂ x = some (.int n t) → Fr h₀ L h m → News h₀ L h ((C, oC) :: news) →
    wpAny (model prog w) A (isTrue ct (compEnvC scope cl C env) (eval ct (compEnvC scope cl C env))) (TestNo { s₁ with heap := h, toks := tk }) (fun _ _ => False) { s₁ with heap := h, toks := tk }
theorem rest_none {ct elt : Expr} {x : Str} {scope : Scope} {cl : List (Str × Addr)} {S : List (Addr × Obj) → Prop} {P : Nat → Value → Prop} {Fin : List Value → List (Addr × Obj) → Prop} {news : List (Addr × Obj)}
    (hP : ∀ i v, P i v → ∃ (n : Int) (t : Tok), v = .int n t) (hS : S news) (test : NoAt prog w A h₀ L m env ct x scope cl news s) (hF : Fin [] news) :
    ∀ k i, LCt.CompRestT prog w A h₀ L m env ct elt x scope cl s S P Fin k i [] news
  | 0, _ => hF
  | k + 1, i => by
    refine LCt.CompRestT.succ ?_
    intro v I oI C oC D m₂ h tk E' hv hC hx F N off _
    obtain ⟨n, t, rfl⟩ := hP _ _ hv
    refine wpAny_mono (test n t C oC m₂ h tk hC hx F (fun p hp => ?_)) (fun ok s' hq => ?_) fun _ _ q => q.elim
    · rcases List.mem_cons.mp hp with rfl | hp
      · exact N _ (.tail _ (.head _))
      · exact N _ (.tail _ (.tail _ (.tail _ hp)))
    · obtain ⟨rfl, tk', rfl⟩ := hq
      simp only [Bool.false_eq_true, if_false]
      exact ⟨h, tk', news, rfl, F, N, off, hS, rest_none hP hS test hF k (i + 1)⟩
def SrcNo (prog : Program) (w : World) (A : Around) (h₀ : Heap) (L : Addr) (m : Str → Option Value) (env : Env) (ct : Expr) (x : Str) (scope : Scope) (cl : List (Str × Addr)) (Q : Value → Shared → Prop) (xv : Value) (s₁ : Shared) : Prop :=
  ∃ (ax : Addr) (its : Array Value) (k : Nat) (news : List (Addr × Obj)), xv = .ref ax ∧ A.handled = none ∧ Fr h₀ L s₁.heap m ∧ News h₀ L s₁.heap news ∧ (ax, ({ cls := .type "tuple", data := .seq its k } : Obj)) ∈ news ∧ its.size ≤ sizeLine ∧
    (∀ v ∈ its.toList, ∃ (n : Int) (t : Tok), v = .int n t) ∧ NoAt prog w A h₀ L m env ct x scope cl news s₁ ∧
    (∀ D h tk, Fr h₀ L h m → News h₀ L h ((D, LCg.lst []) :: news) → Q (.ref D) { s₁ with heap := h, toks := tk })
theorem SrcNo.intro {ct : Expr} {x : Str} {scope : Scope} {cl : List (Str × Addr)} {Q : Value → Shared → Prop} {s₁ : Shared} {ax : Addr} {its : Array Value} {k : Nat} {news : List (Addr × Obj)} (hh : A.handled = none) (F : Fr h₀ L s₁.heap m) (N : News h₀ L s₁.heap news)
    (hm : (ax, ({ cls := .type "tuple", data := .seq its k } : Obj)) ∈ news) (hz : its.size ≤ sizeLine) (hi : ∀ v ∈ its.toList, ∃ (n : Int) (t : Tok), v = .int n t) (test : NoAt prog w A h₀ L m env ct x scope cl news s₁)
    (h : ∀ D h tk, Fr h₀ L h m → News h₀ L h ((D, LCg.lst []) :: news) → Q (.ref D) { s₁ with heap := h, toks := tk }) : SrcNo prog w A h₀ L m env ct x scope cl Q (.ref ax) s₁ :=
  ⟨ax, its, k, news, rfl, hh, F, N, hm, hz, hi, test, h⟩
/-- a list comprehension over a tuple of ints whose one test is false at each: the empty list -/
theorem comp_none {ct elt iter : Expr} {x : Str} {px : Pos} {scope : Scope} {cl : List (Str × Addr)} {pos : Pos} {Q : Value → Shared → Prop} (_ : Fr h₀ L s.heap m)
    (hclos : closureFor scope env = pure cl) (hcell : ∀ y ∈ scope.names, y.2 ≠ .cell) (hkind : scope.kind = .function)
    (hnames : ∀ y ∈ scope.names, y.2 = .local → scope.names.lookup y.1 = some .local) (hx : scope.names.lookup x = some .local)
    (h : wpAny (model prog w) A (eval iter env) (SrcNo prog w A h₀ L m env ct x scope cl Q) E s)
    (hs : ∀ x, foldedSetIterable iter env x = pure x := by intro _; rfl) :
    wpAny (model prog w) A (eval (.ListComp elt [⟨.Name x px, iter, [ct], 0⟩] scope pos) env) Q E s := by
  rw [eval_ListComp]
  refine wpAny_comprehension_free (use := none) rfl hs hclos hkind hnames (wpAny_mono h (fun xv s₁ h₁ => ?_) fun _ _ e => e)
  obtain ⟨ax, its, k, news, rfl, hh, F, N, hm, hz, hi, test, hq⟩ := h₁
  have hax := (N _ hm).1
  have hl : s₁.heap.IsTuple ax its := ⟨_, hax, rfl, k, rfl⟩
  have hlt : ax < s₁.heap.objs.size := Heap.lt_size hax
  refine wpAny_pyIter_tuple hl ?_
  have up : ∀ b o, s₁.heap.get? b = some o → (s₁.heap.push { cls := .type "tuple_iterator", data := .fields #[.ref ax, .int 0 0] }).get? b = some o := fun b o e => Heap.get?_push_of_some _ e
  refine LCt.block_T (S := fun nw => (ax, ({ cls := .type "tuple", data := .seq its k } : Obj)) ∈ nw) (Fin := LCg.FinE h₀ L m s₁ Q) (Walks.tuple hh s₁.heap.objs.size ax (Nat.ne_of_lt hlt) its) hz (fun i h st => by obtain ⟨o, e, _⟩ := st.1; exact ⟨o, e⟩)
    (fun i h h' o nw st e e' kp Nw hS => ⟨by obtain ⟨o', q, r⟩ := st.1; rw [e] at q; cases q; exact ⟨o, e', r⟩, ⟨_, (Nw _ hS).1, rfl, k, rfl⟩⟩) hcell hkind hx ⟨⟨_, Heap.get?_push_size _ rfl, rfl, rfl⟩, hl.push _⟩ (fun b hb => ?_)
    (F.keeps up) (N.grown up) (Nat.ne_of_lt F.ns.lt) (next_is_new F) (fun p hp => Nat.ne_of_lt (Heap.lt_size (N p hp).1)) hm
    ?_ ?_
  · show b < (s₁.heap.push _).objs.size
    rw [Heap.size_push]
    rcases List.mem_cons.mp hb with rfl | hb
    · exact Nat.lt_succ_self _
    · rw [List.mem_singleton.mp hb]; exact Nat.lt_succ_of_lt hlt
  · exact rest_none (s := { s₁ with heap := s₁.heap.push { cls := .type "tuple_iterator", data := .fields #[.ref ax, .int 0 0] } }) (S := fun nw => (ax, ({ cls := .type "tuple", data := .seq its k } : Obj)) ∈ nw) (P := fun i v => its[i]? = some v) (Fin := LCg.FinE h₀ L m s₁ Q) (fun i v hp => hi v (Array.mem_toList_iff.mpr (Array.mem_of_getElem? hp))) hm (fun n t C oC m₂ h tk a b c d => test n t C oC m₂ h tk a b c d) (fun D h tk F' N' _ => hq D h tk F' N') _ _
  · intro D C h tk m' ys news' F' N' o1 hn hC₀ hD₀ hCL hDL hCD offC fin
    refine ⟨m', hn, fun h'' hs'' => fin D h'' tk (F'.change hs'' hCL hC₀) (fun p hp => ?_) o1⟩
    refine ⟨hs''.extBut _ _ ?_ (N' p hp).1, (N' p hp).2⟩
    rcases List.mem_cons.mp hp with rfl | hp
    · exact Ne.symm hCD
    · exact offC p hp
end

/-- the five fields of a clock, as letters within their ranges -/
theorem clock_in {M : Model} {A : Around} {E : Value → Shared → Prop} {α : Type} {s : Shared} {r : Sem α} {Q : α → Shared → Prop} {h₀ : Heap} {L D : Addr} {n : Int} {t1 t2 t3 t4 t5 : Tok} {k : Nat} {p1 p2 p3 : Addr × Obj} {news : List (Addr × Obj)}
    (N : News h₀ L s.heap ((D, W.listOf #[.int ((n.fmod 86400000000).fdiv 3600000000) t1, .int (((n.fmod 86400000000).fdiv 60000000).fmod 60) t2, .int (((n.fmod 86400000000).fdiv 1000000).fmod 60) t3, .int ((n.fmod 86400000000).fmod 1000000) t4, .int ((n.fdiv 86400000000).fmod 2) t5] k) :: p1 :: p2 :: p3 :: news))
    (h : ∀ a b c d e : Int, 0 ≤ a → a ≤ 23 → 0 ≤ b → b ≤ 59 → 0 ≤ c → c ≤ 59 → 0 ≤ d → d ≤ 999999 → (e = 0 ∨ e = 1) → News h₀ L s.heap ((D, W.listOf #[.int a t1, .int b t2, .int c t3, .int d t4, .int e t5] k) :: news) → wpAny M A r Q E s) : wpAny M A r Q E s := by
  have e0 : n.fmod 86400000000 = n % 86400000000 := Int.fmod_eq_emod_of_nonneg n (by decide)
  have e1 : (n.fmod 86400000000).fdiv 3600000000 = (n.fmod 86400000000) / 3600000000 := Int.fdiv_eq_ediv_of_nonneg _ (by decide)
  have e2 : ((n.fmod 86400000000).fdiv 60000000).fmod 60 = ((n.fmod 86400000000).fdiv 60000000) % 60 := Int.fmod_eq_emod_of_nonneg _ (by decide)
  have e3 : ((n.fmod 86400000000).fdiv 1000000).fmod 60 = ((n.fmod 86400000000).fdiv 1000000) % 60 := Int.fmod_eq_emod_of_nonneg _ (by decide)
  have e4 : (n.fmod 86400000000).fmod 1000000 = (n.fmod 86400000000) % 1000000 := Int.fmod_eq_emod_of_nonneg _ (by decide)
  have e5 : (n.fdiv 86400000000).fmod 2 = (n.fdiv 86400000000) % 2 := Int.fmod_eq_emod_of_nonneg _ (by decide)
  exact h _ _ _ _ _ (by omega) (by omega) (by omega) (by omega) (by omega) (by omega) (by omega) (by omega) (by omega) (drop1 (drop1 (drop1 N)))

/-- an expression that gives some int, whatever its way -/
def AnyInt (h₀ : Heap) (L : Addr) (m : Str → Option Value) (news : List (Addr × Obj)) (s : Shared) (v : Value) (s' : Shared) : Prop :=
  ∃ (i : Int) (t : Tok) (h' : Heap) (tk : Nat), v = .int i t ∧ s' = { s with heap := h', toks := tk } ∧ Fr h₀ L h' m ∧ News h₀ L h' news
theorem any_int {M : Model} {A : Around} {E : Value → Shared → Prop} {s : Shared} {r : Sem Value} {Q : Value → Shared → Prop} {h₀ : Heap} {L : Addr} {m : Str → Option Value} {news : List (Addr × Obj)} (_ : Fr h₀ L s.heap m) (_ : News h₀ L s.heap news)
    (h1 : wpAny M A r (AnyInt h₀ L m news s) E s) (h2 : ∀ i t h' tk, Fr h₀ L h' m → News h₀ L h' news → Q (.int i t) { s with heap := h', toks := tk }) : wpAny M A r Q E s :=
  wpAny_mono h1 (fun v s' q => by obtain ⟨i, t, h', tk, rfl, rfl, F, N⟩ := q; exact h2 i t h' tk F N) fun _ _ q => q

theorem pick6 {h₀ h : Heap} {L : Addr} {p0 p1 p2 p3 p4 p5 : Addr × Obj} (N : News h₀ L h [p0, p1, p2, p3, p4, p5]) : News h₀ L h [p0, p4, p5] := fun r hr => by
  simp only [List.mem_cons, List.not_mem_nil, or_false] at hr
  rcases hr with rfl | rfl | rfl <;> exact N _ (by simp)
theorem tail4 {h₀ h : Heap} {L : Addr} {p1 p2 p3 p4 : Addr × Obj} {news : List (Addr × Obj)} (N : News h₀ L h (p1 :: p2 :: p3 :: p4 :: news)) : News h₀ L h news :=
  fun r hr => N r (.tail _ (.tail _ (.tail _ (.tail _ hr))))

theorem up1 {q : Addr × Obj} {l l' : List (Addr × Obj)} (h : ∀ p ∈ l, p ∈ l') : ∀ p ∈ l, p ∈ q :: l' := fun p hp => .tail _ (h p hp)
theorem stay_end2 {h₀ : Heap} {x : Str} {stored : List Str} {m₀ : Str → Option Value} {L : Addr} {m' : Str → Option Value} {own news news' : List (Addr × Obj)} {s₁ : Shared} {h' : Heap} {tk : Nat}
    (F : Fr h₀ L h' m') (N : News h₀ L h' news') (hs : ∀ p ∈ news ++ own, p ∈ news') (hr : ∀ z, z ≠ x → stored.contains z = false → m' z = m₀ z) :
    InvEndN h₀ L (StayS news x stored m₀) own (news.map (·.1)) s₁ { s₁ with heap := h', toks := tk } :=
  stay_end F N (fun p hp => hs p (List.mem_append_left _ hp)) (fun p hp => hs p (List.mem_append_right _ hp)) hr
theorem off_name {stored : List Str} {z y : Str} {v e r : Option Value} (h3 : stored.contains z = false) (hy : stored.contains y = true) (h : e = r) : (if z = y then v else e) = r := by
  have hne : z ≠ y := fun q => by rw [q, hy] at h3; cases h3
  rw [if_neg hne]
  exact h
theorem off_contains {stored inner : List Str} {z : Str} {v e r : Option Value} (h3 : stored.contains z = false) (hi : inner.all stored.contains = true) (h : e = r) : (if inner.contains z = true then v else e) = r := by
  have hne : ¬ inner.contains z = true := fun q => by
    have z1 := List.all_eq_true.mp hi z (List.contains_iff_mem.mp q)
    rw [h3] at z1
    cases z1
  rw [if_neg hne]
  exact h
theorem stay_base {stored : List Str} {z x : Str} {v u e : Option Value} (h1 : z ≠ x) (h3 : stored.contains z = false) : (if z = x then v else if stored.contains z = true then u else e) = e := by
  rw [if_neg h1, if_neg (by rw [h3]; exact Bool.false_ne_true)]

set_option maxHeartbeats 8000000 in
open_top hd for PySem.Challenge.rw_dw0044_01
local macro_rules | `(tactic| walk_at "call builtin:_operator.index") => `(tactic| (k_here; (with_reducible show wpAny _ _ (call (Value.builtin "_operator.index") [Value.int _ _]) _ _ _); refine call_index ?_))
local macro_rules | `(tactic| walk_at "subscriptTail Name Constant ref int") => `(tactic| (k_here; (with_reducible show wpAny _ _ (subscriptTail _ _ (Value.ref _) (Value.int _ _)) _ _ _); (with_unfolding_all refine' item_litK ?k1 ?k2 ?k3 ?k4 ?_ ?k6; (case k1 => is_list); (case k2 => decide); (case k3 => decide); (case k4 => rfl); (case k6 => with_unfolding_all rfl); k_whole)))
local macro_rules | `(tactic| walk_at "noteFrame ref") => `(tactic| (k_here; (with_reducible show wpAny _ _ (noteFrame _ _) (fun _ s₂ => wpAny _ _ (setFlight _ none) (fun _ s₃ => wpAny _ _ (handleBy _ _ (ExceptHandler.ExceptHandler (some (Expr.Name ("ValueError" : Str) _)) (some _) _ _ :: _)) _ _ s₃) _ s₂) _ _); k_dflt (refine' caught_SB (T' := "ValueError") ?R ?F ?K ?U ?XB ?TB ?D ?T0 ?ex PyProof.Rows.Boot.«ValueError» ?hn PySem.F.isExc_ValueError PySem.F.notTuple_ValueError ?hs ?_; (case R => assumption); (case F => assumption); (case K => assumption); (case U => assumption); (case XB => assumption); (case TB => assumption); (case D => assumption); (case T0 => first | assumption | exact KtsTurn.refl); (case hs => kts_sub); (case ex => k_is); (case hn => decide); k_whole); intro h' g' n₂ tk' T' F' N₂ G' N' K' X' P' D'; obtain ⟨oe', ot', ws', nt', N₃', a', b'⟩ := got_in N₂ G' N'; clear N₂ N' G'; (try k_lift K'); (try k_sweep)))
local macro_rules | `(tactic| walk_at "getAttr ref") => `(tactic| (k_here; (with_reducible show wpAny _ _ (getAttr (Value.ref _) ("args" : Str) _) _ _ _); k_dflt (refine' args_in ?N ?a ?_; (case N => assumption); (case a => assumption); k_whole)))
local macro_rules | `(tactic| walk_at "binaryOp Add ref ref") => `(tactic| (k_here; (with_reducible show wpAny _ _ (binaryOp Operator.Add (Value.ref _) (Value.ref _)) _ _ _); k_dflt (refine' add_told ?F ?N ?b ?v ?w ?z ?e ?_; (case F => k_asm); (case N => assumption); (case b => assumption); (case v => exact List.cons_ne_nil _ _); (case w => exact List.cons_ne_nil _ _); (case z => exact Nat.le_of_ble_eq_true rfl); (case e => exact rfl); k_whole); intro D' h' F' N' l1; (try k_lt l1); (try k_sweep)))
set_option maxRecDepth 100000 in
set_option maxHeartbeats 8000000 in
theorem told_call {w : World} {h₀ : Heap} {mean : ExcName → Option Value} {mg mb : Str → Option Value} {cn : Str} {cnames : List (Str × NameKind)} {cg cc : Bool} {cmore : List (Str × Const)} {L a : Addr} {ccd : Value} {m : Str → Option Value} {news : List (Addr × Obj)} {s : Shared} {Q E : Value → Shared → Prop} {l : Addr} {x1 x2 x3 x4 x5 : Int} {t1 t2 t3 t4 t5 : Tok} {nn : Nat}
    (F : Fr h₀ L s.heap m) (X : (hd.heap_39 w.params).In h₀) (T : Top hd.view_39 (looseW hd.view_39 []) mean mg mb h₀)
    (N : News h₀ L s.heap ((l, W.listOf #[.int x1 t1, .int x2 t2, .int x3 t3, .int x4 t4, .int x5 t5] nn) :: news))
    (h0 : 0 ≤ x1 → x1 ≤ 23 → 0 ≤ x2 → x2 ≤ 59 → 0 ≤ x3 → x3 ≤ 59 → 0 ≤ x4 → x4 ≤ 999999 → (x5 = 0 ∨ x5 = 1) → ∀ D h' tk', Fr h₀ L h' m → News h₀ L h' ((D, ({ cls := .type "tuple", data := .seq #[.int x1 t1, .int x2 t2, .int x3 t3, .int x4 t4, .int x5 t5] } : Obj)) :: news) → Q (.ref D) { s with heap := h', toks := tk' })
    (h1 : ¬(0 ≤ x1 ∧ x1 ≤ 23) → ∀ D h' tk' (u1 u2 : Tok), Fr h₀ L h' m → News h₀ L h' ((D, ({ cls := .type "tuple", data := .seq #[.str (Str.ofString "raised") u1, .str (Str.ofString "hour must be in 0..23") u2, .int x1 t1] } : Obj)) :: news) → Q (.ref D) { s with heap := h', toks := tk' })
    (h2 : 0 ≤ x1 → x1 ≤ 23 → ¬(0 ≤ x2 ∧ x2 ≤ 59) → ∀ D h' tk' (u1 u2 : Tok), Fr h₀ L h' m → News h₀ L h' ((D, ({ cls := .type "tuple", data := .seq #[.str (Str.ofString "raised") u1, .str (Str.ofString "minute must be in 0..59") u2, .int x2 t2] } : Obj)) :: news) → Q (.ref D) { s with heap := h', toks := tk' })
    (h3 : 0 ≤ x1 → x1 ≤ 23 → 0 ≤ x2 → x2 ≤ 59 → ¬(0 ≤ x3 ∧ x3 ≤ 59) → ∀ D h' tk' (u1 u2 : Tok), Fr h₀ L h' m → News h₀ L h' ((D, ({ cls := .type "tuple", data := .seq #[.str (Str.ofString "raised") u1, .str (Str.ofString "second must be in 0..59") u2, .int x3 t3] } : Obj)) :: news) → Q (.ref D) { s with heap := h', toks := tk' })
    (h4 : 0 ≤ x1 → x1 ≤ 23 → 0 ≤ x2 → x2 ≤ 59 → 0 ≤ x3 → x3 ≤ 59 → ¬(0 ≤ x4 ∧ x4 ≤ 999999) → ∀ D h' tk' (u1 u2 : Tok), Fr h₀ L h' m → News h₀ L h' ((D, ({ cls := .type "tuple", data := .seq #[.str (Str.ofString "raised") u1, .str (Str.ofString "microsecond must be in 0..999999") u2, .int x4 t4] } : Obj)) :: news) → Q (.ref D) { s with heap := h', toks := tk' })
    (h5 : 0 ≤ x1 → x1 ≤ 23 → 0 ≤ x2 → x2 ≤ 59 → 0 ≤ x3 → x3 ≤ 59 → 0 ≤ x4 → x4 ≤ 999999 → ¬(x5 = 0 ∨ x5 = 1) → ∀ D h' tk' (u1 u2 : Tok), Fr h₀ L h' m → News h₀ L h' ((D, ({ cls := .type "tuple", data := .seq #[.str (Str.ofString "raised") u1, .str (Str.ofString "fold must be either 0 or 1") u2, .int x5 t5] } : Obj)) :: news) → Q (.ref D) { s with heap := h', toks := tk' }) :
    wpAny (model PySem.Challenge.rw_dw0044_01.row.prog w) (callerA.deeper (envOf cn { kind := ScopeKind.function, names := cnames, isGenerator := cg, isCoroutine := cc, more := cmore } L a ccd)) (call (Value.ref 53) [Value.ref l]) Q E s := by
  w_strict (revert X; k_fill; intro X; w_top on; have K0 := below_caller h₀; (show wpAny (model _ _) _ (call _ _) _ _ _); k_steps)
  all_goals ((rename Fr _ _ _ _ => fE); (rename News _ _ _ _ => nE); first
    | exact h0 (by assumption) (by assumption) (by assumption) (by assumption) (by assumption) (by assumption) (by assumption) (by assumption) (fold_in (by assumption)) _ _ _ fE (drop1 (drop1 nE))
    | exact h1  (by omega) _ _ _ _ _ fE (drop1 nE)
    | exact h2 (by assumption) (by assumption) (by omega) _ _ _ _ _ fE (drop1 nE)
    | exact h3 (by assumption) (by assumption) (by assumption) (by assumption) (by omega) _ _ _ _ _ fE (drop1 nE)
    | exact h4 (by assumption) (by assumption) (by assumption) (by assumption) (by assumption) (by assumption) (by omega) _ _ _ _ _ fE (drop1 nE)
    | exact h5 (by assumption) (by assumption) (by assumption) (by assumption) (by assumption) (by assumption) (by assumption) (by assumption) (fold_out (by assumption)) _ _ _ _ _ fE (drop1 (drop1 nE)))
theorem into {h₀ h : Heap} {L : Addr} {p : Addr × Obj} {news : List (Addr × Obj)} (N : News h₀ L h news) (hm : p ∈ news) : News h₀ L h (p :: news) := fun r hr => by
  rcases List.mem_cons.mp hr with rfl | hr
  · exact N _ hm
  · exact N _ hr
theorem told_0 {w : World} {h₀ : Heap} {mean : ExcName → Option Value} {mg mb : Str → Option Value} {cn : Str} {cnames : List (Str × NameKind)} {cg cc : Bool} {cmore : List (Str × Const)} {L a : Addr} {ccd : Value} {m : Str → Option Value} {news : List (Addr × Obj)} {s : Shared} {Q E : Value → Shared → Prop} {l : Addr} {x1 x2 x3 x4 x5 : Int} {t1 t2 t3 t4 t5 : Tok} {nn : Nat}
    (F : Fr h₀ L s.heap m) (X : (hd.heap_39 w.params).In h₀) (T : Top hd.view_39 (looseW hd.view_39 []) mean mg mb h₀) (N : News h₀ L s.heap news) (hm : (l, W.listOf #[.int x1 t1, .int x2 t2, .int x3 t3, .int x4 t4, .int x5 t5] nn) ∈ news)
    (c0 : 0 ≤ x1) (c1 : x1 ≤ 23) (c2 : 0 ≤ x2) (c3 : x2 ≤ 59) (c4 : 0 ≤ x3) (c5 : x3 ≤ 59) (c6 : 0 ≤ x4) (c7 : x4 ≤ 999999) (c8 : (x5 = 0 ∨ x5 = 1))
    (h : ∀ D h' tk', Fr h₀ L h' m → News h₀ L h' ((D, ({ cls := .type "tuple", data := .seq #[.int x1 t1, .int x2 t2, .int x3 t3, .int x4 t4, .int x5 t5] } : Obj)) :: news) → Q (.ref D) { s with heap := h', toks := tk' }) :
    wpAny (model PySem.Challenge.rw_dw0044_01.row.prog w) (callerA.deeper (envOf cn { kind := ScopeKind.function, names := cnames, isGenerator := cg, isCoroutine := cc, more := cmore } L a ccd)) (call (Value.ref 53) [Value.ref l]) Q E s :=
  told_call F X T (into N hm) (fun _ _ _ _ _ _ _ _ _ => h) (fun d0 => by exfalso; omega) (fun d0 d1 d2 => by exfalso; omega) (fun d0 d1 d2 d3 d4 => by exfalso; omega) (fun d0 d1 d2 d3 d4 d5 d6 => by exfalso; omega) (fun d0 d1 d2 d3 d4 d5 d6 d7 d8 => by exfalso; omega)
theorem told_1 {w : World} {h₀ : Heap} {mean : ExcName → Option Value} {mg mb : Str → Option Value} {cn : Str} {cnames : List (Str × NameKind)} {cg cc : Bool} {cmore : List (Str × Const)} {L a : Addr} {ccd : Value} {m : Str → Option Value} {news : List (Addr × Obj)} {s : Shared} {Q E : Value → Shared → Prop} {l : Addr} {x1 x2 x3 x4 x5 : Int} {t1 t2 t3 t4 t5 : Tok} {nn : Nat}
    (F : Fr h₀ L s.heap m) (X : (hd.heap_39 w.params).In h₀) (T : Top hd.view_39 (looseW hd.view_39 []) mean mg mb h₀) (N : News h₀ L s.heap news) (hm : (l, W.listOf #[.int x1 t1, .int x2 t2, .int x3 t3, .int x4 t4, .int x5 t5] nn) ∈ news)
    (c0 : ¬(0 ≤ x1 ∧ x1 ≤ 23))
    (h : ∀ D h' tk' (u1 u2 : Tok), Fr h₀ L h' m → News h₀ L h' ((D, ({ cls := .type "tuple", data := .seq #[.str (Str.ofString "raised") u1, .str (Str.ofString "hour must be in 0..23") u2, .int x1 t1] } : Obj)) :: news) → Q (.ref D) { s with heap := h', toks := tk' }) :
    wpAny (model PySem.Challenge.rw_dw0044_01.row.prog w) (callerA.deeper (envOf cn { kind := ScopeKind.function, names := cnames, isGenerator := cg, isCoroutine := cc, more := cmore } L a ccd)) (call (Value.ref 53) [Value.ref l]) Q E s :=
  told_call F X T (into N hm) (fun d0 d1 d2 d3 d4 d5 d6 d7 d8 => by exfalso; omega) (fun _ => h) (fun d0 d1 d2 => by exfalso; omega) (fun d0 d1 d2 d3 d4 => by exfalso; omega) (fun d0 d1 d2 d3 d4 d5 d6 => by exfalso; omega) (fun d0 d1 d2 d3 d4 d5 d6 d7 d8 => by exfalso; omega)
theorem told_2 {w : World} {h₀ : Heap} {mean : ExcName → Option Value} {mg mb : Str → Option Value} {cn : Str} {cnames : List (Str × NameKind)} {cg cc : Bool} {cmore : List (Str × Const)} {L a : Addr} {ccd : Value} {m : Str → Option Value} {news : List (Addr × Obj)} {s : Shared} {Q E : Value → Shared → Prop} {l : Addr} {x1 x2 x3 x4 x5 : Int} {t1 t2 t3 t4 t5 : Tok} {nn : Nat}
    (F : Fr h₀ L s.heap m) (X : (hd.heap_39 w.params).In h₀) (T : Top hd.view_39 (looseW hd.view_39 []) mean mg mb h₀) (N : News h₀ L s.heap news) (hm : (l, W.listOf #[.int x1 t1, .int x2 t2, .int x3 t3, .int x4 t4, .int x5 t5] nn) ∈ news)
    (c0 : 0 ≤ x1) (c1 : x1 ≤ 23) (c2 : ¬(0 ≤ x2 ∧ x2 ≤ 59))
    (h : ∀ D h' tk' (u1 u2 : Tok), Fr h₀ L h' m → News h₀ L h' ((D, ({ cls := .type "tuple", data := .seq #[.str (Str.ofString "raised") u1, .str (Str.ofString "minute must be in 0..59") u2, .int x2 t2] } : Obj)) :: news) → Q (.ref D) { s with heap := h', toks := tk' }) :
    wpAny (model PySem.Challenge.rw_dw0044_01.row.prog w) (callerA.deeper (envOf cn { kind := ScopeKind.function, names := cnames, isGenerator := cg, isCoroutine := cc, more := cmore } L a ccd)) (call (Value.ref 53) [Value.ref l]) Q E s :=
  told_call F X T (into N hm) (fun d0 d1 d2 d3 d4 d5 d6 d7 d8 => by exfalso; omega) (fun d0 => by exfalso; omega) (fun _ _ _ => h) (fun d0 d1 d2 d3 d4 => by exfalso; omega) (fun d0 d1 d2 d3 d4 d5 d6 => by exfalso; omega) (fun d0 d1 d2 d3 d4 d5 d6 d7 d8 => by exfalso; omega)
theorem told_3 {w : World} {h₀ : Heap} {mean : ExcName → Option Value} {mg mb : Str → Option Value} {cn : Str} {cnames : List (Str × NameKind)} {cg cc : Bool} {cmore : List (Str × Const)} {L a : Addr} {ccd : Value} {m : Str → Option Value} {news : List (Addr × Obj)} {s : Shared} {Q E : Value → Shared → Prop} {l : Addr} {x1 x2 x3 x4 x5 : Int} {t1 t2 t3 t4 t5 : Tok} {nn : Nat}
    (F : Fr h₀ L s.heap m) (X : (hd.heap_39 w.params).In h₀) (T : Top hd.view_39 (looseW hd.view_39 []) mean mg mb h₀) (N : News h₀ L s.heap news) (hm : (l, W.listOf #[.int x1 t1, .int x2 t2, .int x3 t3, .int x4 t4, .int x5 t5] nn) ∈ news)
    (c0 : 0 ≤ x1) (c1 : x1 ≤ 23) (c2 : 0 ≤ x2) (c3 : x2 ≤ 59) (c4 : ¬(0 ≤ x3 ∧ x3 ≤ 59))
    (h : ∀ D h' tk' (u1 u2 : Tok), Fr h₀ L h' m → News h₀ L h' ((D, ({ cls := .type "tuple", data := .seq #[.str (Str.ofString "raised") u1, .str (Str.ofString "second must be in 0..59") u2, .int x3 t3] } : Obj)) :: news) → Q (.ref D) { s with heap := h', toks := tk' }) :
    wpAny (model PySem.Challenge.rw_dw0044_01.row.prog w) (callerA.deeper (envOf cn { kind := ScopeKind.function, names := cnames, isGenerator := cg, isCoroutine := cc, more := cmore } L a ccd)) (call (Value.ref 53) [Value.ref l]) Q E s :=
  told_call F X T (into N hm) (fun d0 d1 d2 d3 d4 d5 d6 d7 d8 => by exfalso; omega) (fun d0 => by exfalso; omega) (fun d0 d1 d2 => by exfalso; omega) (fun _ _ _ _ _ => h) (fun d0 d1 d2 d3 d4 d5 d6 => by exfalso; omega) (fun d0 d1 d2 d3 d4 d5 d6 d7 d8 => by exfalso; omega)
theorem told_4 {w : World} {h₀ : Heap} {mean : ExcName → Option Value} {mg mb : Str → Option Value} {cn : Str} {cnames : List (Str × NameKind)} {cg cc : Bool} {cmore : List (Str × Const)} {L a : Addr} {ccd : Value} {m : Str → Option Value} {news : List (Addr × Obj)} {s : Shared} {Q E : Value → Shared → Prop} {l : Addr} {x1 x2 x3 x4 x5 : Int} {t1 t2 t3 t4 t5 : Tok} {nn : Nat}
    (F : Fr h₀ L s.heap m) (X : (hd.heap_39 w.params).In h₀) (T : Top hd.view_39 (looseW hd.view_39 []) mean mg mb h₀) (N : News h₀ L s.heap news) (hm : (l, W.listOf #[.int x1 t1, .int x2 t2, .int x3 t3, .int x4 t4, .int x5 t5] nn) ∈ news)
    (c0 : 0 ≤ x1) (c1 : x1 ≤ 23) (c2 : 0 ≤ x2) (c3 : x2 ≤ 59) (c4 : 0 ≤ x3) (c5 : x3 ≤ 59) (c6 : ¬(0 ≤ x4 ∧ x4 ≤ 999999))
    (h : ∀ D h' tk' (u1 u2 : Tok), Fr h₀ L h' m → News h₀ L h' ((D, ({ cls := .type "tuple", data := .seq #[.str (Str.ofString "raised") u1, .str (Str.ofString "microsecond must be in 0..999999") u2, .int x4 t4] } : Obj)) :: news) → Q (.ref D) { s with heap := h', toks := tk' }) :
    wpAny (model PySem.Challenge.rw_dw0044_01.row.prog w) (callerA.deeper (envOf cn { kind := ScopeKind.function, names := cnames, isGenerator := cg, isCoroutine := cc, more := cmore } L a ccd)) (call (Value.ref 53) [Value.ref l]) Q E s :=
  told_call F X T (into N hm) (fun d0 d1 d2 d3 d4 d5 d6 d7 d8 => by exfalso; omega) (fun d0 => by exfalso; omega) (fun d0 d1 d2 => by exfalso; omega) (fun d0 d1 d2 d3 d4 => by exfalso; omega) (fun _ _ _ _ _ _ _ => h) (fun d0 d1 d2 d3 d4 d5 d6 d7 d8 => by exfalso; omega)
theorem told_5 {w : World} {h₀ : Heap} {mean : ExcName → Option Value} {mg mb : Str → Option Value} {cn : Str} {cnames : List (Str × NameKind)} {cg cc : Bool} {cmore : List (Str × Const)} {L a : Addr} {ccd : Value} {m : Str → Option Value} {news : List (Addr × Obj)} {s : Shared} {Q E : Value → Shared → Prop} {l : Addr} {x1 x2 x3 x4 x5 : Int} {t1 t2 t3 t4 t5 : Tok} {nn : Nat}
    (F : Fr h₀ L s.heap m) (X : (hd.heap_39 w.params).In h₀) (T : Top hd.view_39 (looseW hd.view_39 []) mean mg mb h₀) (N : News h₀ L s.heap news) (hm : (l, W.listOf #[.int x1 t1, .int x2 t2, .int x3 t3, .int x4 t4, .int x5 t5] nn) ∈ news)
    (c0 : 0 ≤ x1) (c1 : x1 ≤ 23) (c2 : 0 ≤ x2) (c3 : x2 ≤ 59) (c4 : 0 ≤ x3) (c5 : x3 ≤ 59) (c6 : 0 ≤ x4) (c7 : x4 ≤ 999999) (c8 : ¬(x5 = 0 ∨ x5 = 1))
    (h : ∀ D h' tk' (u1 u2 : Tok), Fr h₀ L h' m → News h₀ L h' ((D, ({ cls := .type "tuple", data := .seq #[.str (Str.ofString "raised") u1, .str (Str.ofString "fold must be either 0 or 1") u2, .int x5 t5] } : Obj)) :: news) → Q (.ref D) { s with heap := h', toks := tk' }) :
    wpAny (model PySem.Challenge.rw_dw0044_01.row.prog w) (callerA.deeper (envOf cn { kind := ScopeKind.function, names := cnames, isGenerator := cg, isCoroutine := cc, more := cmore } L a ccd)) (call (Value.ref 53) [Value.ref l]) Q E s :=
  told_call F X T (into N hm) (fun d0 d1 d2 d3 d4 d5 d6 d7 d8 => by exfalso; omega) (fun d0 => by exfalso; omega) (fun d0 d1 d2 => by exfalso; omega) (fun d0 d1 d2 d3 d4 => by exfalso; omega) (fun d0 d1 d2 d3 d4 d5 d6 => by exfalso; omega) (fun _ _ _ _ _ _ _ _ _ => h)
local macro_rules | `(tactic| walk_at "inplaceOp Add ref ref") => `(tactic| (k_here; (with_reducible show wpAny _ _ (inplaceOp Operator.Add (Value.ref _) (Value.ref _)) _ _ _); k_dflt (refine' iadd_list ?F ?N ?b ?e ?ne ?U ?d ?z ?y ?_; (case F => k_asm); (case N => k_asm); (case b => k_mem); (case U => k_upd); (case e => kl_lit); (case ne => kl_some); (case d => kl_no); (case z => kl_room); (case y => kl_room)); kl_rest))
local macro_rules | `(tactic| walk_at "eval IfExp") => `(tactic| (k_here; (fail_if_success (with_reducible show wpAny _ _ _ (AnyInt _ _ _ _ _) _ _)); (rename Fr _ _ _ _ => fE'); (rename News _ _ _ _ => nE'); refine any_int fE' nE' ?_ ?_; rotate_left; (clear fE' nE'; intro i' t' h' tk' F' N'); rotate_right))
local macro_rules | `(tactic| walk_at "AnyInt") => `(tactic| exact ⟨_, _, _, _, rfl, rfl, by assumption, by assumption⟩)
local macro_rules | `(tactic| walk_at "exec For Name BinOp cons nil") => `(tactic| (k_here; (rename Fr _ _ _ _ => lF'); (with_unfolding_all refine' For_invVF lF' ?k1 ?k2 ?_; (case k1 => exact rfl); (case k2 => exact rfl); k_whole)))
local macro_rules | `(tactic| walk_at "exec For Name Tuple cons nil") => `(tactic| (k_here; (rename Fr _ _ _ _ => lF'); (with_unfolding_all refine' For_invVF lF' ?k1 ?k2 ?_; (case k1 => exact rfl); (case k2 => exact rfl); k_whole)))
local macro_rules | `(tactic| walk_at "pyIter ref") => `(tactic| ((with_reducible show wpAny _ _ (pyIter (Value.ref _)) (fun it s₂ => LoopAtV _ _ _ _ _ _ _ _ _ it s₂) _ _); k_here; (rename Fr _ _ _ _ => lF'); (rename News _ _ _ _ => lN'); (first
  | (with_unfolding_all refine' stay_tup [Str.ofString "one", Str.ofString "more", Str.ofString "due"] (by rfl) lF' lN' (by k_all) (by (intro v9 h9; simp only [List.mem_cons, List.not_mem_nil, or_false] at h9; rcases h9 with rfl | rfl | rfl | rfl <;> exact ⟨_, _, rfl⟩)) ?_ ?_)
  | (with_unfolding_all refine' stay_list [Str.ofString "fields", Str.ofString "told", Str.ofString "at", Str.ofString "wrong", Str.ofString "one", Str.ofString "more", Str.ofString "due"] (by rfl) (by k_memK) (by assumption) lF' (pick6 lN') ?_ ?_)); (all_goals (try clear lF' lN')); (rotate_left; (intro u' h' tk' F' N'); rotate_right; (intro n' t' u' h' tk' own' kOff' F' N'; (have kMark := kstMark); (try simp only [List.nil_append, List.cons_append, List.append_nil] at N'); (try simp only [List.map_cons, List.map_nil] at kOff'))); (all_goals (try k_fold))))
local macro_rules | `(tactic| walk_at "InvEndN") => `(tactic| ((rename News _ _ _ _ => nE'); k_dflt (refine' stay_end2 ?hf nE' ?hs ?hr; (case hf => assumption); (case hs => (repeat (first | exact fun p hp => hp | refine up1 ?_))); (case hr => (intro z h1 h3; (try dsimp only); (repeat (first | refine off_name h3 (by decide +kernel) ?_ | refine off_contains h3 (by decide +kernel) ?_)); exact stay_base h1 h3)))))
local macro_rules | `(tactic| walk_at "storeName") => `(tactic| (k_here; (with_reducible show wpAny _ _ (storeName _ (Str.ofString "at") (Value.int (Int.fmod _ 5) _)) _ _ _); (rename News _ _ _ _ => nE'); (have nE2' := tail4 nE'); clear nE'; refine store_five ?_ ?_ ?_ ?_ ?_))
local macro_rules | `(tactic| walk_at "storeName") => `(tactic| (k_here; (with_reducible show wpAny _ _ (storeName _ (Str.ofString "fields") (Value.ref _)) _ _ _); (rename News _ _ _ _ => nE'); k_dflt (refine clock_in nE' ?_); clear nE'; intro a' b' c' d' e' a1' a2' b1' b2' c1' c2' d1' d2' e1' N'))
local macro_rules | `(tactic| walk_at "call ref") => `(tactic| (k_here; (with_reducible show wpAny _ _ (call (Value.ref _) [Value.ref _]) _ _ _); k_dflt (first
  | (refine' told_0 ?F ?X ?T ?N ?m ?c0 ?c1 ?c2 ?c3 ?c4 ?c5 ?c6 ?c7 ?c8 ?_; (case F => k_asm); (case X => k_asm); (case T => k_asm); (case N => k_asm); (case m => k_mem); (case c0 => omega); (case c1 => omega); (case c2 => omega); (case c3 => omega); (case c4 => omega); (case c5 => omega); (case c6 => omega); (case c7 => omega); (case c8 => omega); k_whole; intro D' h' tk' F' N')
  | (refine' told_1 ?F ?X ?T ?N ?m ?c0 ?_; (case F => k_asm); (case X => k_asm); (case T => k_asm); (case N => k_asm); (case m => k_mem); (case c0 => omega); k_whole; intro D' h' tk' u1 u2 F' N')
  | (refine' told_2 ?F ?X ?T ?N ?m ?c0 ?c1 ?c2 ?_; (case F => k_asm); (case X => k_asm); (case T => k_asm); (case N => k_asm); (case m => k_mem); (case c0 => omega); (case c1 => omega); (case c2 => omega); k_whole; intro D' h' tk' u1 u2 F' N')
  | (refine' told_3 ?F ?X ?T ?N ?m ?c0 ?c1 ?c2 ?c3 ?c4 ?_; (case F => k_asm); (case X => k_asm); (case T => k_asm); (case N => k_asm); (case m => k_mem); (case c0 => omega); (case c1 => omega); (case c2 => omega); (case c3 => omega); (case c4 => omega); k_whole; intro D' h' tk' u1 u2 F' N')
  | (refine' told_4 ?F ?X ?T ?N ?m ?c0 ?c1 ?c2 ?c3 ?c4 ?c5 ?c6 ?_; (case F => k_asm); (case X => k_asm); (case T => k_asm); (case N => k_asm); (case m => k_mem); (case c0 => omega); (case c1 => omega); (case c2 => omega); (case c3 => omega); (case c4 => omega); (case c5 => omega); (case c6 => omega); k_whole; intro D' h' tk' u1 u2 F' N')
  | (refine' told_5 ?F ?X ?T ?N ?m ?c0 ?c1 ?c2 ?c3 ?c4 ?c5 ?c6 ?c7 ?c8 ?_; (case F => k_asm); (case X => k_asm); (case T => k_asm); (case N => k_asm); (case m => k_mem); (case c0 => omega); (case c1 => omega); (case c2 => omega); (case c3 => omega); (case c4 => omega); (case c5 => omega); (case c6 => omega); (case c7 => omega); (case c8 => omega); k_whole; intro D' h' tk' u1 u2 F' N'))))
local macro_rules | `(tactic| walk_at "eval ListComp") => `(tactic| (k_here; (rename Fr _ _ _ _ => fE'); k_dflt (refine' comp_none fE' ?k1 ?k2 ?k3 ?k4 ?k5 ?_ ?k6; (case k1 => with_unfolding_all rfl); (case k2 => decide); (case k3 => rfl); (case k4 => decide); (case k5 => rfl); (case k6 => intro _; rfl))))
local macro_rules | `(tactic| walk_at "SrcNo") => `(tactic| (k_here; k_dflt (refine SrcNo.intro (by rfl) (by k_asm) (by k_asm) (by k_mem) (by exact Nat.le_of_ble_eq_true rfl) (by (intro v9 h9; simp only [List.mem_cons, List.not_mem_nil, or_false] at h9; rcases h9 with rfl | rfl | rfl | rfl | rfl <;> exact ⟨_, _, rfl⟩)) ?_ ?_); rotate_left; (intro D' h' tk' F' N'); rotate_right; (intro n' t' C' oC' m' h' tk' hC' hx' F' N')))
local macro_rules | `(tactic| walk_at "TestNo") => `(tactic| exact ⟨rfl, _, rfl⟩)
local macro_rules | `(tactic| walk_at "subscriptTail Name Name ref int") => `(tactic| (k_here; (with_reducible show wpAny _ _ (subscriptTail _ _ (Value.ref _) (Value.int _ _)) _ _ _); (with_unfolding_all refine' item_litK ?k1 ?k2 ?k3 ?k4 ?_ ?k6; (case k1 => is_list); (case k2 => decide); (case k3 => decide); (case k4 => rfl); (case k6 => with_unfolding_all rfl); k_whole)))
set_option maxHeartbeats 8000000 in
theorem walked : PySem.Challenge.rw_dw0044_01.Holds := hd (by w_strict k_go)
end Mine
theorem PySem.Challenge.cw_dw0044_01_holds : PySem.Challenge.rw_dw0044_01.Holds :=
  Mine.walked
