import PyProof.Rows.All
import Wide.All
import OpenK.AllK
import Wide.FinOn
import PySem.Challenge.RW_oc0103_01
open PySem PySem.W PyProof.Rows
set_option Elab.async false
set_option rowWalk.seconds 0
set_option compiler.extract_closed false
namespace Mine
set_option maxRecDepth 100000 in
set_option maxHeartbeats 8000000 in
open_top hd for PySem.Challenge.rw_oc0103_01
def Stop (P : Prop) : Prop := P
theorem Stop.mk {P : Prop} (h : Stop P) : P := h
theorem Stop.out {P : Prop} (h : P) : Stop P := h
end Mine
section PartC0
open PySem PySem.W PyProof.Rows PySem.Calls PySem.Spec
namespace Mine
theorem fill : ∀ (w : World) (h : Heap), (Mine.hd.heap_39 w.params).In h → Challenge.rw_oc0103_01 = Challenge.rw_oc0103_01 := by
  k_fill
  intros; rfl
abbrev PG : Program := Challenge.rw_oc0103_01.row.prog
abbrev tupO (vs : List Value) (n : Nat := 0) : Obj := { cls := .type "tuple", data := .seq vs.toArray n }
abbrev Led := List (Addr × Obj)
/-- what a call of the def at f does: Post says of the ledger before, the value, the ledger behind -/
def Spec (w : World) (f : Addr) (need : Nat) (args : List Value) (Pre : Heap → Led → Prop) (Post : Led → Value → Led → Prop) : Prop :=
  ∀ (p : Program) (loose : List Str) (mean : ExcName → Option Value) (mg mb : Str → Option Value)
    (dp un : Nat) (gd : Option (List Code)) (cn : Str) (cs : Scope) (a : Addr) (ccd : Value) (cl : List (Str × Addr)) (outer : List Env) (A₀ : Around) (base h₀ : Heap) (L : Addr) (m : Str → Option Value) (news : Led) (s : Shared) (Q E : Value → Shared → Prop),
    Below A₀ base outer h₀ → Fr h₀ L s.heap m → (Mine.hd.heap_39 w.params).In h₀ → News h₀ L s.heap news → Top p loose mean mg mb h₀ → cs.kind = .function →
    dp + need < recursionLimit → un + 8 * need + 100 < cLine → Pre h₀ news →
    (∀ r news' h' tk', Fr h₀ L h' m → News h₀ L h' news' → Post news r news' → Q r { s with heap := h', toks := tk' }) →
    wpAny (model PG w) (ktrTop dp un gd cn cs L a ccd cl outer) (call (.ref f) args) Q E s
end Mine
namespace Mine
theorem Spec.use {w : World} {f : Addr} {need : Nat} {args : List Value} {Pre : Heap → Led → Prop} {Post : Led → Value → Led → Prop} (S : Spec w f need args Pre Post)
    {p : Program} {loose : List Str} {mean : ExcName → Option Value} {mg mb : Str → Option Value}
    {dp un : Nat} {gd : Option (List Code)} {cn : Str} {cs : Scope} {a : Addr} {ccd : Value} {cl : List (Str × Addr)} {outer : List Env} {A₀ : Around} {base h₀ : Heap} {L : Addr} {m : Str → Option Value} {news : Led} {s : Shared} {Q E : Value → Shared → Prop}
    (B : Below A₀ base outer h₀) (F : Fr h₀ L s.heap m) (X : (Mine.hd.heap_39 w.params).In h₀) (N : News h₀ L s.heap news) (T : Top p loose mean mg mb h₀) (hk : cs.kind = .function)
    (hd : dp + need < recursionLimit) (hu : un + 8 * need + 100 < cLine) (hpre : Pre h₀ news)
    (hret : ∀ r news' h' tk', Fr h₀ L h' m → News h₀ L h' news' → Post news r news' → Q r { s with heap := h', toks := tk' }) :
    wpAny (model PG w) (ktrTop dp un gd cn cs L a ccd cl outer) (call (.ref f) args) Q E s :=
  S _ _ _ _ _ _ _ _ _ _ _ _ _ _ _ _ _ _ _ _ _ _ _ B F X N T hk hd hu hpre hret
end Mine
end PartC0
section PartM1
open PySem PySem.W PyProof.Rows PySem.Calls PySem.Spec
namespace Mine
def TurnEnd (h₀ : Heap) (L I : Addr) (oI : Obj) (J : (Str → Option Value) → Led → Prop) (s₁ : Shared) (Q : Flow → Shared → Prop) (f : Flow) (s₂ : Shared) : Prop :=
  match f with
  | .ret v => Q (.ret v) s₂
  | .brk => Q .next s₂
  | _ => ∃ h' tk m' led', s₂ = { s₁ with heap := h', toks := tk } ∧ Fr h₀ L h' m' ∧ News h₀ L h' ((I, oI) :: led') ∧ J m' led'
section
variable {prog : Program} {w : World} {A : Around} {E : Value → Shared → Prop} {s s₂ : Shared} {env : Env} {h₀ : Heap} {x : Str} {body : List Stmt} {Q : Flow → Shared → Prop}
theorem loop_led {I : Addr} {ls : List Addr} {n : Nat} {P : Nat → Value → Prop} {St : Nat → Heap → Prop} {m₀ : Str → Option Value} {led₀ : Led} (keepL : Led) (J : Nat → (Str → Option Value) → Led → Prop)
    (W : Walks prog w A I (I :: ls) [I] n P St) (hLf : env.locals ∉ I :: ls) (hI : h₀.get? I = none) (hst : St 0 s₂.heap) (hsI : ∀ i h, St i h → ∃ o, h.get? I = some o)
    (F : Fr h₀ env.locals s₂.heap m₀) (N : News h₀ env.locals s₂.heap led₀) (hj : J 0 m₀ led₀)
    (hk : ∀ b ∈ ls, h₀.get? b = none → ∃ o, (b, o) ∈ keepL)
    (hJ : ∀ i m led, J i m led → (∀ p ∈ led, p.1 ≠ I) ∧ ∀ p ∈ keepL, p ∈ led)
    (turn : ∀ i v m₁ led₁ oI h tk, i < n → P i v → J i m₁ led₁ → Fr h₀ env.locals h (fun y => if y = x then some v else m₁ y) → News h₀ env.locals h ((I, oI) :: led₁) →
      wpAny (model prog w) A (execs body env) (TurnEnd h₀ env.locals I oI (J (i + 1)) { s₂ with heap := h, toks := tk } Q) E { s₂ with heap := h, toks := tk })
    (done : ∀ m₁ led₁ h tk, J n m₁ led₁ → Fr h₀ env.locals h m₁ → News h₀ env.locals h led₁ → Q .next { s₂ with heap := h, toks := tk }) :
    LoopAtV prog w A h₀ env x body Q E (.ref I) s₂ := by
  refine ⟨I, I :: ls, [I], n, P, St, m₀, led₀, J, rfl, W, hLf, ?_, ?_, hst, F, N, hj, ?_, ?_⟩
  · intro b hb; rw [List.mem_singleton.mp hb]; exact hI
  · intro p hp hq; exact (hJ 0 _ _ hj).1 p hp (List.mem_singleton.mp hq)
  · rintro i v m₁ led₁ s₁ own ⟨h, tk, rfl⟩ hin hP hJi hoff hownfp hown hmem hst₁ F₁ N₁
    obtain ⟨oI, hoI⟩ := hsI _ _ hst₁
    have hIown : (I, oI) ∈ own := hmem I (.head _) hI oI hoI
    have N₂ : News h₀ env.locals h ((I, oI) :: led₁) := fun p hp => by
      rcases List.mem_cons.mp hp with rfl | hp
      · exact N₁ _ (List.mem_append_left _ hIown)
      · exact N₁ _ (List.mem_append_right _ hp)
    refine wpAny_mono (turn i v m₁ led₁ oI h tk hin hP hJi F₁ N₂) (fun f s₃ p => ?_) fun _ _ e => e
    have fin : (∃ h' tk' m' led', s₃ = { s₂ with heap := h', toks := tk' } ∧ Fr h₀ env.locals h' m' ∧ News h₀ env.locals h' ((I, oI) :: led') ∧ J (i + 1) m' led') → LoopStepU h₀ env.locals [I] own (J (i + 1)) { s₂ with heap := h, toks := tk } .next s₃ := by
      rintro ⟨h', tk', m', led', rfl, F', N', hJ'⟩
      refine ⟨rfl, h', tk', m', led', rfl, F', fun p hp => ?_, fun p hp hq => (hJ _ _ _ hJ').1 p hp (List.mem_singleton.mp hq), hJ'⟩
      rcases List.mem_append.mp hp with hp | hp
      · have hno := N₁ p (List.mem_append_left _ hp)
        have hget := hown p hp
        rcases List.mem_cons.mp (hownfp p hp) with e | hb
        · obtain ⟨b, o⟩ := p
          dsimp only at e hget
          subst e
          rw [hoI] at hget
          cases hget
          exact N' _ (.head _)
        · obtain ⟨o, hko⟩ := hk p.1 hb hno.2.2
          have hm1 := N₁ (p.1, o) (List.mem_append_right _ ((hJ _ _ _ hJi).2 _ hko))
          have e : p = (p.1, o) := by
            obtain ⟨b, o'⟩ := p
            dsimp only at hget hm1 ⊢
            rw [hm1.1] at hget
            cases hget
            rfl
          rw [e]
          exact N' _ (List.mem_cons_of_mem _ ((hJ _ _ _ hJ').2 _ hko))
      · exact N' p (List.mem_cons_of_mem _ hp)
    cases f with
    | ret v => exact .ret p
    | brk => exact .brk p
    | next => exact .next (fin p)
    | cont => exact .cont (fin p)
  · rintro h' tk m' led' F' N' _ hJ'
    exact done m' led' h' tk hJ' F' N'

/-- a loop over a list of the ledger -/
theorem iter_list {l : Addr} {vs : List Value} {n0 : Nat} {m₀ : Str → Option Value} {led₀ : Led} (J : Nat → (Str → Option Value) → Led → Prop)
    (hh : A.handled = none) (hl : (l, listOf vs.toArray n0) ∈ led₀) (F : Fr h₀ env.locals s.heap m₀) (N : News h₀ env.locals s.heap led₀) (hj : J 0 m₀ led₀)
    (hJ : ∀ i m led, J i m led → (∀ p ∈ led, p.1 ≠ s.heap.objs.size) ∧ (l, listOf vs.toArray n0) ∈ led)
    (turn : ∀ i v m₁ led₁ oI h tk, vs[i]? = some v → J i m₁ led₁ → Fr h₀ env.locals h (fun y => if y = x then some v else m₁ y) → News h₀ env.locals h ((s.heap.objs.size, oI) :: led₁) →
      wpAny (model prog w) A (execs body env) (TurnEnd h₀ env.locals s.heap.objs.size oI (J (i + 1)) { s with heap := h, toks := tk } Q) E { s with heap := h, toks := tk })
    (done : ∀ m₁ led₁ h tk, J vs.length m₁ led₁ → Fr h₀ env.locals h m₁ → News h₀ env.locals h led₁ → Q .next { s with heap := h, toks := tk }) :
    wpAny (model prog w) A (pyIter (.ref l)) (fun it s₂ => LoopAtV prog w A h₀ env x body Q E it s₂) E s := by
  have hls : s.heap.IsList l vs.toArray := ⟨_, (N _ hl).1, rfl, _, rfl⟩
  have hne : l ≠ s.heap.objs.size := Nat.ne_of_lt (Heap.lt_size (N _ hl).1)
  refine wpAny_pyIter_list hls ?_
  have W := Walks.list (prog := prog) (w := w) hh s.heap.objs.size l hne vs.toArray
  have hlen : vs.toArray.size = vs.length := by simp
  rw [hlen] at W
  refine loop_led [(l, listOf vs.toArray n0)] J W ?_ (next_is_new F) ⟨⟨_, Heap.get?_push_size _ rfl, rfl, rfl⟩, hls.at fun o e => Heap.get?_push_of_some _ e⟩ ?_ (F.push _) (fun p hp => ⟨Heap.get?_push_of_some _ (N p hp).1, (N p hp).2⟩) hj ?_ ?_ ?_ ?_
  · intro hm
    rcases List.mem_cons.mp hm with e | hm
    · exact absurd F.ns.lt (e ▸ Nat.lt_irrefl _)
    · exact (N _ hl).2.1 (List.mem_singleton.mp hm).symm
  · rintro i h ⟨⟨o, ho, _⟩, _⟩; exact ⟨o, ho⟩
  · intro b hb _; rw [List.mem_singleton.mp hb]; exact ⟨_, .head _⟩
  · intro i m led hj'; exact ⟨(hJ i m led hj').1, fun p hp => by rw [List.mem_singleton.mp hp]; exact (hJ i m led hj').2⟩
  · intro i v m₁ led₁ oI h tk hin hP hJi F₁ N₁
    exact turn i v m₁ led₁ oI h tk (by simpa using hP) hJi F₁ N₁
  · exact done
end
end Mine
namespace Mine
section
variable {prog : Program} {w : World} {A : Around} {E : Value → Shared → Prop} {s s₂ : Shared} {env : Env} {h₀ : Heap} {x : Str} {body : List Stmt} {Q : Flow → Shared → Prop}
/-- a loop over a list of ints of the ledger -/
theorem iter_ints {l : Addr} {vs : List Value} {ns : List Int} {n0 : Nat} {m₀ : Str → Option Value} {led₀ : Led} (J : Nat → (Str → Option Value) → Led → Prop)
    (hh : A.handled = none) (hl : (l, listOf vs.toArray n0) ∈ led₀) (hi : IntsAre vs ns) (F : Fr h₀ env.locals s.heap m₀) (N : News h₀ env.locals s.heap led₀) (hj : J 0 m₀ led₀)
    (hJ : ∀ i m led, J i m led → (∀ p ∈ led, p.1 ≠ s.heap.objs.size) ∧ (l, listOf vs.toArray n0) ∈ led)
    (turn : ∀ i (n : Int) (t : Tok) m₁ led₁ oI h tk, ns[i]? = some n → J i m₁ led₁ → Fr h₀ env.locals h (fun y => if y = x then some (.int n t) else m₁ y) → News h₀ env.locals h ((s.heap.objs.size, oI) :: led₁) →
      wpAny (model prog w) A (execs body env) (TurnEnd h₀ env.locals s.heap.objs.size oI (J (i + 1)) { s with heap := h, toks := tk } Q) E { s with heap := h, toks := tk })
    (done : ∀ m₁ led₁ h tk, J ns.length m₁ led₁ → Fr h₀ env.locals h m₁ → News h₀ env.locals h led₁ → Q .next { s with heap := h, toks := tk }) :
    wpAny (model prog w) A (pyIter (.ref l)) (fun it s₂ => LoopAtV prog w A h₀ env x body Q E it s₂) E s := by
  refine iter_list J hh hl F N hj hJ ?_ (fun m₁ led₁ h tk hjj => done m₁ led₁ h tk (by rw [← hi.length]; exact hjj))
  intro i v m₁ led₁ oI h tk hv hJi F₁ N₁
  have hlt : i < ns.length := by
    rw [← hi.length]
    exact (List.getElem?_eq_some_iff.mp hv).1
  obtain ⟨t, hx⟩ := hi.get i ns[i] (by simp [hlt])
  rw [hv] at hx
  cases hx
  exact turn i ns[i] t m₁ led₁ oI h tk (by simp [hlt]) hJi F₁ N₁
end
end Mine
namespace Mine
section
variable {prog : Program} {w : World} {A : Around} {E : Value → Shared → Prop} {s s₂ : Shared} {env : Env} {h₀ : Heap} {x : Str} {body : List Stmt} {Q : Flow → Shared → Prop}
theorem range_small {a b : Int} (ha : -1000000 ≤ a) (ha2 : a ≤ 1000000) (hb : -1000000 ≤ b) (hb2 : b ≤ 1000000) : Builtin.Range.small a b 1 = true := by
  simp only [Builtin.Range.small, Builtin.Range.rangeFitsLong, rangeSize_nat, Bool.and_eq_true, decide_eq_true_eq, Bool.or_eq_true, if_pos (show (1 : Int) > 0 by decide)]
  refine ⟨⟨⟨⟨?_, ?_⟩, ?_⟩, ?_⟩, .inr ?_⟩ <;> omega
/-- a loop over range(a, b) -/
theorem iter_range {r : Addr} {a b : Int} {t u v : Tok} {m₀ : Str → Option Value} {led₀ : Led} (J : Nat → (Str → Option Value) → Led → Prop)
    (hh : A.handled = none) (hr : IsRange s.heap r a b 1 t u v) (hsm : Builtin.Range.small a b 1 = true) (F : Fr h₀ env.locals s.heap m₀) (N : News h₀ env.locals s.heap led₀) (hj : J 0 m₀ led₀)
    (hJ : ∀ i m led, J i m led → ∀ p ∈ led, p.1 ≠ s.heap.objs.size)
    (turn : ∀ (i : Nat) (t : Tok) m₁ led₁ oI h tk, i < (b - a).toNat → J i m₁ led₁ → Fr h₀ env.locals h (fun y => if y = x then some (.int (a + i) t) else m₁ y) → News h₀ env.locals h ((s.heap.objs.size, oI) :: led₁) →
      wpAny (model prog w) A (execs body env) (TurnEnd h₀ env.locals s.heap.objs.size oI (J (i + 1)) { s with heap := h, toks := tk } Q) E { s with heap := h, toks := tk })
    (done : ∀ m₁ led₁ h tk, J (b - a).toNat m₁ led₁ → Fr h₀ env.locals h m₁ → News h₀ env.locals h led₁ → Q .next { s with heap := h, toks := tk }) :
    wpAny (model prog w) A (pyIter (.ref r)) (fun it s₂ => LoopAtV prog w A h₀ env x body Q E it s₂) E s := by
  refine wpAny_pyIter_range hr hsm ?_
  have W := Walks.range (prog := prog) (w := w) hh s.heap.objs.size a 1 (b - a).toNat
  refine loop_led (ls := []) [] J W ?_ (next_is_new F) (by show IsRangeIter _ _ _ _ _; rw [rangeSize_nat]; simpa using Heap.get?_push_size _ rfl) (fun i h st => ⟨_, st⟩) (F.push _) (fun p hp => ⟨Heap.get?_push_of_some _ (N p hp).1, (N p hp).2⟩) hj (fun b hb => nomatch hb) (fun i m led hj' => ⟨hJ i m led hj', fun p hp => nomatch hp⟩) ?_ done
  · intro hm
    exact absurd F.ns.lt ((List.mem_singleton.mp hm) ▸ Nat.lt_irrefl _)
  · rintro i v m₁ led₁ oI h tk hin ⟨t', rfl⟩ hJi F₁ N₁
    exact turn i t' m₁ led₁ oI h tk hin hJi (by simpa using F₁) N₁
end
end Mine
end PartM1
section PartM2
open PySem PySem.W PyProof.Rows PySem.Calls PySem.Spec
namespace Mine
theorem ne_all {d : Addr} {l : Led} (h : ∀ p ∈ l, p.1 < d) : ∀ p ∈ l, p.1 ≠ d := fun p hp => Nat.ne_of_lt (h p hp)
theorem of_allLt {d : Addr} {l : Led} (h : AllLt d l) : ∀ p ∈ l, p.1 < d := by
  induction l with
  | nil => intro p hp; cases hp
  | cons q r ih =>
    intro p hp
    rcases List.mem_cons.mp hp with rfl | hp
    · exact h.1
    · exact ih h.2 p hp
theorem ints_at {us : List Value} {acc : List Int} (hi : IntsAre us acc) {j : Nat} (hj : j < acc.length) : ∃ t, us[j]? = some (.int (acc.getD j 0) t) := by
  obtain ⟨t, ht⟩ := hi.get j acc[j] (by simp [hj])
  exact ⟨t, by rw [ht, List.getD_eq_getElem?_getD]; simp [hj]⟩
section
variable {prog : Program} {w : World} {A : Around} {E : Value → Shared → Prop} {s : Shared} {h₀ : Heap} {L l : Addr} {m : Str → Option Value} {led led' : Led} {us : List Value} {acc : List Int} {n : Nat} {Q : Value → Shared → Prop}
theorem append_led {v : Value} (F : Fr h₀ L s.heap m) (N : News h₀ L s.heap led) (U : Upd l (listOf us.toArray n) (listOf (us ++ [v]).toArray (n + 1)) led led')
    (hsz : us.length ≤ 1000) (h : ∀ h', Fr h₀ L h' m → News h₀ L h' led' → Q .none { s with heap := h' }) : wpAny (model prog w) A (call (.builtin "list.append") [.ref l, v]) Q E s := by
  have e : (us ++ [v]).toArray = us.toArray.push v := by simp
  rw [e] at U
  refine append_K F N U h ?_
  rw [List.size_toArray, sizeLine_eq]; omega
theorem sub_ints_neg {value slice : Expr} {k : Int} {u : Tok} (N : News h₀ L s.heap led) (hm : (l, listOf us.toArray n) ∈ led) (hi : IntsAre us acc) (hk : acc.length ≤ 1000) (h0 : k < 0) (h1 : -(acc.length : Int) ≤ k)
    (h : ∀ t, Q (.int (acc.getD (k + acc.length).toNat 0) t) s) (hs : subscripted slice false (.ref l) (.int k u) = operate [.ref l, .int k u] (getItem (.ref l) (.int k u)) := by with_unfolding_all rfl) :
    wpAny (model prog w) A (subscriptTail value slice (.ref l) (.int k u)) Q E s := by
  have hL : s.heap.IsList l us.toArray := ⟨_, (N _ hm).1, rfl, _, rfl⟩
  have hl := hi.length
  obtain ⟨t, ht⟩ := ints_at hi (j := (k + acc.length).toNat) (by omega)
  have hsz : us.toArray.size = acc.length := by simpa using hl
  exact tail_any hL.typeIs slot_list_getitem.lookup (wpAny_getItem_list_neg hL h0 (by rw [hsz]; exact h1) (by omega) (by rw [hsz]; simpa using ht) (h t)) hs
end
end Mine
namespace Mine
theorem see {m : Str → Option Value} {k : Str} {v : Value} (h : m k = some v) : m = fun y => if y = k then some v else m y := by
  funext y
  by_cases e : y = k
  · rw [if_pos e, e, h]
  · rw [if_neg e]
theorem TurnEnd.next {h₀ h' : Heap} {L I : Addr} {oI : Obj} {J : (Str → Option Value) → Led → Prop} {s₁ : Shared} {Q : Flow → Shared → Prop} {tk : Nat} {m' : Str → Option Value} {led' led'' : Led}
    (F : Fr h₀ L h' m') (N : News h₀ L h' led'') (hJ : J m' led') (hI : (I, oI) ∈ led'') (hs : ∀ p ∈ led', p ∈ led'') : TurnEnd h₀ L I oI J s₁ Q .next { s₁ with heap := h', toks := tk } :=
  ⟨h', tk, m', led', rfl, F, fun p hp => N p ((List.mem_cons.mp hp).elim (fun e => e ▸ hI) (hs p)), hJ⟩
theorem foldl_take_succ {α β : Type} {f : β → α → β} {a : β} {ns : List α} {i : Nat} {x : α} (h : ns[i]? = some x) : (ns.take (i + 1)).foldl f a = f ((ns.take i).foldl f a) x := by
  rw [List.take_add_one, h]; simp
theorem fmod_pos (a : Int) {b : Int} (h : 0 < b) : a.fmod b = a % b := Int.fmod_eq_emod_of_nonneg a (Int.le_of_lt h)
theorem fdiv_pos (a : Int) {b : Int} (h : 0 < b) : a.fdiv b = a / b := Int.fdiv_eq_ediv_of_nonneg a (Int.le_of_lt h)
theorem ints_snoc {us : List Value} {acc : List Int} (h : IntsAre us acc) (x : Int) (t : Tok) : IntsAre (us ++ [.int x t]) (acc ++ [x]) := IntsAre.append h (IntsAre.cons _ _ IntsAre.nil)
end Mine
namespace Mine
theorem dup {h₀ h : Heap} {L : Addr} {led : Led} {q : Addr × Obj} (N : News h₀ L h led) (hq : q ∈ led) : News h₀ L h (q :: led) :=
  fun p hp => (List.mem_cons.mp hp).elim (fun e => e ▸ N q hq) (N p)
theorem drop1 {h₀ h : Heap} {L : Addr} {led : Led} {q : Addr × Obj} (N : News h₀ L h (q :: led)) : News h₀ L h led := fun p hp => N p (.tail _ hp)
theorem drops {h₀ h : Heap} {L : Addr} {led led' : Led} (N : News h₀ L h led') (hs : ∀ p ∈ led, p ∈ led') : News h₀ L h led := fun p hp => N p (hs p hp)
end Mine
namespace Mine
section
variable {prog : Program} {w : World} {A : Around} {E : Value → Shared → Prop} {s : Shared} {h₀ : Heap} {L l : Addr} {m : Str → Option Value} {led led' : Led} {us : List Value} {acc : List Int} {n : Nat} {Q : Value → Shared → Prop}
theorem mul_led {x : Int} {u : Tok} (F : Fr h₀ L s.heap m) (N : News h₀ L s.heap led) (hm : (l, listOf us.toArray n) ∈ led) (hi : IntsAre us acc) (hk : acc.length ≤ 1000) (h0 : 0 ≤ x) (h1 : x ≤ 1000)
    (h : ∀ q ws h', Fr h₀ L h' m → News h₀ L h' ((q, listOf ws.toArray 0) :: led) → IntsAre ws (List.replicate x.toNat acc).flatten → (∀ p ∈ led, p.1 < q) → Q (.ref q) { s with heap := h' }) :
    wpAny (model prog w) A (binaryOp .Mult (.ref l) (.int x u)) Q E s := by
  have hL : s.heap.IsList l us.toArray := ⟨_, (N _ hm).1, rfl, _, rfl⟩
  have hl := hi.length
  have hsz : us.length * x.toNat ≤ 2 ^ 24 := by
    have : us.length * x.toNat ≤ 1000 * 1000 := Nat.mul_le_mul (by omega) (by omega)
    omega
  exact KM.mul F N hL hi (by omega) (by omega) hsz (fun D h' F' N' a b _ _ _ _ _ => h D _ h' F' N' b a)
end
end Mine
namespace Mine
theorem TurnEnd.ret {h₀ : Heap} {L I : Addr} {oI : Obj} {J : (Str → Option Value) → Led → Prop} {s₁ s₂ : Shared} {Q : Flow → Shared → Prop} {v : Value} (h : Q (.ret v) s₂) : TurnEnd h₀ L I oI J s₁ Q (.ret v) s₂ := h
theorem TurnEnd.brk {h₀ : Heap} {L I : Addr} {oI : Obj} {J : (Str → Option Value) → Led → Prop} {s₁ s₂ : Shared} {Q : Flow → Shared → Prop} (h : Q .next s₂) : TurnEnd h₀ L I oI J s₁ Q .brk s₂ := h
end Mine
namespace Mine
section
variable {prog : Program} {w : World} {A : Around} {E : Value → Shared → Prop} {s : Shared} {h₀ : Heap} {L l l2 : Addr} {m : Str → Option Value} {led led' : Led} {us vs : List Value} {acc : List Int} {n n2 : Nat} {Q : Value → Shared → Prop}
theorem add_led {a1 a2 : List Int} (F : Fr h₀ L s.heap m) (N : News h₀ L s.heap led) (hm : (l, listOf us.toArray n) ∈ led) (hm2 : (l2, listOf vs.toArray n2) ∈ led) (hi : IntsAre us a1) (hj : IntsAre vs a2) (hk : a1.length + a2.length ≤ 1000)
    (h : ∀ q ws h', Fr h₀ L h' m → News h₀ L h' ((q, listOf ws.toArray 0) :: led) → IntsAre ws (a1 ++ a2) → (∀ p ∈ led, p.1 < q) → Q (.ref q) { s with heap := h' }) :
    wpAny (model prog w) A (binaryOp .Add (.ref l) (.ref l2)) Q E s := by
  refine add_lists_ints F N ⟨_, (N _ hm).1, rfl, _, rfl⟩ ⟨_, (N _ hm2).1, rfl, _, rfl⟩ hi hj (fun h' F' N' hI => h _ _ h' F' N' hI (fun p hp => Heap.lt_size (N p hp).1)) ?_
  rw [sizeLine_eq]; omega
end
end Mine
namespace Mine
section
variable {prog : Program} {w : World} {A : Around} {E : Value → Shared → Prop} {s : Shared} {h₀ : Heap} {L l l2 : Addr} {m : Str → Option Value} {led led' : Led} {us vs : List Value} {a1 a2 : List Int} {n n2 : Nat} {Q : Value → Shared → Prop}
theorem ne_led (N : News h₀ L s.heap led) (hm : (l, listOf us.toArray n) ∈ led) (hm2 : (l2, listOf vs.toArray n2) ∈ led) (hi : IntsAre us a1) (hj : IntsAre vs a2) (hu : A.units + 64 < cLine)
    (h : Q (.bool (!decide (a1 = a2))) s) : wpAny (model prog w) A (compareOp .NotEq (.ref l) (.ref l2)) Q E s :=
  ne_intsK ⟨_, (N _ hm).1, rfl, _, rfl⟩ hi ⟨_, (N _ hm2).1, rfl, _, rfl⟩ hj hu h
end
end Mine
namespace Mine
section
variable {prog : Program} {w : World} {A : Around} {E : Value → Shared → Prop} {s : Shared} {h₀ : Heap} {L l : Addr} {m : Str → Option Value} {led led' : Led} {us : List Value} {acc : List Int} {n : Nat} {Q : Value → Shared → Prop} {value slice : Expr} {y : Int} {t : Tok}
theorem slice_upto (F : Fr h₀ L s.heap m) (N : News h₀ L s.heap led) (hm : (l, listOf us.toArray n) ∈ led) (hi : IntsAre us acc) (hk : acc.length ≤ 1000) (h0 : 0 ≤ y)
    (h : ∀ D ws h', Fr h₀ L h' m → News h₀ L h' ((D, listOf (List.toArray ws) 0) :: led) → IntsAre ws (acc.take y.toNat) → (∀ p ∈ led, p.1 < D) → Q (.ref D) { s with heap := h' })
    (hs : subscripted slice false (.ref l) (.ref s.heap.objs.size) = operate [.ref s.heap.objs.size, .ref l] (getItem (.ref l) (.ref s.heap.objs.size))) (ht : ∀ r, letTemporaryGo value (.ref l) r = pure ()) :
    wpAny (model prog w) A (subscriptTail value slice (.ref l) (.ref s.heap.objs.size)) Q E { s with heap := s.heap.push { cls := .type "slice", data := .fields #[.none, .int y t, .none] } } := by
  have hl := hi.length
  exact kmk_slice_ints F N ⟨_, (N _ hm).1, rfl, _, rfl⟩ IsPart.none (IsPart.int _ _) hi (kmk_upto hi h0) rfl (fun D ws h' F' N' l1 hI _ _ => h D ws h' F' N' hI l1) hs ht (by rw [List.size_toArray, sizeLine_eq]; omega)
theorem slice_from (F : Fr h₀ L s.heap m) (N : News h₀ L s.heap led) (hm : (l, listOf us.toArray n) ∈ led) (hi : IntsAre us acc) (hk : acc.length ≤ 1000) (h0 : 0 ≤ y)
    (h : ∀ D ws h', Fr h₀ L h' m → News h₀ L h' ((D, listOf (List.toArray ws) 0) :: led) → IntsAre ws (acc.drop y.toNat) → (∀ p ∈ led, p.1 < D) → Q (.ref D) { s with heap := h' })
    (hs : subscripted slice false (.ref l) (.ref s.heap.objs.size) = operate [.ref s.heap.objs.size, .ref l] (getItem (.ref l) (.ref s.heap.objs.size))) (ht : ∀ r, letTemporaryGo value (.ref l) r = pure ()) :
    wpAny (model prog w) A (subscriptTail value slice (.ref l) (.ref s.heap.objs.size)) Q E { s with heap := s.heap.push { cls := .type "slice", data := .fields #[.int y t, .none, .none] } } := by
  have hl := hi.length
  exact kmk_slice_ints F N ⟨_, (N _ hm).1, rfl, _, rfl⟩ (IsPart.int _ _) IsPart.none hi (kmk_from hi h0) rfl (fun D ws h' F' N' l1 hI _ _ => h D ws h' F' N' hI l1) hs ht (by rw [List.size_toArray, sizeLine_eq]; omega)
end
end Mine
end PartM2
section PartAll
open PySem PySem.W PyProof.Rows PySem.Calls PySem.Spec PyProof.Rows.LCg PyProof.Rows.LCt
local macro_rules | `(tactic| omega) => `(tactic| ((fail_if_success (fail_if_success omega (splitDisjunctions := true))); first | lia | omega (splitDisjunctions := true)))
local macro_rules | `(tactic| k_all) => `(tactic| exact Mine.ne_all (by assumption))
local macro_rules | `(tactic| k_all) => `(tactic| assumption)
section PartR1
open PySem PySem.W PyProof.Rows PySem.Calls PySem.Spec
set_option maxRecDepth 100000
namespace Mine
theorem slot_int_divmod : Slot "int" (dunder "divmod") "int.__divmod__" :=
  .of (owner := "int") (n := "__divmod__") (by rw [typeLookup_type, builtinLookup_eq_fast]; kernel_rfl) (by decide +kernel) (by decide +kernel) (by decide +kernel)
    (by first | exact .inl (by decide +kernel) | exact .inr (by decide +kernel)) (by rw [isSubtype_type]; kernel_rfl)
theorem fills_int_divmod : fillsNumberSlot (.type "int") "divmod" = pure true :=
  fillsNumberSlot_of (id := "int.__divmod__") (r := some (.builtin "int.__rdivmod__")) (by rw [typeLookup_type, builtinLookup_eq_fast]; kernel_rfl) (by decide +kernel) (by rw [typeLookup_type, builtinLookup_eq_fast]; kernel_rfl)
theorem entry_int_divmod : entryFor table "int.__divmod__" = some Builtin.«int.__divmod__» := entryFor_of_fast (by kernel_rfl)
theorem args_int_divmod (a b : Value) : argsOk "int.__divmod__" ⟨[a, b], []⟩ := by unfold argsOk; kernel_rfl
theorem kind_divmod : builtinKind "divmod" = none := by decide +kernel
theorem plain_divmod : plainId "divmod" = true := by decide +kernel
theorem entry_divmod : entryFor table "divmod" = some Builtin.«divmod» := entryFor_of_fast (by kernel_rfl)
theorem args_divmod (a b : Value) : argsOk "divmod" ⟨[a, b], []⟩ := by unfold argsOk; kernel_rfl
section
variable {prog : Program} {w : World} {A : Around} {E : Value → Shared → Prop} {s : Shared} {h₀ : Heap} {L l : Addr} {m : Str → Option Value} {led led' : Led} {Q : Value → Shared → Prop}
theorem call_int_divmod {a b : Int} {t u : Tok} (hb : b ≠ 0) (hp : Builtin.divisionGoesByPylong a b = false) (F : Fr h₀ L s.heap m) (N : News h₀ L s.heap led)
    (h : ∀ r h' tk' t t', Fr h₀ L h' m → News h₀ L h' ((r, tupO [.int (a.fdiv b) t, .int (a.fmod b) t']) :: led) → (∀ q ∈ led, q.1 < r) → Q (.ref r) { s with heap := h', toks := tk' }) :
    wpAny (model prog w) A (call (.builtin "int.__divmod__") [.int a t, .int b u]) (fun v s' => v ≠ .notImplemented ∧ Q v s') E s := by
  refine wpAny_call_entry slot_int_divmod (typeIs_int s a t) entry_int_divmod ?_ (args_int_divmod _ _)
  have hb' : (b == 0) = false := by simpa using hb
  show wpAny _ _ (do
    if b == 0 then rule "int.divmod.zero"; raiseError "ZeroDivisionError" "integer division or modulo by zero"
    Builtin.roomForPylong a b
    ret (← newTuple [← mkInt (a.fdiv b), ← mkInt (a.fmod b)])) _ _ s
  simp only [hb', Bool.false_eq_true, if_false, pure_bind]
  refine wpAny_bind (wpAny_roomForPylong (.inl hp) ?_)
  refine wpAny_bind (wpAny_mkInt (wpAny_bind (wpAny_mkInt (wpAny_bind ?_))))
  refine newTuple_N (h₀ := h₀) (L := L) (m := m) (news := led) F N (fun h' F' N' => ?_) (by simp [sizeLine_eq])
  exact wpAny_pure ⟨_, rfl, by simp, h _ _ _ _ _ F' N' (fun q hq => Heap.lt_size (N q hq).1)⟩
theorem call_divmod {a b : Int} {t u : Tok} (hb : b ≠ 0) (hp : Builtin.divisionGoesByPylong a b = false) (F : Fr h₀ L s.heap m) (N : News h₀ L s.heap led)
    (h : ∀ r h' tk' t t', Fr h₀ L h' m → News h₀ L h' ((r, tupO [.int (a.fdiv b) t, .int (a.fmod b) t']) :: led) → (∀ q ∈ led, q.1 < r) → Q (.ref r) { s with heap := h', toks := tk' }) :
    wpAny (model prog w) A (call (.builtin "divmod") [.int a t, .int b u]) Q E s := by
  refine Calls.call_function_entry kind_divmod plain_divmod entry_divmod (args_divmod _ _) ?_
  show wpAny _ _ (do ret (← Builtin.Builtins.binaryNamed "divmod()" "divmod" (.int a t) (.int b u))) _ _ s
  refine wpAny_bind ?_
  unfold Builtin.Builtins.binaryNamed
  refine wpAny_holding ?_
  refine wpAny_bind (wpAny_binaryOp1_same (nm := "divmod") (typeIs_int s a t) (typeIs_int s b u) fills_int_divmod slot_int_divmod (wpAny_mono (call_int_divmod (Q := Q) hb hp F N h) (fun v s' h' => ⟨h'.1, ?_⟩) fun _ _ h' => h'))
  exact wpAny_pure (wpAny_pure ⟨_, rfl, h'.2⟩)
end
end Mine
end PartR1
section PartP1
open PySem
namespace Mine
/-- the number that digits to the base 2 ^ n make, the least first -/
def val (n : Nat) : List Int → Int
  | [] => 0
  | x :: r => x + 2 ^ n * val n r
theorem val_append (n : Nat) : ∀ xs ys : List Int, val n (xs ++ ys) = val n xs + 2 ^ (n * xs.length) * val n ys
  | [], ys => by simp [val]
  | x :: r, ys => by
    rw [List.cons_append, val, val, val_append n r ys, List.length_cons, Nat.mul_add, Nat.mul_one, Int.pow_add, Int.mul_add]
    have : (2 : Int) ^ n * (2 ^ (n * r.length) * val n ys) = 2 ^ (n * r.length) * 2 ^ n * val n ys := by
      rw [← Int.mul_assoc, Int.mul_comm (2 ^ n)]
    omega
theorem val_nonneg (n : Nat) : ∀ xs : List Int, (∀ x ∈ xs, 0 ≤ x) → 0 ≤ val n xs
  | [], _ => Int.le_refl _
  | x :: r, h => by
    have h1 := h x (.head _)
    have h2 := val_nonneg n r fun y hy => h y (.tail _ hy)
    have h3 : 0 ≤ (2 : Int) ^ n * val n r := Int.mul_nonneg (Int.pow_nonneg (by decide)) h2
    rw [val]; omega
theorem val_lt (n : Nat) : ∀ xs : List Int, (∀ x ∈ xs, 0 ≤ x ∧ x < 2 ^ n) → val n xs < 2 ^ (n * xs.length)
  | [], _ => by simp [val]
  | x :: r, h => by
    have h1 := h x (.head _)
    have h2 := val_lt n r fun y hy => h y (.tail _ hy)
    rw [val, List.length_cons, Nat.mul_add, Nat.mul_one, Int.pow_add, Int.mul_comm (2 ^ (n * r.length))]
    have h3 : (2 : Int) ^ n * (val n r + 1) ≤ 2 ^ n * 2 ^ (n * r.length) := Int.mul_le_mul_of_nonneg_left h2 (Int.pow_nonneg (by decide))
    rw [Int.mul_add, Int.mul_one] at h3
    omega
/-- the part of the digits from a up to b -/
def part (xs : List Int) (a b : Nat) : List Int := (xs.drop a).take (b - a)
theorem part_length {xs : List Int} {a b : Nat} (h : a ≤ b) (hb : b ≤ xs.length) : (part xs a b).length = b - a := by
  simp [part]; omega
theorem part_split {xs : List Int} {a m b : Nat} (h1 : a ≤ m) (h2 : m ≤ b) : part xs a b = part xs a m ++ part xs m b := by
  unfold part
  have e : b - a = (m - a) + (b - m) := by omega
  rw [e, List.take_add, List.drop_drop, show a + (m - a) = m by omega]
theorem part_one {xs : List Int} {a : Nat} (h : a < xs.length) : part xs a (a + 1) = [xs.getD a 0] := by
  unfold part
  have e : xs.getD a 0 = xs[a] := by simp [List.getD_eq_getElem?_getD, h]
  rw [show a + 1 - a = 1 by omega, List.drop_eq_getElem_cons h, e]
  rfl
theorem part_all {xs : List Int} : part xs 0 xs.length = xs := by simp [part]
theorem part_mem {xs : List Int} {a b : Nat} {P : Int → Prop} (h : ∀ x ∈ xs, P x) : ∀ x ∈ part xs a b, P x := fun x hx => h x (List.mem_of_mem_drop (List.mem_of_mem_take hx))
end Mine
namespace Mine
theorem pow2_le {a b : Nat} (h : a ≤ b) : (2 : Int) ^ a ≤ 2 ^ b := by
  have := Nat.pow_le_pow_right (n := 2) (by decide) h
  exact_mod_cast this
theorem pow2_pos (a : Nat) : (0 : Int) < 2 ^ a := by
  have := Nat.pow_pos (n := a) (show 0 < 2 by decide)
  exact_mod_cast this
end Mine
namespace Mine
theorem intBits_le {x : Int} {k : Nat} (h0 : 0 ≤ x) (h1 : x < 2 ^ k) : Builtin.Int.intBits x ≤ k := by
  unfold Builtin.Int.intBits
  split
  · exact Nat.zero_le _
  · rename_i h
    have hx : x.natAbs ≠ 0 := by
      intro e
      exact h (by simpa using Int.natAbs_eq_zero.mp e)
    have h2 : x.natAbs < 2 ^ k := by
      have e : ((x.natAbs : Nat) : Int) = x := Int.natAbs_of_nonneg h0
      have h3 : ((x.natAbs : Nat) : Int) < ((2 ^ k : Nat) : Int) := by rw [e]; simpa using h1
      exact Int.ofNat_lt.mp h3
    exact (Nat.log2_lt hx).mpr h2
theorem lt_intBits {x : Int} (h0 : 0 ≤ x) : x < 2 ^ Builtin.Int.intBits x := by
  unfold Builtin.Int.intBits
  split
  · rename_i h
    have : x = 0 := by simpa using h
    subst this
    decide
  · have h2 : x.natAbs < 2 ^ (x.natAbs.log2 + 1) := Nat.lt_log2_self
    have e : ((x.natAbs : Nat) : Int) = x := Int.natAbs_of_nonneg h0
    have h3 : ((x.natAbs : Nat) : Int) < ((2 ^ (x.natAbs.log2 + 1) : Nat) : Int) := Int.ofNat_lt.mpr h2
    rw [e] at h3
    simpa using h3
theorem intBits_pos {x : Int} (h0 : x ≠ 0) : 1 ≤ Builtin.Int.intBits x := by
  unfold Builtin.Int.intBits
  split
  · rename_i h
    exact absurd (by simpa using h) h0
  · omega
theorem intBits_pow (p : Nat) : Builtin.Int.intBits (2 ^ p) = p + 1 := by
  unfold Builtin.Int.intBits
  have hp := pow2_pos p
  rw [if_neg (by simp; omega)]
  have e : ((2 : Int) ^ p).natAbs = 2 ^ p := by rw [Int.natAbs_pow]; rfl
  rw [e, Nat.log2_two_pow]
end Mine
namespace Mine
theorem set_split {z : Int} : ∀ {ds : List Int} {x : Nat}, x < ds.length → ds.set x z = ds.take x ++ [z] ++ ds.drop (x + 1)
  | [], _, h => absurd h (Nat.not_lt_zero _)
  | _ :: _, 0, _ => rfl
  | d :: r, x + 1, h => by
    have := set_split (z := z) (ds := r) (x := x) (by simpa using h)
    simp only [List.set_cons_succ, List.take_succ_cons, List.drop_succ_cons, List.cons_append]
    rw [this]
end Mine
namespace Mine
theorem snoc_ind {α : Type} {P : List α → Prop} (h0 : P []) (hs : ∀ r x, P r → P (r ++ [x])) : ∀ l, P l := fun l => by
  have h : ∀ k : List α, P k.reverse := by
    intro k
    induction k with
    | nil => exact h0
    | cons x r ih => rw [List.reverse_cons]; exact hs _ x ih
  have := h l.reverse
  rwa [List.reverse_reverse] at this
end Mine
end PartP1
section PartC1
open PySem PySem.W PyProof.Rows PySem.Calls PySem.Spec
namespace Mine
theorem fill1 : ∀ (w : World) (h : Heap), (Mine.hd.heap_39 w.params).In h → Challenge.rw_oc0103_01 = Challenge.rw_oc0103_01 := by
  k_fill
  intros; rfl
local macro_rules | `(tactic| walk_at "call builtin:divmod") => `(tactic| refine Stop.mk ?_)
set_option maxRecDepth 100000 in
set_option maxHeartbeats 8000000 in
theorem div2n1n_spec (w : World) (x b n : Int) (t1 t2 t3 : Tok) (hx : 0 ≤ x) (hx2 : x < 2 ^ 40) (hb : 0 < b) (hb2 : b < 2 ^ 20) (hn : 0 ≤ n) :
   Spec w 28 2 [.int x t1, .int b t2, .int n t3] (fun _ _ => True) (fun news r news' => ∃ (q : Addr) (t t' : Tok), r = .ref q ∧ news' = (q, tupO [.int (x / b) t, .int (x % b) t']) :: news ∧ ∀ p ∈ news, p.1 < q) := by
  w_top off
  unfold Spec
  intro p loose mean mg mb dp un gd cn cs a ccd cl outer A₀ base h₀ L m news s Q E B F X N T hk hd hu hpre hret
  have hbits : (Builtin.Int.intBits x : Int) - n ≤ 4000 := by
    have := intBits_le hx hx2
    omega
  refine wpAny_call ?_
  k_dflt cell_enter
  w_strict k_steps
  refine Stop.out ?_
  refine call_divmod (by omega) (PyProof.noPylong_small (by omega)) (by assumption) (by assumption) ?_
  intro r h' tk' t t' F' N' hlt
  w_strict k_steps
  have kN : News h₀ L h' ((r, tupO [.int (x.fdiv b) t, .int (x.fmod b) t']) :: news) := by assumption
  rw [fdiv_pos _ hb, fmod_pos _ hb] at kN
  exact hret _ _ _ _ (by assumption) kN ⟨_, _, _, rfl, rfl, hlt⟩
end Mine
end PartC1
section PartC3
open PySem PySem.W PyProof.Rows PySem.Calls PySem.Spec
namespace Mine
theorem fill3 : ∀ (w : World) (h : Heap), (Mine.hd.heap_39 w.params).In h → Challenge.rw_oc0103_01 = Challenge.rw_oc0103_01 := by
  k_fill
  intros; rfl
local macro_rules | `(tactic| walk_at "pyIter ref") => `(tactic| refine Stop.mk ?_)
local macro_rules | `(tactic| k_mem) => `(tactic| assumption)
def rep (k : Nat) (xs : List Int) : List Int := (List.replicate k xs).flatten
def saidAt (ns : List Int) (k : Nat) : Prop := ns = rep (ns.length / k) (ns.take k)
local macro_rules | `(tactic| walk_at "binaryOp Mult ref int") => `(tactic| refine Stop.mk ?_)
set_option maxRecDepth 100000 in
set_option maxHeartbeats 8000000 in
theorem said_spec (w : World) (l : Addr) (vs : List Value) (ns : List Int) (hi : IntsAre vs ns) (hlen : ns.length ≤ 16) (n0 : Nat) :
   Spec w 119 2 [.ref l] (fun _ news => (l, listOf vs.toArray n0) ∈ news) (fun news r news' => news' = news ∧ ∃ b, r = .bool b ∧ (b = true ↔ ∃ k, 1 ≤ k ∧ k < ns.length ∧ saidAt ns k)) := by
  w_top off
  unfold Spec
  intro p loose mean mg mb dp un gd cn cs a ccd cl outer A₀ base h₀ L m news s Q E B F X N T hk hd hu hpre hret
  have hi0 := hi.length
  replace N := dup N hpre
  refine wpAny_call ?_
  k_dflt cell_enter
  w_strict k_steps
  rename_i g' L' h1 FG F1 N1 B' X' T' h2 tk1 t1 u1 v1 hr F2 N2 hkeep
  refine Stop.out ?_
  dsimp only
  have hsz : ∀ p ∈ (l, listOf vs.toArray n0) :: news, p.1 < h2.objs.size := fun p hp => Heap.lt_size (N2 p hp).1
  clear F1 N1
  refine iter_range (fun i m led => m (Str.ofString "row") = some (.ref l) ∧ led = (l, listOf vs.toArray n0) :: news ∧ ∀ k, 1 ≤ k → k < i + 1 → ¬ saidAt ns k) rfl hr (range_small (by omega) (by omega) (by omega) (by omega)) F2 N2 ?_ ?_ ?_ ?_
  · exact ⟨rfl, rfl, fun k h1 h2 => by omega⟩
  · rintro i m led ⟨_, rfl, _⟩ p hp
    exact Nat.ne_of_lt (hsz p hp)
  · rintro i t m₁ led₁ oI h tk hin ⟨hmr, rfl, hno⟩ F3 N3
    clear F2 N2 hr
    rw [see hmr] at F3
    dsimp only at F3 N3 ⊢
    k_fold
    have hfd : ((ns.length : Int)).fdiv (1 + i) = ((ns.length / (1 + i) : Nat) : Int) := by
      rw [fdiv_pos _ (by omega)]; norm_cast
    have hfd2 : ns.length / (1 + i) ≤ ns.length := Nat.div_le_self _ _
    have htn : (1 + (i : Int)).toNat = 1 + i := by omega
    w_strict k_steps
    refine Stop.out ?_
    rename_i D ws h4 F4 N4 hI4 hC hL hlt4
    rw [hfd]
    generalize hkq : ns.length / (1 + i) = kq at *
    refine mul_led F4 N4 (.head _) hI4 (by omega) (by omega) (by omega) ?_
    intro q ws2 h5 F5 N5 hI5 hlt5
    rw [Int.toNat_natCast, htn] at hI5
    clear hI4 hC hL
    w_strict k_steps
    · dsimp only
      w_strict k_steps
      refine TurnEnd.ret ?_
      dsimp only
      w_strict k_steps
      refine hret _ news _ _ (by assumption) (drops (by assumption) fun p hp => .tail _ (.tail _ (.tail _ (.tail _ hp)))) ⟨rfl, true, rfl, ?_⟩
      refine ⟨fun _ => ⟨1 + i, by omega, by omega, ?_⟩, fun _ => rfl⟩
      rw [saidAt, hkq]
      assumption
    · refine TurnEnd.next (by assumption) (by assumption) ⟨rfl, rfl, ?_⟩ (by k_mem) (fun p hp => .tail _ (.tail _ (.tail _ hp)))
      intro k hk1 hk2
      by_cases e : k = 1 + i
      · subst e
        rw [saidAt, hkq]
        assumption
      · exact hno k hk1 (by omega)
  · rintro m₁ led₁ h tk ⟨hmr, rfl, hno⟩ F3 N3
    clear F2 N2 hr
    dsimp only
    w_strict k_steps
    refine hret _ news _ _ (by assumption) (drops (by assumption) fun p hp => .tail _ hp) ⟨rfl, false, rfl, ?_⟩
    refine ⟨fun h => (by cases h), ?_⟩
    rintro ⟨k, hk1, hk2, hk3⟩
    exact absurd hk3 (hno k hk1 (by omega))
end Mine
end PartC3
section PartN0
open PySem PySem.W PyProof.Rows PySem.Calls PySem.Spec
namespace Mine
def others (P : Addr) (led : Led) : Led := led.filter fun q => q.1 ≠ P
theorem others_ne {P : Addr} {led : Led} : ∀ q ∈ others P led, q.1 ≠ P := fun q hq => by
  simpa using (List.mem_filter.mp hq).2
theorem others_mem {P : Addr} {led : Led} {q : Addr × Obj} (h : q ∈ led) (hne : q.1 ≠ P) : q ∈ others P led := List.mem_filter.mpr ⟨h, by simpa using hne⟩
theorem others_sub {P : Addr} {led : Led} {q : Addr × Obj} (h : q ∈ others P led) : q ∈ led := (List.mem_filter.mp h).1
/-- the table of a def's inner codes: empty, or with the one inner def's code in it -/
def TabSt (P line col : Nat) (q : Str) (led : Led) : Prop :=
  (P, tabObj #[]) ∈ led ∨ ∃ (c' : Addr) (oc : Obj) (vs : Array Value) (t : Tok), (P, tabObj (#[] ++ #[rawInt line, rawInt col, .ref c'])) ∈ led ∧ (c', oc) ∈ led ∧ oc.data = .fields vs ∧ vs[1]? = some (.str q t)
/-- the same with an inner code that is old or new -/
def TabTo (P line col : Nat) (q : Str) (led led' : Led) : Prop :=
  ∃ (c' : Addr) (oc : Obj) (vs : Array Value) (t : Tok), (P, tabObj (#[] ++ #[rawInt line, rawInt col, .ref c'])) ∈ led' ∧ (c', oc) ∈ led' ∧ oc.data = .fields vs ∧ vs[1]? = some (.str q t) ∧
    (((P, tabObj (#[] ++ #[rawInt line, rawInt col, .ref c'])) ∈ led ∧ (c', oc) ∈ led) ∨ ∀ p ∈ led, p.1 < c')
theorem ltA {a b : Addr} (h : @LT.lt Nat _ a b) : a < b := h
section
variable {M : Model} {A : Around} {E : Value → Shared → Prop} {s : Shared} {h₀ : Heap} {L a c P : Addr} {m mg mb : Str → Option Value} {cn : Str} {cs : Scope} {ccd : Value} {cl : List (Str × Addr)} {front news : Led}
  {p : Program} {loose : List Str} {mean : ExcName → Option Value} {name qual : Str} {params : Arguments} {body : List Stmt} {scope : Scope} {pos : Pos} {firstLine : Nat} {clos : List (Str × Addr)}
/-- a def in a def's body, whether its code was made before or not -/
theorem nest_any {Q : Value → Shared → Prop} (F : Fr h₀ L s.heap m) (N : News h₀ L s.heap (front ++ news)) (T : Top p loose mean mg mb h₀) (C : CodeHd h₀ c P) (hcd : ccd = .ref c) (hT : TabSt P pos.line pos.col qual news) (hfr : ∀ q ∈ front, q.1 ≠ P)
    (hcl : closureFor scope (envX cn cs L a ccd cl) = pure clos)
    (h : ∀ f c' oc vs t ctv doc h' tk, Fr h₀ L h' m →
      News h₀ L h' ((f, fnMade name qual params body scope clos doc ((mg "__name__").getD .none) c' ctv) :: (c', oc) :: (P, tabObj (#[] ++ #[rawInt pos.line, rawInt pos.col, .ref c'])) :: (front ++ others P news)) →
      oc.data = .fields vs → vs[1]? = some (.str qual t) → (((P, tabObj (#[] ++ #[rawInt pos.line, rawInt pos.col, .ref c'])) ∈ news ∧ (c', oc) ∈ news) ∨ ∀ q ∈ front ++ news, q.1 < c') → (∀ q ∈ front ++ news, q.1 < f) → c' < f → Q (.ref f) { s with heap := h', toks := tk }) :
    wpAny M A (makeFunction name qual params (.stmts body) scope (envX cn cs L a ccd cl) [] [] [] pos firstLine) Q E s := by
  have hoth : ∀ q ∈ front ++ others P news, q.1 ≠ P := fun q hq => (List.mem_append.mp hq).elim (hfr q) (others_ne q)
  have hsub : ∀ q ∈ front ++ others P news, q ∈ front ++ news := fun q hq => (List.mem_append.mp hq).elim (List.mem_append_left _) fun hq => List.mem_append_right _ (others_sub hq)
  have hback : ∀ {x : Addr}, P < x → (∀ q ∈ front ++ others P news, q.1 < x) → ∀ q ∈ front ++ news, q.1 < x := fun {x} hP hq q hm => by
    by_cases e : q.1 = P
    · rw [e]; exact hP
    · exact hq q ((List.mem_append.mp hm).elim (List.mem_append_left _) fun hm => List.mem_append_right _ (others_mem hm e))
  rcases hT with hm | ⟨c', oc, vs, t, hm1, hm2, e1, e2⟩
  · have N0 : News h₀ L s.heap ((P, tabObj #[]) :: (front ++ others P news)) := fun q hq => (List.mem_cons.mp hq).elim (fun e => e ▸ N _ (List.mem_append_right _ hm)) fun hq => N q (hsub q hq)
    refine nest_K F N0 T C hcd (UpdF.head hoth) trivial rfl hcl ?_
    intro f c' oc vs t ctv doc h' tk F' N' e1 e2 l1 l2
    have l3 := hback (l1 _ (.head _)) fun q hq => l1 q (.tail _ hq)
    exact h f c' oc vs t ctv doc h' tk F' N' e1 e2 (.inr l3) (fun q hq => Nat.lt_trans (l3 q hq) l2) l2
  · have N0 : News h₀ L s.heap ((c', oc) :: (P, tabObj (#[] ++ #[rawInt pos.line, rawInt pos.col, .ref c'])) :: (front ++ others P news)) := fun q hq => by
      rcases List.mem_cons.mp hq with rfl | hq
      · exact N _ (List.mem_append_right _ hm2)
      · rcases List.mem_cons.mp hq with rfl | hq
        · exact N _ (List.mem_append_right _ hm1)
        · exact N q (hsub q hq)
    refine nestHit_K (c' := c') F N0 T C hcd (.tail _ (.head _)) (by simp [TriplesOk, rawInt]) (by simp [codeAmong, rawInt]) hcl ?_
    intro f ctv doc h' tk F' N' l1
    exact h f c' oc vs t ctv doc h' tk F' N' e1 e2 (.inl ⟨hm1, hm2⟩) (hback (l1 _ (.tail _ (.head _))) fun q hq => l1 q (.tail _ (.tail _ hq))) (l1 _ (.head _))
end
end Mine
end PartN0
section PartC5
open PySem PySem.W PyProof.Rows PySem.Calls PySem.Spec
namespace Mine
theorem fill5 : ∀ (w : World) (h : Heap), (Mine.hd.heap_39 w.params).In h → Challenge.rw_oc0103_01 = Challenge.rw_oc0103_01 := by
  k_fill
  intros; rfl
local macro_rules | `(tactic| walk_at "pad 0") => `(tactic| skip)
local macro_rules | `(tactic| walk_at "exec FunctionDef") => `(tactic| refine Stop.mk ?_)
local macro_rules | `(tactic| walk_at "call ref") => `(tactic| refine Stop.mk ?_)
def q44 : Str := Str.ofString "_digits2int" ++ Str.ofString ".<locals>." ++ Str.ofString "inner"
theorem with_obj {P : Prop} {h₀ h : Heap} {L f : Addr} {o : Obj} {rest : Led} (_N : News h₀ L h ((f, o) :: rest)) (k : ∀ oF, oF = o → P) : P := k o rfl
set_option maxRecDepth 100000 in
set_option maxHeartbeats 8000000 in
theorem digits_spec (w : World) (l : Addr) (vs : List Value) (ns : List Int) (n : Nat) (t : Tok) (hi : IntsAre vs ns) (hl16 : ns.length ≤ 16) (hn1 : 1 ≤ n) (hnl : n * ns.length ≤ 40) (hds : ∀ x ∈ ns, 0 ≤ x ∧ x < 2 ^ n) (n0 : Nat) :
   Spec w 49 20 [.ref l, .int n t] (fun h₀ news => (l, listOf vs.toArray n0) ∈ news ∧ TabSt 44 50 4 q44 news ∧ CodeHd h₀ 48 44) (fun news r news' => ((∀ q ∈ news, q.1 ≠ 44 → q ∈ news') ∧ TabTo 44 50 4 q44 news news') ∧ ∃ t, r = .int (val n ns) t) := by
  w_top off
  unfold Spec
  intro p loose mean mg mb dp un gd cn cs a ccd cl outer A₀ base h₀ L m news s Q E B F X N T hk hd hu hpre hret
  obtain ⟨hm1, htab, hcode⟩ := hpre
  have hi0 := hi.length
  have hot : ∀ q ∈ others 44 news, q.1 ≠ 44 := others_ne
  have hnn : ∀ o : Obj, o.cls = .none → (44, o) ∈ news → l ≠ 44 := by
    rintro o ho hm2 rfl
    have h1 := (N _ hm1).1
    have h2 := (N _ hm2).1
    rw [h1] at h2
    cases h2
    cases ho
  have hln : n ≤ 40 ∨ ns.length = 0 := by
    rcases Nat.eq_zero_or_pos ns.length with h | h
    · exact .inr h
    · exact .inl (Nat.le_trans (Nat.le_mul_of_pos_right n h) hnl)
  have hne : l ≠ 44 := htab.elim (hnn _ rfl) (fun ⟨_, _, _, _, hm2, _⟩ => hnn _ rfl hm2)
  replace N := dup N hm1
  refine wpAny_call ?_
  (k_dflt (refine' code_defC ?k1 ?k2 ?k3 ?k4 ?k5 ?kA ?kF ?kK ?k6 ?k7 ?k8 ?k9 ?kB ?kD ?_ ?c2 ?c3 ?c4; (case kA => exact rfl); (case kF => exact rfl); (case kK => assumption); (case k1 => k_asm); (case k2 => k_asm); (case k3 => k_asm); (case k4 => k_asm); (case k5 => k_asm); (case k6 => k_is); (case k7 => k_is); (case k8 => ktr_room); (case k9 => exact BindsTo.of_eq rfl); (case kB => exact rfl); (case kD => decide +kernel); (case c2 => exact rfl); (case c3 => exact rfl); (case c4 => exact rfl); k_whole; intro g' L' h1 tk1 cells' FG F1 N1 Y' B' X' T' l1; (try k_lt l1); k_cells Y'; (try simp only [List.cons_append, List.nil_append] at N1); (try dsimp only); (try k_fold)))
  rename_i o1 o2 o3 d1 d2 d3
  replace d1 : o1.data = .cell none := d1
  replace d2 : o2.data = .cell (some (.int n t)) := d2
  replace d3 : o3.data = .cell (some (.ref l)) := d3
  have hcode' : CodeHd g' 48 44 := hcode.keeps FG.keep
  clear hcode hnn
  have hlo : ∀ p ∈ news, p.1 < L' := of_allLt l1.2
  have hlo3 : ∀ p ∈ others 44 news, p.1 ≠ L' + 1 + 1 + 1 := fun p hp => by have := ltN (hlo p (others_sub hp)); exact neN (by omega)
  have h44 := ltN (show (44 : Addr) < L' from htab.elim (fun h => hlo _ h) (fun ⟨_, _, _, _, h, _⟩ => hlo _ h))
  have hlL := ltN (hlo _ hm1)
  clear l1
  w_strict k_steps
  refine Stop.out ?_
  refine nestDef_K rfl rfl rfl ?_
  refine nest_any (P := 44) (front := [(L' + 1 + 1 + 1, o1), (L' + 1 + 1, o2), (L' + 1, o3), (l, listOf vs.toArray n0)]) F1 N1 T' hcode' rfl htab (fun q hq => ?_) rfl ?_
  · simp only [List.mem_cons, List.not_mem_nil, or_false] at hq
    rcases hq with rfl | rfl | rfl | rfl
    · exact neN (by omega)
    · exact neN (by omega)
    · exact neN (by omega)
    · exact hne
  intro f c' oc vs' t' ct dc h2 tk2 F2 N2 e1 e2 hc hf hcf
  simp only [List.cons_append, List.nil_append] at N2
  have hcL := hc.imp (fun h => ltN (hlo _ h.2)) (fun h => ltN (h _ (.head _)))
  have hfL := ltN (hf _ (.head _))
  replace hcf := ltN hcf
  replace hc : ((44, tabObj (#[] ++ #[rawInt (50 : Nat), rawInt (4 : Nat), .ref c'])) ∈ news ∧ (c', oc) ∈ news) ∨ ∀ p ∈ news, p.1 < c' := hc.imp id (fun h p hp => h p (.tail _ (.tail _ (.tail _ (.tail _ hp)))))
  clear hf F1 N1
  dsimp only at hcL hfL ⊢
  w_strict k_steps
  · rename_i h3 o4 F3 N3 d4 hpos
    refine with_obj N3 (fun oF hoF => ?_)
    have hin : ∀ (k : Nat) (x y : Nat) (tx ty : Tok), x < y → y ≤ ns.length → y - x ≤ k → Spec w f (k + 2) [.int x tx, .int y ty]
        (fun _ led => (f, oF) ∈ led ∧ (c', oc) ∈ led ∧ (L' + 1 + 1 + 1, o4) ∈ led ∧ (L' + 1 + 1, o2) ∈ led ∧ (L' + 1, o3) ∈ led ∧ (l, listOf vs.toArray n0) ∈ led)
        (fun led r led' => led' = led ∧ ∃ t, r = .int (val n (part ns x y)) t) := by
      intro k
      induction k with
      | zero => intro x y tx ty h1 h2 h3; exact absurd (Nat.sub_pos_of_lt h1) (Nat.not_lt.mpr h3)
      | succ k ih =>
        intro x y tx ty hxy hyl hk1
        clear hret N F3 N3
        unfold Spec
        intro p loose mean mg' mb dp un gd cn cs a ccd cl outer A₀ base h₀ L m led s Q E B F X N T hk hd hu hpre hret
        obtain ⟨m1, m2, m3, m4, m5, m6⟩ := hpre
        replace N : News h₀ L s.heap ((f, oF) :: (c', oc) :: (L' + 1 + 1 + 1, o4) :: (L' + 1 + 1, o2) :: (L' + 1, o3) :: (l, listOf vs.toArray n0) :: led) := dup (dup (dup (dup (dup (dup N m6) (.tail _ m5)) (.tail _ (.tail _ m4))) (.tail _ (.tail _ (.tail _ m3)))) (.tail _ (.tail _ (.tail _ (.tail _ m2))))) (.tail _ (.tail _ (.tail _ (.tail _ (.tail _ m1)))))
        rw [hoF] at N
        refine wpAny_call ?_
        (k_dflt (refine' code_nest ?k1 ?k2 ?k3 ?k4 ?k5 ?kA ?kF ?kK ?k6 ?k7 ?k8 ?k9 ?kB ?_ ?c2 ?c3 ?c4 ?c5; (case kA => exact rfl); (case kF => exact rfl); (case kK => assumption); (case k1 => k_asm); (case k2 => k_asm); (case k3 => k_asm); (case k4 => k_asm); (case k5 => k_asm); (case k6 => k_mem); (case k7 => exact codeRec_news (by k_asm) (by k_mem) (by assumption) (by assumption)); (case k8 => ktr_room); (case k9 => exact BindsTo.of_eq rfl); (case c5 => decide); (case kB => exact locs rfl); (case c2 => exact rfl); (case c3 => exact rfl); (case c4 => exact rfl); k_whole; intro g2 L2 h4 FG2 F' N' B2 X2 T2; (try dsimp only); (try k_fold)))
        w_strict k_steps
        · have hy : y = x + 1 := by omega
          have ey : ns.getD (x : Int).toNat 0 = val n (part ns x y) := by
            rw [hy, part_one (by omega), Int.toNat_natCast]
            simp [val]
          rw [ey]
          exact hret _ led _ _ (by assumption) (drops (by assumption) fun q hq => .tail _ (.tail _ (.tail _ (.tail _ (.tail _ (.tail _ hq)))))) ⟨rfl, _, rfl⟩
        · refine Stop.out ?_
          rename_i tk3 hxy1 h5 h6 F6 N6
          obtain ⟨md, hmd⟩ : ∃ md : Nat, md = (x + y) / 2 := ⟨_, rfl⟩
          have emd : ((x : Int) + y).fdiv (2 ^ Int.toNat 1) = (md : Int) := by
            rw [show ((2 : Int) ^ Int.toNat 1) = 2 from rfl, fdiv_pos _ (by decide), hmd]; omega
          have hmx : x < md := by omega
          have hmy : md < y := by omega
          clear hmd
          have esh : ((md : Int) - x) * n = ((n * (md - x) : Nat) : Int) := by
            rw [Int.natCast_mul, Int.natCast_sub (by omega), Int.mul_comm]
          rw [emd, esh] at F6
          rw [emd]
          have hpm : ∀ x' y', ∀ z ∈ part ns x' y', 0 ≤ z ∧ z < 2 ^ n := fun _ _ => part_mem hds
          have hb1 := val_nonneg n (part ns md y) fun z hz => (hpm _ _ z hz).1
          have hb2 := val_lt n (part ns md y) (hpm _ _)
          have hnm : n * (md - x) ≤ 40 := Nat.le_trans (Nat.mul_le_mul_left n (by omega)) hnl
          have hb3 : val n (part ns md y) < 2 ^ 40 := Int.lt_of_lt_of_le hb2 (by
            rw [part_length (by omega) hyl]
            exact pow2_le (Nat.le_trans (Nat.mul_le_mul_left n (by omega)) hnl))
          refine Spec.use (ih md y _ _ hmy hyl (by omega)) (by assumption) (by assumption) (by assumption) N6 (by assumption) rfl (by show dp + 1 + (k + 2) < _; omega) (by show un + 3 + 8 * (k + 2) + 100 < _; omega) ⟨?_, .tail _ (.head _), .tail _ (.tail _ (.head _)), .tail _ (.tail _ (.tail _ (.head _))), .tail _ (.tail _ (.tail _ (.tail _ (.head _)))), .tail _ (.tail _ (.tail _ (.tail _ (.tail _ (.head _)))))⟩ ?_
          · rw [hoF]; exact .head _
          rintro r led' h7 tk7 F7 N7 ⟨rfl, t7, rfl⟩
          w_strict k_steps
          refine Stop.out ?_
          refine Spec.use (ih x md _ _ hmx (by omega) (by omega)) (by assumption) F7 (by assumption) N7 (by assumption) rfl (by show dp + 1 + (k + 2) < _; omega) (by show un + 3 + 8 * (k + 2) + 100 < _; omega) ⟨?_, .tail _ (.head _), .tail _ (.tail _ (.head _)), .tail _ (.tail _ (.tail _ (.head _))), .tail _ (.tail _ (.tail _ (.tail _ (.head _)))), .tail _ (.tail _ (.tail _ (.tail _ (.tail _ (.head _)))))⟩ ?_
          · rw [hoF]; exact .head _
          rintro r led' h8 tk8 F8 N8 ⟨rfl, t8, rfl⟩
          w_strict k_steps
          have ev : val n (part ns md y) * 2 ^ ((n * (md - x) : Nat) : Int).toNat + val n (part ns x md) = val n (part ns x y) := by
            rw [part_split (Nat.le_of_lt hmx) (Nat.le_of_lt hmy), val_append, part_length (by omega) (by omega), Int.toNat_natCast, Int.mul_comm, Int.add_comm]
          rw [ev]
          exact hret _ led _ _ (by assumption) (drops (by assumption) fun q hq => .tail _ (.tail _ (.tail _ (.tail _ (.tail _ (.tail _ hq)))))) ⟨rfl, _, rfl⟩
    refine Stop.out ?_
    refine Spec.use (hin 16 0 ns.length _ _ hpos (Nat.le_refl _) (by omega)) (by assumption) F3 (by assumption) N3 (by assumption) rfl (by show dp + 1 + (16 + 2) < _; omega) (by show un + 3 + 8 * (16 + 2) + 100 < _; omega) ⟨?_, .tail _ (.head _), .tail _ (.tail _ (.tail _ (.head _))), .tail _ (.tail _ (.tail _ (.tail _ (.head _)))), .tail _ (.tail _ (.tail _ (.tail _ (.tail _ (.head _))))), .tail _ (.tail _ (.tail _ (.tail _ (.tail _ (.tail _ (.head _))))))⟩ ?_
    · rw [hoF]; exact .head _
    rintro r led' h8 tk8 F8 N8 ⟨rfl, t8, rfl⟩
    rw [part_all]
    w_strict k_steps
    exact hret _ _ _ _ (by assumption) (by assumption) ⟨⟨fun q hq hne => .tail _ (.tail _ (.tail _ (.tail _ (.tail _ (.tail _ (.tail _ (others_mem hq hne))))))), ⟨c', oc, vs', t', .tail _ (.tail _ (.head _)), .tail _ (.head _), e1, e2, hc⟩⟩, _, rfl⟩
  · rename_i h3 o4 F3 N3 d4 hzero kF kN Tc kX
    have hnil : ns = [] := List.length_eq_zero_iff.mp (by omega)
    subst hnil
    exact hret _ _ _ _ (by assumption) kN ⟨⟨fun q hq hne => .tail _ (.tail _ (.tail _ (.tail _ (.tail _ (.tail _ (.tail _ (others_mem hq hne))))))), ⟨c', oc, vs', t', .tail _ (.tail _ (.head _)), .tail _ (.head _), e1, e2, hc⟩⟩, _, rfl⟩
end Mine
end PartC5
section PartR2
open PySem PySem.W PyProof.Rows PySem.Calls PySem.Spec
set_option maxRecDepth 100000
namespace Mine
theorem land_high (x s : Nat) : x &&& (x / 2 ^ s * 2 ^ s) = x / 2 ^ s * 2 ^ s := by
  rw [← Nat.shiftRight_eq_div_pow, ← Nat.shiftLeft_eq]
  refine Nat.eq_of_testBit_eq fun i => ?_
  rw [Nat.testBit_and, Nat.testBit_shiftLeft, Nat.testBit_shiftRight]
  by_cases h : i ≥ s
  · rw [show s + (i - s) = i by omega]; simp [h]
  · simp [h]
theorem xor_low {x : Int} (s : Nat) (h : 0 ≤ x) : Builtin.bitXor x (x / 2 ^ s * 2 ^ s) = x % 2 ^ s := by
  obtain ⟨k, rfl⟩ : ∃ k : Nat, x = (k : Int) := ⟨x.toNat, by omega⟩
  have e : ((k : Int) / 2 ^ s * 2 ^ s) = ((k / 2 ^ s * 2 ^ s : Nat) : Int) := by
    push_cast; rfl
  rw [bitXor_and, e]
  have e2 : Builtin.bitAnd (k : Int) ((k / 2 ^ s * 2 ^ s : Nat) : Int) = ((k / 2 ^ s * 2 ^ s : Nat) : Int) := by
    unfold Builtin.bitAnd
    simp only [Int.natCast_nonneg, decide_true, Int.toNat_natCast]
    rw [land_high]
  rw [e2]
  have h3 := Nat.div_add_mod k (2 ^ s)
  have h4 : ((k : Int) % 2 ^ s) = ((k % 2 ^ s : Nat) : Int) := by push_cast; rfl
  rw [h4]
  rw [Nat.mul_comm] at h3
  omega
section
variable {prog : Program} {w : World} {A : Around} {E : Value → Shared → Prop} {s : Shared} {h₀ : Heap} {L l : Addr} {m : Str → Option Value} {led led' : Led} {us : List Value} {acc : List Int} {n : Nat} {t u : Tok} {a b : Int}
theorem shr_int {Q : Value → Shared → Prop} (ha : 0 ≤ a) (hb : 0 ≤ b) (h : ∀ t tk, Q (.int (a / 2 ^ b.toNat) t) { s with toks := tk }) : wpAny (model prog w) A (binaryOp .RShift (.int a t) (.int b u)) Q E s := by
  by_cases hc : b ≥ ((Builtin.Int.intBits a : Nat) : Int)
  · have e : a / 2 ^ b.toNat = if a < 0 then -1 else 0 := by
      rw [if_neg (by omega)]
      exact Int.ediv_eq_zero_of_lt ha (Int.lt_of_lt_of_le (lt_intBits ha) (pow2_le (by omega)))
    refine AutoIntOps.rshift_1 (by omega) hc ?_
    rw [← e]
    exact h _ _
  · refine AutoIntOps.rshift_2 (by omega) hc ?_
    rw [fdiv_pos _ (pow2_pos _)]
    exact h _ _
theorem set_led {Q : Unit → Shared → Prop} {k x : Int} (F : Fr h₀ L s.heap m) (N : News h₀ L s.heap led) (U : Upd l (listOf us.toArray n) (listOf (us.set k.toNat (.int x u)).toArray n) led led') (hi : IntsAre us acc) (h0 : 0 ≤ k) (h1 : k < acc.length) (hk : acc.length ≤ 1000)
    (h : ∀ h', Fr h₀ L h' m → News h₀ L h' led' → IntsAre (us.set k.toNat (.int x u)) (acc.set k.toNat x) → Q () { s with heap := h' }) :
    wpAny (model prog w) A (setItem (.ref l) (.int k t) (.int x u)) Q E s :=
  ksa_set F N U hi h0 h1 (by omega) fun h' F' N' a _ _ => h h' F' N' a
end
end Mine
namespace Mine
section
variable {prog : Program} {w : World} {A : Around} {E : Value → Shared → Prop} {s : Shared} {t u : Tok} {a b : Int}
theorem pow_int {Q : Value → Shared → Prop} (ha : 2 ≤ a) (ha2 : a ≤ 1000) (hb : 0 ≤ b) (hb2 : b ≤ 1000) (h : ∀ t tk, Q (.int (a ^ b.toNat) t) { s with toks := tk }) : wpAny (model prog w) A (binaryOp .Pow (.int a t) (.int b u)) Q E s := by
  by_cases hz : b = 0
  · subst hz
    refine AutoIntOps.pow_0 (by decide) (by decide) ?_
    have e : a ^ (0 : Int).toNat = 1 := by simp
    rw [e] at h
    exact h _ _
  · refine AutoIntOps.pow_4 hb (by simpa using hz) (by simp; omega) (by simp; omega) ?_ (h _ _)
    have h1 : Builtin.Int.intBits a ≤ 10 := intBits_le (by omega) (by omega)
    have h2 : (Builtin.Int.intBits a : Int) * b ≤ 10 * 1000 := Int.mul_le_mul (by omega) hb2 hb (by decide)
    have h3 : Builtin.Int.intTooBig ((Builtin.Int.intBits a : Int) * b) = false := by
      unfold Builtin.Int.intTooBig
      rw [decide_eq_false_iff_not]
      have e : (bitsLine : Int) = 134217728 := by decide
      omega
    rw [h3]
    exact Bool.false_ne_true
end
end Mine
namespace Mine
section
variable {prog : Program} {w : World} {A : Around} {E : Value → Shared → Prop} {s : Shared} {t u : Tok} {a b : Int}
theorem div_int {Q : Value → Shared → Prop} (k : Nat) (hb : 0 < b) (hb2 : b < 2 ^ k) (hk : k ≤ 1000) (h : ∀ t tk, Q (.int (a / b) t) { s with toks := tk }) : wpAny (model prog w) A (binaryOp .FloorDiv (.int a t) (.int b u)) Q E s := by
  refine floordiv_int (Int.ne_of_gt hb) ?_ (.inl (PyProof.noPylong_of_log2 ?_))
  · rw [fdiv_pos _ hb]; exact h _ _
  · have h0 : b.natAbs ≠ 0 := by omega
    have h2 : b.natAbs < 2 ^ k := by
      have e : ((b.natAbs : Nat) : Int) = b := Int.natAbs_of_nonneg (by omega)
      have h3 : ((b.natAbs : Nat) : Int) < ((2 ^ k : Nat) : Int) := by rw [e]; simpa using hb2
      exact Int.ofNat_lt.mp h3
    have := (Nat.log2_lt h0).mpr h2
    omega
end
end Mine
end PartR2
section PartC6
open PySem PySem.W PyProof.Rows PySem.Calls PySem.Spec
namespace Mine
theorem fill6 : ∀ (w : World) (h : Heap), (Mine.hd.heap_39 w.params).In h → Challenge.rw_oc0103_01 = Challenge.rw_oc0103_01 := by
  k_fill
  intros; rfl
local macro_rules | `(tactic| walk_at "exec FunctionDef") => `(tactic| refine Stop.mk ?_)
local macro_rules | `(tactic| walk_at "call ref") => `(tactic| refine Stop.mk ?_)
local macro_rules | `(tactic| walk_at "binaryOp Mult ref int") => `(tactic| refine Stop.mk ?_)
local macro_rules | `(tactic| walk_at "setItem ref int") => `(tactic| refine Stop.mk ?_)
local macro_rules | `(tactic| walk_at "binaryOp BitXor int int") => `(tactic| refine Stop.mk ?_)
local macro_rules | `(tactic| walk_at "binaryOp RShift int int") => `(tactic| refine Stop.mk ?_)
local macro_rules | `(tactic| walk_at "binaryOp LShift int int") => `(tactic| refine Stop.mk ?_)
theorem flat_one' (k : Nat) (x : Int) : (List.replicate k [x]).flatten = List.replicate k x := by
  induction k with
  | zero => rfl
  | succ k ih => rw [List.replicate_succ, List.flatten_cons, ih]; rfl
def q37 : Str := Str.ofString "_int2digits" ++ Str.ofString ".<locals>." ++ Str.ofString "inner"
set_option maxRecDepth 100000 in
set_option maxHeartbeats 8000000 in
theorem split_spec (w : World) (x : Int) (n : Nat) (tx t : Tok) (hx0 : 0 ≤ x) (hx : x < 2 ^ 16) (hn1 : 1 ≤ n) (hn : n ≤ 20) :
   Spec w 42 25 [.int x tx, .int n t] (fun h₀ news => TabSt 37 35 4 q37 news ∧ CodeHd h₀ 41 37) (fun news r news' => ((∀ q ∈ news, q.1 ≠ 37 → q ∈ news') ∧ TabTo 37 35 4 q37 news news') ∧
     ∃ (q : Addr) (us : List Value) (e : Nat) (D : List Int), r = .ref q ∧ (q, listOf us.toArray e) ∈ news' ∧ (∀ p ∈ news, p.1 < q) ∧ IntsAre us D ∧ (∀ d ∈ D, 0 ≤ d ∧ d < 2 ^ n) ∧ val n D = x ∧ n * D.length ≤ 40 ∧ D.length ≤ 16) := by
  w_top off
  unfold Spec
  intro p loose mean mg mb dp un gd cn cs a ccd cl outer A₀ base h₀ L m news s Q E B F X N T hk hd hu hpre hret
  obtain ⟨htab, hcode⟩ := hpre
  have hbits : Builtin.Int.intBits x ≤ 16 := intBits_le hx0 hx
  obtain ⟨cnt, hcnt0⟩ : ∃ c : Nat, c = (Builtin.Int.intBits x + n - 1) / n := ⟨_, rfl⟩
  have hcnt : ((Builtin.Int.intBits x : Int) + n - 1).fdiv n = (cnt : Int) := by
    rw [fdiv_pos _ (by omega), hcnt0, Int.natCast_ediv, Int.natCast_sub (by omega)]; rfl
  have hc1 : n * cnt ≤ Builtin.Int.intBits x + n - 1 := by rw [hcnt0]; exact Nat.mul_div_le _ _
  have hc2 : Builtin.Int.intBits x ≤ n * cnt := by
    have h1 := Nat.div_add_mod (Builtin.Int.intBits x + n - 1) n
    have h2 := Nat.mod_lt (Builtin.Int.intBits x + n - 1) (show n > 0 by omega)
    rw [← hcnt0] at h1
    omega
  have hc3 : cnt ≤ 16 := by
    rw [hcnt0]
    exact Nat.le_trans (Nat.div_le_div_right (c := n) (show Builtin.Int.intBits x + n - 1 ≤ 16 + n - 1 by omega)) (by
      refine Nat.le_of_lt_succ ((Nat.div_lt_iff_lt_mul (by omega)).mpr ?_)
      have : 16 * 1 ≤ 16 * n := Nat.mul_le_mul_left 16 hn1
      omega)
  clear hcnt0
  refine wpAny_call ?_
  (k_dflt (refine' code_defC ?k1 ?k2 ?k3 ?k4 ?k5 ?kA ?kF ?kK ?k6 ?k7 ?k8 ?k9 ?kB ?kD ?_ ?c2 ?c3 ?c4; (case kA => exact rfl); (case kF => exact rfl); (case kK => assumption); (case k1 => k_asm); (case k2 => k_asm); (case k3 => k_asm); (case k4 => k_asm); (case k5 => k_asm); (case k6 => k_is); (case k7 => k_is); (case k8 => ktr_room); (case k9 => exact BindsTo.of_eq rfl); (case kB => exact rfl); (case kD => decide +kernel); (case c2 => exact rfl); (case c3 => exact rfl); (case c4 => exact rfl); k_whole; intro g' L' h1 tk1 cells' FG F1 N1 Y' B' X' T' l1; (try k_lt l1); k_cells Y'; (try simp only [List.cons_append, List.nil_append] at N1); (try dsimp only); (try k_fold)))
  rename_i o1 o2 o3 d1 d2 d3
  replace d1 : o1.data = .cell none := d1
  replace d2 : o2.data = .cell none := d2
  replace d3 : o3.data = .cell (some (.int n t)) := d3
  have hcode' : CodeHd g' 41 37 := hcode.keeps FG.keep
  clear hcode
  have hlo : ∀ p ∈ news, p.1 < L' := l1
  have hlo2 : ∀ p ∈ news, p.1 ≠ L' + 1 + 1 := fun p hp => by have := ltN (hlo p hp); exact neN (by omega)
  have hlo3 : ∀ p ∈ others 37 news, p.1 ≠ L' + 1 + 1 + 1 := fun p hp => by have := ltN (hlo p (others_sub hp)); exact neN (by omega)
  have h37 := ltN (show (37 : Addr) < L' from htab.elim (fun h => hlo _ h) (fun ⟨_, _, _, _, h, _⟩ => hlo _ h))
  clear l1
  w_strict k_steps
  refine Stop.out ?_
  rename_i l2 h2 F2 N2 l3
  rw [hcnt]
  refine mul_led F2 N2 (.head _) (IntsAre.cons _ _ IntsAre.nil) (by simp) (by omega) (by omega) ?_
  intro q ws h3 F3 N3 hI3 hlt3
  rw [flat_one', Int.toNat_natCast] at hI3
  obtain ⟨zs, hzs⟩ : ∃ zs, zs = List.replicate cnt (0 : Int) := ⟨_, rfl⟩
  have hzl : zs.length = cnt := by rw [hzs]; simp
  rw [← hzs] at hI3
  have hq1 := ltN (hlt3 _ (.tail _ (.head _)))
  have hqo : ∀ p ∈ news, p.1 < q := fun p hp => hlt3 p (.tail _ (.tail _ (.tail _ (.tail _ hp))))
  replace N3 : News g' L' h3 ((L' + 1 + 1 + 1, o1) :: (L' + 1 + 1, o2) :: (L' + 1, o3) :: (q, listOf ws.toArray 0) :: news) := drops N3 (fun p hp => by
    simp only [List.mem_cons] at hp ⊢
    rcases hp with h | h | h | h | h <;> simp [h])
  clear N2 hlt3 F2 l3
  w_strict k_steps
  refine Stop.out ?_
  rename_i h4 o5 F4 N4 d5
  refine nestDef_K rfl rfl rfl ?_
  refine nest_any (P := 37) (front := [(L' + 1 + 1 + 1, o1), (L' + 1 + 1, o5), (L' + 1, o3), (q, listOf ws.toArray 0)]) F4 N4 T' hcode' rfl htab (fun q hq => ?_) rfl ?_
  · simp only [List.mem_cons, List.not_mem_nil, or_false] at hq
    rcases hq with rfl | rfl | rfl | rfl <;> exact neN (by omega)
  intro f c' oc vs' t' ct dc h5 tk5 F5 N5 e1 e2 hc hf hcf
  simp only [List.cons_append, List.nil_append] at N5
  have hcL := hc.imp (fun h => ltN (hlo _ h.2)) (fun h => ltN (h _ (.tail _ (.tail _ (.tail _ (.head _))))))
  have hfL := ltN (hf _ (.tail _ (.tail _ (.tail _ (.head _)))))
  replace hcf := ltN hcf
  replace hc : ((37, tabObj (#[] ++ #[rawInt (35 : Nat), rawInt (4 : Nat), .ref c'])) ∈ news ∧ (c', oc) ∈ news) ∨ ∀ p ∈ news, p.1 < c' := hc.imp id (fun h p hp => h p (.tail _ (.tail _ (.tail _ (.tail _ hp)))))
  clear hf F4 N4 hlo2
  dsimp only at hcL hfL ⊢
  w_strict k_steps
  · rename_i h6 o4 F6 N6 d4 hnz
    refine with_obj N6 (fun oF hoF => ?_)
    have hin : ∀ (k : Nat) (z : Int) (x y : Nat) (tz tx ty : Tok) (ds : List Int) (us : List Value) (e : Nat), 0 ≤ z → z < 2 ^ (n * (y - x)) → x < y → y ≤ cnt → y - x ≤ k → IntsAre us ds → ds.length = cnt → Spec w f (k + 2) [.int z tz, .int x tx, .int y ty]
        (fun _ led => (f, oF) ∈ led ∧ (c', oc) ∈ led ∧ (L' + 1 + 1 + 1, o4) ∈ led ∧ (L' + 1 + 1, o5) ∈ led ∧ (L' + 1, o3) ∈ led ∧ (q, listOf us.toArray e) ∈ led)
        (fun led r led' => r = .none ∧ (∀ p ∈ led, p.1 ≠ q → p ∈ led') ∧ ∃ (us' : List Value) (e' : Nat) (D : List Int), (q, listOf us'.toArray e') ∈ led' ∧ IntsAre us' (ds.take x ++ D ++ ds.drop y) ∧ D.length = y - x ∧ (∀ d ∈ D, 0 ≤ d ∧ d < 2 ^ n) ∧ val n D = z) := by
      intro k
      induction k with
      | zero => intro z x y tz tx ty ds us e h0 h1 h2 h3 h4; exact absurd (Nat.sub_pos_of_lt h2) (Nat.not_lt.mpr h4)
      | succ k ih =>
        intro z x y tz tx ty ds us e hz0 hz1 hxy hyl hk1 hus hdl
        clear hret N F6 N6
        unfold Spec
        intro p loose mean mg' mb dp un gd cn cs a ccd cl outer A₀ base h₀ L m led s Q E B F X N T hk hd hu hpre hret
        obtain ⟨m1, m2, m3, m4, m5, m6⟩ := hpre
        have hqo' : ∀ p ∈ others q led, p.1 ≠ q := others_ne
        replace N : News h₀ L s.heap ((f, oF) :: (c', oc) :: (L' + 1 + 1 + 1, o4) :: (L' + 1 + 1, o5) :: (L' + 1, o3) :: (q, listOf us.toArray e) :: others q led) := drops N (fun p hp => by
          simp only [List.mem_cons] at hp
          rcases hp with rfl | rfl | rfl | rfl | rfl | rfl | hp
          · exact m1
          · exact m2
          · exact m3
          · exact m4
          · exact m5
          · exact m6
          · exact others_sub hp)
        rw [hoF] at N
        refine wpAny_call ?_
        (k_dflt (refine' code_nest ?k1 ?k2 ?k3 ?k4 ?k5 ?kA ?kF ?kK ?k6 ?k7 ?k8 ?k9 ?kB ?_ ?c2 ?c3 ?c4 ?c5; (case kA => exact rfl); (case kF => exact rfl); (case kK => assumption); (case k1 => k_asm); (case k2 => k_asm); (case k3 => k_asm); (case k4 => k_asm); (case k5 => k_asm); (case k6 => k_mem); (case k7 => exact codeRec_news (by k_asm) (by k_mem) (by assumption) (by assumption)); (case k8 => ktr_room); (case k9 => exact BindsTo.of_eq rfl); (case c5 => decide); (case kB => exact locs rfl); (case c2 => exact rfl); (case c3 => exact rfl); (case c4 => exact rfl); k_whole; intro g2 L2 h4 FG2 F' N' B2 X2 T2; (try dsimp only); (try k_fold)))
        w_strict k_steps
        · refine Stop.out ?_
          have hy : y = x + 1 := by omega
          subst hy
          refine' set_led ?k1 ?k2 ?k3 ?k4 ?k5 ?k6 ?k7 ?_
          (case k1 => assumption)
          (case k2 => assumption)
          (case k3 => k_upd)
          (case k4 => exact hus)
          (case k5 => omega)
          (case k6 => omega)
          (case k7 => omega)
          intro h7 F7 N7 hI7
          rw [Int.toNat_natCast, set_split (by omega)] at hI7
          w_strict k_steps
          refine hret _ _ _ _ (by assumption) (by assumption) ⟨rfl, fun p hp hne => .tail _ (.tail _ (.tail _ (.tail _ (.tail _ (.tail _ (others_mem hp hne)))))), _, _, [z], .tail _ (.tail _ (.tail _ (.tail _ (.tail _ (.head _))))), hI7, by simp, ?_, by simp [val]⟩
          intro d hd'
          rw [List.mem_singleton.mp hd']
          rw [show n * (x + 1 - x) = n by rw [Nat.add_sub_cancel_left, Nat.mul_one]] at hz1
          exact ⟨hz0, hz1⟩
        · refine Stop.out ?_
          obtain ⟨md, hmd⟩ : ∃ md : Nat, md = (x + y) / 2 := ⟨_, rfl⟩
          have emd : ((x : Int) + y) / 2 ^ (1 : Int).toNat = (md : Int) := by
            rw [show ((2 : Int) ^ (1 : Int).toNat) = 2 from rfl, hmd]; omega
          have hmx : x < md := by omega
          have hmy : md < y := by omega
          clear hmd
          have esh : ((md : Int) - x) * n = ((n * (md - x) : Nat) : Int) := by
            rw [Int.natCast_mul, Int.natCast_sub (by omega), Int.mul_comm]
          have hnc : n * cnt ≤ 40 := by omega
          have hnm : n * (md - x) ≤ 40 := Nat.le_trans (Nat.mul_le_mul_left n (by omega)) hnc
          refine shr_int (by omega) (by decide) ?_
          intro tq tkq
          rw [emd]
          w_strict k_steps
          refine Stop.out ?_
          rw [esh]
          refine shr_int hz0 (by omega) ?_
          intro tq2 tkq2
          rw [Int.toNat_natCast]
          w_strict k_steps
          refine Stop.out ?_
          rw [esh]
          have hz2 : z < 2 ^ 40 := Int.lt_of_lt_of_le hz1 (pow2_le (Nat.le_trans (Nat.mul_le_mul_left n (by omega)) hnc))
          have hup0 : 0 ≤ z / 2 ^ (n * (md - x)) := Int.ediv_nonneg hz0 (Int.le_of_lt (pow2_pos _))
          have hup1 : z / 2 ^ (n * (md - x)) < 2 ^ (n * (y - md)) := by
            refine Int.ediv_lt_of_lt_mul (pow2_pos _) ?_
            rw [← Int.pow_add, ← Nat.mul_add, show y - md + (md - x) = y - x by omega]
            exact hz1
          have hup2 : z / 2 ^ (n * (md - x)) ≤ z := Int.ediv_le_self _ hz0
          have hlo0 : 0 ≤ z % 2 ^ (n * (md - x)) := Int.emod_nonneg _ (Int.ne_of_gt (pow2_pos _))
          have hlo1 : z % 2 ^ (n * (md - x)) < 2 ^ (n * (md - x)) := Int.emod_lt_of_pos _ (pow2_pos _)
          have hsum : z % 2 ^ (n * (md - x)) + 2 ^ (n * (md - x)) * (z / 2 ^ (n * (md - x))) = z := Int.emod_add_mul_ediv z _
          have hxor := xor_low (n * (md - x)) hz0
          generalize hupe : z / 2 ^ (n * (md - x)) = up at *
          refine lshift_int_small (by omega) (by omega) (by omega) ?_
          rw [Int.toNat_natCast]
          w_strict k_steps
          refine Stop.out ?_
          refine xor_int ?_
          rw [hxor]
          generalize z % 2 ^ (n * (md - x)) = low at *
          w_strict k_steps
          refine Stop.out ?_
          rename_i F7 N7
          refine Spec.use (ih low x md _ _ _ ds us e hlo0 hlo1 hmx (by omega) (by omega) hus hdl) (by assumption) F7 (by assumption) N7 (by assumption) rfl (by show dp + 1 + (k + 2) < _; omega) (by show un + 3 + 8 * (k + 2) + 100 < _; omega) ⟨?_, .tail _ (.head _), .tail _ (.tail _ (.head _)), .tail _ (.tail _ (.tail _ (.head _))), .tail _ (.tail _ (.tail _ (.tail _ (.head _)))), .tail _ (.tail _ (.tail _ (.tail _ (.tail _ (.head _)))))⟩ ?_
          · rw [hoF]; exact .head _
          rintro r led' h8 tk8 F8 N8 ⟨rfl, hkeep8, us8, e8, D8, hm8, hI8, hD8, hd8, hv8⟩
          have nf : f ≠ q := neN (by omega)
          have nc : c' ≠ q := neN (by omega)
          have n4 : L' + 1 + 1 + 1 ≠ q := neN (by omega)
          have n5 : L' + 1 + 1 ≠ q := neN (by omega)
          have n3 : L' + 1 ≠ q := neN (by omega)
          have k1 := hkeep8 _ (.head _) nf
          have k2 := hkeep8 _ (.tail _ (.head _)) nc
          have k3 := hkeep8 _ (.tail _ (.tail _ (.head _))) n4
          have k4 := hkeep8 _ (.tail _ (.tail _ (.tail _ (.head _)))) n5
          have k5 := hkeep8 _ (.tail _ (.tail _ (.tail _ (.tail _ (.head _))))) n3
          have k7 : ∀ p ∈ others q led, p ∈ led' := fun p hp => hkeep8 p (.tail _ (.tail _ (.tail _ (.tail _ (.tail _ (.tail _ hp)))))) (hqo' p hp)
          rw [← hoF] at k1
          replace N8 : News _ _ h8 ((f, oF) :: (c', oc) :: (L' + 1 + 1 + 1, o4) :: (L' + 1 + 1, o5) :: (L' + 1, o3) :: (q, listOf us8.toArray e8) :: others q led) := drops N8 (fun p hp => by
            simp only [List.mem_cons] at hp
            rcases hp with rfl | rfl | rfl | rfl | rfl | rfl | hp
            · exact k1
            · exact k2
            · exact k3
            · exact k4
            · exact k5
            · exact hm8
            · exact k7 p hp)
          rw [hoF] at N8
          clear hkeep8 k1 k2 k3 k4 k5 k7 N7
          have hdl8 : (ds.take x ++ D8 ++ ds.drop md).length = cnt := by simp [hD8]; omega
          w_strict k_steps
          refine Stop.out ?_
          refine Spec.use (ih up md y _ _ _ _ us8 e8 hup0 hup1 hmy hyl (by omega) hI8 hdl8) (by assumption) F8 (by assumption) N8 (by assumption) rfl (by show dp + 1 + (k + 2) < _; omega) (by show un + 3 + 8 * (k + 2) + 100 < _; omega) ⟨?_, .tail _ (.head _), .tail _ (.tail _ (.head _)), .tail _ (.tail _ (.tail _ (.head _))), .tail _ (.tail _ (.tail _ (.tail _ (.head _)))), .tail _ (.tail _ (.tail _ (.tail _ (.tail _ (.head _)))))⟩ ?_
          · rw [hoF]; exact .head _
          rintro r led9 h9 tk9 F9 N9 ⟨rfl, hkeep9, us9, e9, D9, hm9, hI9, hD9, hd9, hv9⟩
          replace N9 : News _ _ h9 ((q, listOf us9.toArray e9) :: others q led) := drops N9 (fun p hp => by
            rcases List.mem_cons.mp hp with rfl | hp
            · exact hm9
            · exact hkeep9 p (.tail _ (.tail _ (.tail _ (.tail _ (.tail _ (.tail _ hp)))))) (hqo' p hp))
          w_strict k_steps
          refine hret _ _ _ _ (by assumption) (by assumption) ⟨rfl, fun p hp hne => .tail _ (others_mem hp hne), us9, e9, D8 ++ D9, .head _, ?_, by simp [hD8, hD9]; omega, ?_, ?_⟩
          · have ea : (ds.take x ++ D8 ++ ds.drop md).take md = ds.take x ++ D8 := by
              rw [List.take_append_of_le_length (by simp [hD8]; omega), List.take_of_length_le (by simp [hD8]; omega)]
            have eb : (ds.take x ++ D8 ++ ds.drop md).drop y = ds.drop y := by
              rw [List.drop_append, List.drop_eq_nil_of_le (by simp [hD8]; omega), List.drop_drop, List.nil_append]
              congr 1
              simp [hD8]
              omega
            rw [ea, eb] at hI9
            simpa [List.append_assoc] using hI9
          · intro d hd'
            rcases List.mem_append.mp hd' with h | h
            · exact hd8 d h
            · exact hd9 d h
          · rw [val_append, hv8, hv9, hD8]; exact hsum
    refine Stop.out ?_
    have hcp : 0 < cnt := by
      have := intBits_pos hnz
      rcases Nat.eq_zero_or_pos cnt with h | h
      · rw [h] at hc2; omega
      · exact h
    rw [hzl]
    refine Spec.use (hin 16 x 0 cnt _ _ _ zs ws 0 hx0 (Int.lt_of_lt_of_le (lt_intBits hx0) (pow2_le (by rw [Nat.sub_zero]; exact hc2))) hcp (Nat.le_refl _) (by omega) hI3 hzl) (by assumption) F6 (by assumption) N6 (by assumption) rfl (by show dp + 1 + (16 + 2) < _; omega) (by show un + 3 + 8 * (16 + 2) + 100 < _; omega) ⟨?_, .tail _ (.head _), .tail _ (.tail _ (.tail _ (.head _))), .tail _ (.tail _ (.tail _ (.tail _ (.head _)))), .tail _ (.tail _ (.tail _ (.tail _ (.tail _ (.head _))))), .tail _ (.tail _ (.tail _ (.tail _ (.tail _ (.tail _ (.head _))))))⟩ ?_
    · rw [hoF]; exact .head _
    rintro r led' h8 tk8 F8 N8 ⟨rfl, hkeep8, us8, e8, D8, hm8, hI8, hD8, hd8, hv8⟩
    have n5 : L' + 1 + 1 ≠ q := neN (by omega)
    have nc : c' ≠ q := neN (by omega)
    have n37 : 37 ≠ q := neN (by omega)
    replace N8 : News g' L' h8 ((L' + 1 + 1, o5) :: (q, listOf us8.toArray e8) :: (c', oc) :: (37, tabObj (#[] ++ #[rawInt (35 : Nat), rawInt (4 : Nat), .ref c'])) :: others 37 news) := drops N8 (fun p hp => by
      simp only [List.mem_cons] at hp
      rcases hp with rfl | rfl | rfl | rfl | hp
      · exact hkeep8 _ (.tail _ (.tail _ (.tail _ (.tail _ (.head _))))) n5
      · exact hm8
      · exact hkeep8 _ (.tail _ (.head _)) nc
      · exact hkeep8 _ (.tail _ (.tail _ (.head _))) n37
      · exact hkeep8 p (.tail _ (.tail _ (.tail _ (.tail _ (.tail _ (.tail _ (.tail _ hp))))))) (Nat.ne_of_lt (hqo p (others_sub hp))))
    w_strict k_steps
    refine hret _ _ _ _ (by assumption) (by assumption) ⟨⟨fun p hp hne => .tail _ (.tail _ (.tail _ (.tail _ (others_mem hp hne)))), ⟨c', oc, vs', t', .tail _ (.tail _ (.tail _ (.head _))), .tail _ (.tail _ (.head _)), e1, e2, hc⟩⟩, q, us8, e8, D8, rfl, .tail _ (.head _), hqo, ?_, hd8, hv8, by rw [hD8, Nat.sub_zero]; omega, by rw [hD8]; omega⟩
    rw [List.take_zero, List.nil_append, List.drop_eq_nil_of_le (by omega), List.append_nil] at hI8
    exact hI8
  · rename_i h6 o4 F6 N6 d4 hnz kF kN Tc kX
    subst hnz
    have hcz : cnt = 0 := by
      have h0 : Builtin.Int.intBits 0 = 0 := rfl
      rw [h0] at hc1
      rcases Nat.eq_zero_or_pos cnt with h | h
      · exact h
      · have := Nat.le_mul_of_pos_right n h
        omega
    have hzn : zs = [] := List.length_eq_zero_iff.mp (by omega)
    rw [hzn] at hI3
    exact hret _ _ _ _ (by assumption) kN ⟨⟨fun p hp hne => .tail _ (.tail _ (.tail _ (.tail _ (.tail _ (.tail _ (.tail _ (others_mem hp hne))))))), ⟨c', oc, vs', t', .tail _ (.tail _ (.head _)), .tail _ (.head _), e1, e2, hc⟩⟩, q, ws, 0, [], rfl, .tail _ (.tail _ (.tail _ (.tail _ (.tail _ (.tail _ (.head _)))))), hqo, hI3, (fun d hd => nomatch hd), rfl, by simp, by simp⟩
end Mine
end PartC6
section PartM3
open PySem PySem.W PyProof.Rows PySem.Calls PySem.Spec
namespace Mine
section
variable {prog : Program} {w : World} {A : Around} {E : Value → Shared → Prop} {s s₂ : Shared} {env : Env} {h₀ : Heap} {x : Str} {body : List Stmt} {Q : Flow → Shared → Prop}
/-- a loop over reversed(list of ints) -/
theorem iter_rev {Dv l : Addr} {vs : List Value} {ns : List Int} {n0 : Nat} {m₀ : Str → Option Value} {led₀ : Led} (J : Nat → (Str → Option Value) → Led → Prop)
    (hh : A.handled = none) (hl : (l, listOf vs.toArray n0) ∈ led₀) (hi : IntsAre vs ns) (F : Fr h₀ env.locals s.heap m₀) (N : News h₀ env.locals s.heap ((Dv, revObj l ((vs.length : Int) - 1)) :: led₀)) (hj : J 0 m₀ led₀)
    (hJ : ∀ i m led, J i m led → (∀ p ∈ led, p.1 ≠ Dv) ∧ (l, listOf vs.toArray n0) ∈ led)
    (turn : ∀ i (n : Int) (t : Tok) m₁ led₁ oI h tk, i < ns.length → ns[ns.length - 1 - i]? = some n → J i m₁ led₁ → Fr h₀ env.locals h (fun y => if y = x then some (.int n t) else m₁ y) → News h₀ env.locals h ((Dv, oI) :: led₁) →
      wpAny (model prog w) A (execs body env) (TurnEnd h₀ env.locals Dv oI (J (i + 1)) { s with heap := h, toks := tk } Q) E { s with heap := h, toks := tk })
    (done : ∀ m₁ led₁ h tk, J ns.length m₁ led₁ → Fr h₀ env.locals h m₁ → News h₀ env.locals h led₁ → Q .next { s with heap := h, toks := tk }) :
    wpAny (model prog w) A (pyIter (.ref Dv)) (fun it s₂ => LoopAtV prog w A h₀ env x body Q E it s₂) E s := by
  have hne : l ≠ Dv := (hJ 0 _ _ hj).1 _ hl
  have hls : s.heap.IsList l vs.toArray := ⟨_, (N _ (.tail _ hl)).1, rfl, _, rfl⟩
  have hit : s.heap.IsRevIter Dv l ((vs.toArray.size : Int) - 1 - (0 : Nat)) := ⟨_, (N _ (.head _)).1, rfl, by simp [revObj]⟩
  refine wpAny_pyIter_revIter hit ?_
  have W := Walks.listRev (prog := prog) (w := w) hh Dv l hne vs.toArray
  refine loop_led (ls := [l]) [(l, listOf vs.toArray n0)] J W ?_ (N _ (.head _)).2.2 ⟨Nat.zero_le _, hit, hls⟩ ?_ F (drop1 N) hj ?_ ?_ ?_ ?_
  · intro hm
    rcases List.mem_cons.mp hm with e | hm
    · exact (N _ (.head _)).2.1 e.symm
    · exact (N _ (.tail _ hl)).2.1 (List.mem_singleton.mp hm).symm
  · rintro i h ⟨_, ⟨o, ho, _⟩, _⟩; exact ⟨o, ho⟩
  · intro b hb _; rw [List.mem_singleton.mp hb]; exact ⟨_, .head _⟩
  · intro i m led hj'; exact ⟨(hJ i m led hj').1, fun p hp => by rw [List.mem_singleton.mp hp]; exact (hJ i m led hj').2⟩
  · intro i v m₁ led₁ oI h tk hin hP hJi F₁ N₁
    have hlen : vs.toArray.size = ns.length := by simp [hi.length]
    rw [hlen] at hin hP
    obtain ⟨t, hx⟩ := hi.get (ns.length - 1 - i) ns[ns.length - 1 - i] (by rw [List.getElem?_eq_getElem])
    have hv : v = .int ns[ns.length - 1 - i] t := by
      have hP' : vs[ns.length - 1 - i]? = some v := by simpa using hP
      rw [hx] at hP'; exact (Option.some.inj hP').symm
    subst hv
    exact turn i _ t m₁ led₁ oI h tk hin (by rw [List.getElem?_eq_getElem]) hJi F₁ N₁
  · intro m₁ led₁ h tk hJn F₁ N₁
    exact done m₁ led₁ h tk (by rw [show ns.length = vs.toArray.size by simp [hi.length]]; exact hJn) F₁ N₁
end
theorem TabSt.mono {P line col : Nat} {q : Str} {led led' : Led} (T : TabSt P line col q led) (h : ∀ x ∈ led, x ∈ led') : TabSt P line col q led' := by
  rcases T with h1 | ⟨c', oc, vs, t, h1, h2, h3, h4⟩
  · exact .inl (h _ h1)
  · exact .inr ⟨c', oc, vs, t, h _ h1, h _ h2, h3, h4⟩
theorem TabSt.entry {P line col : Nat} {q : Str} {led : Led} (T : TabSt P line col q led) : ∃ ps : Array Value, (P, tabObj ps) ∈ led ∧ ∀ x t, ps[1]? ≠ some (.str x t) := by
  rcases T with h1 | ⟨c', oc, vs, t, h1, h2, h3, h4⟩
  · exact ⟨_, h1, fun x t => by simp⟩
  · exact ⟨_, h1, fun x t => by simp [rawInt]⟩
theorem TabSt.move {P P' line col line' col' : Nat} {q q' : Str} {led led' : Led} {h₀ h : Heap} {L : Addr} (N : News h₀ L h led) (hP : P ≠ P') (T : TabSt P line col q led) (T' : TabSt P' line' col' q' led) (hk : ∀ x ∈ led, x.1 ≠ P' → x ∈ led') : TabSt P line col q led' := by
  rcases T with h1 | ⟨c', oc, vs, t, h1, h2, h3, h4⟩
  · exact .inl (hk _ h1 hP)
  · refine .inr ⟨c', oc, vs, t, hk _ h1 hP, hk _ h2 ?_, h3, h4⟩
    rintro rfl
    obtain ⟨ps, e1, e2⟩ := T'.entry
    have a1 := (N _ h2).1
    have a2 := (N _ e1).1
    dsimp only at a1 a2
    rw [a1] at a2
    cases a2
    cases h3
    exact e2 _ _ h4
theorem TabSt.ne {P line col : Nat} {q q' : Str} {led : Led} {h₀ h : Heap} {L : Addr} {x : Addr × Obj} {vs : Array Value} {t : Tok} (N : News h₀ L h led) (T : TabSt P line col q led) (hx : x ∈ led) (h3 : x.2.data = .fields vs) (h4 : vs[1]? = some (.str q' t)) : x.1 ≠ P := by
  obtain ⟨c', oc⟩ := x
  rintro rfl
  obtain ⟨ps, e1, e2⟩ := T.entry
  have a1 := (N _ hx).1
  have a2 := (N _ e1).1
  dsimp only at a1 a2 h3
  rw [a1] at a2
  cases a2
  cases h3
  exact e2 _ _ h4
theorem TabTo.st {P line col : Nat} {q : Str} {led led' : Led} (T : TabTo P line col q led led') : TabSt P line col q led' :=
  let ⟨c', oc, vs, t, h1, h2, h3, h4, _⟩ := T; .inr ⟨c', oc, vs, t, h1, h2, h3, h4⟩
/-- the inner code's address is one that was told, or new -/
theorem TabTo.old {P line col : Nat} {q : Str} {h₀ h : Heap} {L : Addr} {news led led' : Led} (N : News h₀ L h led) (hsub : ∀ x ∈ news, x.1 = P ∨ (∃ vs, x.2.data = .fields vs ∧ ∃ t, vs[1]? = some (.str q t)) → x ∈ led) (T : TabSt P line col q news) (TT : TabTo P line col q led led') :
    ∃ (c' : Addr) (oc : Obj) (vs : Array Value) (t : Tok), (P, tabObj (#[] ++ #[rawInt line, rawInt col, .ref c'])) ∈ led' ∧ (c', oc) ∈ led' ∧ oc.data = .fields vs ∧ vs[1]? = some (.str q t) ∧
    (((P, tabObj (#[] ++ #[rawInt line, rawInt col, .ref c'])) ∈ news ∧ (c', oc) ∈ news) ∨ ∀ p ∈ led, p.1 < c') := by
  obtain ⟨c', oc, vs, t, m1, m2, e1, e2, h⟩ := TT
  refine ⟨c', oc, vs, t, m1, m2, e1, e2, ?_⟩
  rcases h with ⟨a1, a2⟩ | h
  · left
    have b1 := (N _ a1).1
    have b2 := (N _ a2).1
    rcases T with h1 | ⟨c, o, us, u, h1, h2, h3, h4⟩
    · have b3 := (N _ (hsub _ h1 (.inl rfl))).1
      dsimp only at b1 b3
      rw [b1] at b3
      have := congrArg (fun o : Option Obj => o.map (·.data)) b3
      simp at this
    · have b3 := (N _ (hsub _ h1 (.inl rfl))).1
      have b4 := (N _ (hsub _ h2 (.inr ⟨us, h3, u, h4⟩))).1
      dsimp only at b1 b2 b3 b4
      rw [b1] at b3
      have e := congrArg (fun o : Option Obj => o.map (·.data)) b3
      simp at e
      subst e
      rw [b2] at b4
      cases b4
      exact ⟨h1, h2⟩
  · exact .inr h
end Mine
end PartM3
section PartP2
namespace Mine
theorem div_step {n : Nat} {b r d V T : Int} (hb : 0 < b) (hr0 : 0 ≤ r) (hr1 : r < b) (hd0 : 0 ≤ d) (hd1 : d < 2 ^ n) (h : V * b + r = T) :
    ((r * 2 ^ n + d) / b + 2 ^ n * V) * b + (r * 2 ^ n + d) % b = d + 2 ^ n * T ∧ 0 ≤ (r * 2 ^ n + d) / b ∧ (r * 2 ^ n + d) / b < 2 ^ n ∧ 0 ≤ (r * 2 ^ n + d) % b ∧ (r * 2 ^ n + d) % b < b ∧ 0 ≤ r * 2 ^ n + d ∧ r * 2 ^ n + d < b * 2 ^ n := by
  have hp := pow2_pos n
  have h0 : 0 ≤ r * 2 ^ n + d := by
    have := Int.mul_nonneg hr0 (Int.le_of_lt hp)
    omega
  have h1 : r * 2 ^ n + d < b * 2 ^ n := by
    have : (r + 1) * 2 ^ n ≤ b * 2 ^ n := Int.mul_le_mul_of_nonneg_right hr1 (Int.le_of_lt hp)
    rw [Int.add_mul, Int.one_mul] at this
    omega
  refine ⟨?_, Int.ediv_nonneg h0 (Int.le_of_lt hb), Int.ediv_lt_of_lt_mul hb (by rw [Int.mul_comm (2 ^ n) b]; exact h1), Int.emod_nonneg _ (Int.ne_of_gt hb), Int.emod_lt_of_pos _ hb, h0, h1⟩
  have e := Int.emod_add_mul_ediv (r * 2 ^ n + d) b
  rw [← h, Int.add_mul, Int.mul_add, Int.mul_assoc]
  have e2 : (r * 2 ^ n + d) / b * b = b * ((r * 2 ^ n + d) / b) := Int.mul_comm _ _
  have e3 : r * 2 ^ n = 2 ^ n * r := Int.mul_comm _ _
  omega
theorem val_drop_succ {n : Nat} {D : List Int} {i : Nat} {d : Int} (hi : i < D.length) (hd : D[D.length - 1 - i]? = some d) : val n (D.drop (D.length - (i + 1))) = d + 2 ^ n * val n (D.drop (D.length - i)) := by
  have hlt : D.length - (i + 1) < D.length := by omega
  have e : D[D.length - (i + 1)] = d := by
    have := hd
    rw [show D.length - 1 - i = D.length - (i + 1) by omega, List.getElem?_eq_getElem hlt] at this
    exact Option.some.inj this
  rw [List.drop_eq_getElem_cons hlt, e, val, show D.length - (i + 1) + 1 = D.length - i by omega]
theorem val_snoc_rev (n : Nat) (qs : List Int) (q : Int) : val n (qs ++ [q]).reverse = q + 2 ^ n * val n qs.reverse := by
  rw [List.reverse_append]; rfl
end Mine
end PartP2
section Group
open PySem PySem.W PyProof.Rows PySem.Calls PySem.Spec
local macro_rules | `(tactic| walk_at "call builtin:list.append") => `(tactic| (k_here; (refine' Mine.append_led ?k1 ?k2 ?k3 ?k4 ?_; (case k1 => k_asm); (case k2 => k_asm); (case k3 => k_upd); (case k4 => omega); k_whole); (intro h' F' N')))
section PartC2
open PySem PySem.W PyProof.Rows PySem.Calls PySem.Spec
namespace Mine
theorem fill2 : ∀ (w : World) (h : Heap), (Mine.hd.heap_39 w.params).In h → Challenge.rw_oc0103_01 = Challenge.rw_oc0103_01 := by
  k_fill
  intros; rfl
local macro_rules | `(tactic| walk_at "pyIter ref") => `(tactic| refine Stop.mk ?_)
def wstep (acc : List Int) (x : Int) : List Int :=
  acc ++ [if x % 2 = 0 ∧ acc ≠ [] then acc.getD (acc.length - 1 - (x / 2 % acc.length).toNat) 0 else x / 2 % 64]
theorem wstep_plain {acc : List Int} {x : Int} (h : x.fmod 2 ≠ 0 ∨ acc = []) : wstep acc x = acc ++ [(x.fdiv 2).fmod 64] := by
  rw [fmod_pos _ (by decide)] at h
  rw [fdiv_pos _ (by decide), fmod_pos _ (by decide), wstep, if_neg]
  intro ⟨h1, h2⟩
  exact h.elim (fun q => q h1) h2
theorem wstep_back {acc : List Int} {x : Int} (h : x.fmod 2 = 0) (h2 : acc ≠ []) : wstep acc x = acc ++ [acc.getD (-1 - (x.fdiv 2).fmod acc.length + acc.length).toNat 0] := by
  have h3 : 0 < acc.length := List.length_pos_iff.mpr h2
  have h4 : (0 : Int) < acc.length := by omega
  rw [fmod_pos _ (by decide)] at h
  rw [fdiv_pos _ (by decide), fmod_pos _ h4, wstep, if_pos ⟨h, h2⟩]
  have := Int.emod_lt_of_pos (x / 2) h4
  have := Int.emod_nonneg (x / 2) (Int.ne_of_gt h4)
  congr 3
  omega
set_option maxRecDepth 100000 in
set_option maxHeartbeats 8000000 in
theorem word_spec (w : World) (l : Addr) (vs : List Value) (ns : List Int) (hi : IntsAre vs ns) (hlen : ns.length ≤ 16) (n0 : Nat) :
   Spec w 107 2 [.ref l] (fun _ news => (l, listOf vs.toArray n0) ∈ news) (fun news r news' => ∃ (q : Addr) (us : List Value) (n : Nat), r = .ref q ∧ news' = (q, listOf us.toArray n) :: news ∧ (∀ p ∈ news, p.1 < q) ∧ IntsAre us (ns.foldl wstep [])) := by
  w_top off
  unfold Spec
  intro p loose mean mg mb dp un gd cn cs a ccd cl outer A₀ base h₀ L m news s Q E B F X N T hk hd hu hpre hret
  have hi0 := hi.length
  refine wpAny_call ?_
  k_dflt cell_enter
  w_strict k_steps
  rename_i g' L' h1 FG B' X' T' l' h2 hlt h3 F1 N1
  refine Stop.out ?_
  have hsz : ∀ p ∈ (l', listOf #[] 0) :: news, p.1 < h3.objs.size := fun p hp => Heap.lt_size (N1 p hp).1
  have hl' := ltN (hsz _ (.head _))
  rename IntsAre vs ns => hi
  refine iter_ints (fun i m led => ∃ (us : List Value) (n : Nat) (acc : List Int), m (Str.ofString "word") = some (.ref l') ∧ led = (l', listOf us.toArray n) :: news ∧ IntsAre us acc ∧ acc = (ns.take i).foldl wstep [] ∧ us.length = i ∧ acc.length = i) rfl (.tail _ hpre) hi F1 N1 ?_ ?_ ?_ ?_
  · exact ⟨[], 0, [], rfl, rfl, IntsAre.nil, rfl, rfl, rfl⟩
  · rintro i m led ⟨us, n, acc, _, rfl, _⟩
    refine ⟨?_, .tail _ hpre⟩
    intro p hp
    rcases List.mem_cons.mp hp with rfl | hp
    · exact Nat.ne_of_lt hl'
    · exact Nat.ne_of_lt (hsz _ (.tail _ hp))
  · rintro i x t m₁ led₁ oI h tk hx ⟨us, n, acc, hmw, rfl, hus, hacc, hul, hal⟩ F2 N2
    clear F1 N1
    rw [see hmw] at F2
    dsimp only at F2 N2 ⊢
    k_fold
    have hi16 : i < 16 := Nat.lt_of_lt_of_le (List.getElem?_eq_some_iff.mp hx).1 hlen
    w_strict k_steps
    · refine TurnEnd.next (by assumption) (by assumption) ⟨_, _, _, rfl, rfl, ints_snoc hus _ _, ?_, by simp [hul], by simp [hal]⟩ (by k_mem) (fun p hp => .tail _ (.tail _ hp))
      rw [foldl_take_succ hx, ← hacc, wstep_plain (.inr (by simpa using ‹decide (acc = []) = true›))]
    · have hz : (acc.length : Int) = 0 := by assumption
      have hz2 : acc = [] := List.length_eq_zero_iff.mp (by omega)
      have hz3 : decide (acc = []) = false := by assumption
      simp [hz2] at hz3
    · rename_i N3 _ hne hnz
      have hnz' : 0 < acc.length := by omega
      have h4 : (0 : Int) < acc.length := by omega
      have b1 := Int.emod_lt_of_pos (x.fdiv 2) h4
      have b2 := Int.emod_nonneg (x.fdiv 2) (Int.ne_of_gt h4)
      rw [← fmod_pos _ h4] at b1 b2
      refine sub_ints_neg N3 (.tail _ (.tail _ (.head _))) hus (by omega) (by omega) (by omega) ?_
      intro t'
      w_strict k_steps
      refine TurnEnd.next (by assumption) (by assumption) ⟨_, _, _, rfl, rfl, ints_snoc hus _ _, ?_, by simp [hul], by simp [hal]⟩ (by k_mem) (fun p hp => .tail _ (.tail _ hp))
      rw [foldl_take_succ hx, ← hacc, wstep_back (by assumption) (by simpa using hne)]
    · refine TurnEnd.next (by assumption) (by assumption) ⟨_, _, _, rfl, rfl, ints_snoc hus _ _, ?_, by simp [hul], by simp [hal]⟩ (by k_mem) (fun p hp => .tail _ hp)
      rw [foldl_take_succ hx, ← hacc, wstep_plain (.inl (by assumption))]
  · intro m₁ led₁ h tk hJ F2 N2
    obtain ⟨us, n, acc, hmw, rfl, hus, hacc, hul, hal⟩ := hJ
    clear F1 N1
    rw [see hmw] at F2
    dsimp only
    w_strict k_steps
    rw [List.take_length] at hacc
    exact hret _ _ _ _ (by assumption) (by assumption) ⟨_, _, _, rfl, rfl, hlt, hacc ▸ hus⟩
end Mine
end PartC2
section PartC7
open PySem PySem.W PyProof.Rows PySem.Calls PySem.Spec
namespace Mine
theorem fill7 : ∀ (w : World) (h : Heap), (Mine.hd.heap_39 w.params).In h → Challenge.rw_oc0103_01 = Challenge.rw_oc0103_01 := by
  k_fill
  intros; rfl
local macro_rules | `(tactic| walk_at "call ref") => `(tactic| refine Stop.mk ?_)
local macro_rules | `(tactic| walk_at "pyIter ref") => `(tactic| refine Stop.mk ?_)
local macro_rules | `(tactic| walk_at "call builtin:list.reverse") => `(tactic| refine Stop.mk ?_)
local macro_rules | `(tactic| walk_at "binaryOp LShift int int") => `(tactic| refine Stop.mk ?_)
set_option maxRecDepth 100000 in
set_option maxHeartbeats 8000000 in
theorem divmod_spec (w : World) (x : Int) (pw : Nat) (tx t : Tok) (hx0 : 0 ≤ x) (hx : x < 2 ^ 16) (hpw : pw ≤ 16) :
   Spec w 56 30 [.int x tx, .int (2 ^ pw) t] (fun h₀ news => TabSt 37 35 4 q37 news ∧ TabSt 44 50 4 q44 news ∧ CodeHd h₀ 41 37 ∧ CodeHd h₀ 48 44)
     (fun news r news' => (∀ q ∈ news, q.1 ≠ 37 → q.1 ≠ 44 → q ∈ news') ∧ TabTo 37 35 4 q37 news news' ∧ TabTo 44 50 4 q44 news news' ∧
     ∃ (q : Addr) (t t' : Tok), r = .ref q ∧ (q, tupO [.int (x / 2 ^ pw) t, .int (x % 2 ^ pw) t']) ∈ news' ∧ (∀ p ∈ news, p.1 < q)) := by
  w_top off
  unfold Spec
  intro p loose mean mg mb dp un gd cn cs a ccd cl outer A₀ base h₀ L m news s Q E B F X N T hk hd hu hpre hret
  obtain ⟨ht37, ht44, hc37, hc44⟩ := hpre
  have hbits : Builtin.Int.intBits (2 ^ pw) = pw + 1 := intBits_pow pw
  refine wpAny_call ?_
  k_dflt cell_enter
  rename_i g' L' h1 FG F1 N1 B' X' T'
  replace hc37 : CodeHd g' 41 37 := hc37.keeps FG.keep
  replace hc44 : CodeHd g' 48 44 := hc44.keeps FG.keep
  w_strict k_steps
  refine Stop.out ?_
  rename_i F2 N2
  rw [hbits] at F2 ⊢
  refine Spec.use (split_spec w x (pw + 1) _ _ hx0 hx (by omega) (by omega)) (by assumption) F2 (by assumption) N2 (by assumption) rfl (by show dp + 1 + 25 < _; omega) (by show un + 3 + 8 * 25 + 100 < _; omega) ⟨ht37, hc37⟩ ?_
  rintro r led1 h3 tk3 F3 N3 ⟨⟨hkeep1, ht37t⟩, q1, us1, e1, D, rfl, hm1, hfr1, hI1, hD1, hv1, hnl1, hl1⟩
  have ht37' := ht37t.st
  have ht44n := ht44
  have hsub44 : ∀ x ∈ news, x.1 = 44 ∨ (∃ vs, x.2.data = .fields vs ∧ ∃ t, vs[1]? = some (.str q44 t)) → x ∈ led1 := by
    rintro x hx (e | ⟨vs, e1, t, e2⟩)
    · exact hkeep1 x hx (by rw [e]; decide)
    · exact hkeep1 x hx (ht37.ne N2 hx e1 e2)
  replace ht44 : TabSt 44 50 4 q44 led1 := ht44.move N2 (by decide) ht37 hkeep1
  have hq1 : ∀ p ∈ news, p.1 < q1 := hfr1
  replace N3 := dup N3 hm1
  have hn1 := hI1.length
  w_strict k_steps
  refine Stop.out ?_
  rename_i h4 h5 tk5 h6 ql h7 hql h8 Rv h9 F4 N4 hRv
  have hqo : ∀ p ∈ led1, p.1 < ql := of_allLt hql.2
  have hRo : ∀ p ∈ led1, p.1 < Rv := of_allLt hRv.2.2
  have hql1 := hql.1
  have hRq := hRv.1
  have hRq1 := hRv.2.1
  refine iter_rev (fun i m led => ∃ (r : Int) (qs : List Int) (uq : List Value) (eq : Nat) (tr tn tb : Tok), m (Str.ofString "r") = some (.int r tr) ∧ m (Str.ofString "q_digits") = some (.ref ql) ∧ m (Str.ofString "n") = some (.int ((pw + 1 : Nat) : Int) tn) ∧ m (Str.ofString "b") = some (.int (2 ^ pw) tb) ∧
      led = (ql, listOf uq.toArray eq) :: (q1, listOf us1.toArray e1) :: led1 ∧ IntsAre uq qs ∧ qs.length = i ∧ uq.length = i ∧ (∀ d ∈ qs, 0 ≤ d ∧ d < 2 ^ (pw + 1)) ∧ 0 ≤ r ∧ r < 2 ^ pw ∧ val (pw + 1) qs.reverse * 2 ^ pw + r = val (pw + 1) (D.drop (D.length - i)))
    rfl (.tail _ (.head _)) hI1 F4 N4 ?_ ?_ ?_ ?_
  · refine ⟨0, [], [], 0, _, _, _, rfl, rfl, rfl, rfl, rfl, IntsAre.nil, rfl, rfl, (fun d hd => nomatch hd), Int.le_refl _, pow2_pos _, ?_⟩
    rw [Nat.sub_zero, List.drop_length]; simp [val]
  · rintro i m led ⟨r, qs, uq, eq, tr, tn, tb, _, _, _, _, rfl, _⟩
    refine ⟨fun p hp => ?_, .tail _ (.head _)⟩
    rcases List.mem_cons.mp hp with rfl | hp
    · exact Nat.ne_of_lt hRq
    · rcases List.mem_cons.mp hp with rfl | hp
      · exact Nat.ne_of_lt hRq1
      · exact Nat.ne_of_lt (hRo p hp)
  · rintro i d td m₁ led₁ oI h10 tk10 hilt hdg ⟨r, qs, uq, eq, tr, tn, tb, hmr, hmq, hmn, hmb, rfl, hIq, hlq, hlu, hdq, hr0, hr1, hval⟩ F5 N5
    clear F4 N4
    rw [see hmr, see hmq, see hmn, see hmb] at F5
    dsimp only at F5 N5 ⊢
    k_fold
    have hdd := hD1 d (List.mem_of_getElem? hdg)
    obtain ⟨s1, s2, s3, s4, s5, s6, s7⟩ := div_step (n := pw + 1) (pow2_pos pw) hr0 hr1 hdd.1 hdd.2 hval
    have hpl : (2 : Int) ^ pw ≤ 2 ^ 16 := pow2_le hpw
    have hpl2 : (2 : Int) ^ pw * 2 ^ (pw + 1) ≤ 2 ^ 33 := by rw [← Int.pow_add]; exact pow2_le (by omega)
    w_strict k_steps
    refine Stop.out ?_
    refine lshift_int_small (by omega) (by omega) (by omega) ?_
    rw [Int.toNat_natCast]
    w_strict k_steps
    refine Stop.out ?_
    refine Spec.use (div2n1n_spec w _ _ _ _ _ _ s6 (by omega) (pow2_pos pw) (by omega) (by omega)) (by assumption) F5 (by assumption) N5 (by assumption) rfl (by show dp + 1 + 2 < _; omega) (by show un + 3 + 8 * 2 + 100 < _; omega) trivial ?_
    rintro r' led' h11 tk11 F6 N6 ⟨tq, t1, t2, rfl, rfl, htq⟩
    have htq1 := ltN (htq _ (.head _))
    have htq2 := ltN (htq _ (.tail _ (.head _)))
    have htq3 := ltN (htq _ (.tail _ (.tail _ (.head _))))
    w_strict k_steps
    refine TurnEnd.next (by assumption) (by assumption) ⟨_, _, _, _, _, _, _, rfl, rfl, rfl, rfl, rfl, ints_snoc hIq _ _, by simp [hlq], by simp [hlu], ?_, s4, s5, ?_⟩ (by k_mem) (fun p hp => .tail _ (.tail _ hp))
    · intro z hz
      rcases List.mem_append.mp hz with h | h
      · exact hdq z h
      · rw [List.mem_singleton.mp h]; exact ⟨s2, s3⟩
    · rw [val_snoc_rev, val_drop_succ hilt hdg]; exact s1
  · rintro m₁ led₁ h10 tk10 ⟨r, qs, uq, eq, tr, tn, tb, hmr, hmq, hmn, hmb, rfl, hIq, hlq, hlu, hdq, hr0, hr1, hval⟩ F5 N5
    clear F4 N4
    rw [see hmr, see hmq, see hmn, see hmb] at F5
    dsimp only at F5 N5 ⊢
    rw [Nat.sub_self, List.drop_zero, hv1] at hval
    have hne : ∀ p ∈ (q1, listOf us1.toArray e1) :: led1, p.1 ≠ ql := fun p hp => by
      rcases List.mem_cons.mp hp with rfl | hp
      · exact Nat.ne_of_lt hql1
      · exact Nat.ne_of_lt (hqo p hp)
    w_strict k_steps
    refine Stop.out ?_
    refine reverse_head_ints F5 N5 hne hIq ?_ (by rw [sizeLine_eq]; omega)
    intro h11 F6 N6 hI6
    w_strict k_steps
    refine Stop.out ?_
    refine Spec.use (digits_spec w _ _ _ (pw + 1) _ hI6 (by simp; omega) (by omega) (by simp; rw [hlq]; omega) (fun z hz => hdq z (List.mem_reverse.mp hz)) _) (by assumption) F6 (by assumption) N6 (by assumption) rfl (by show dp + 1 + 20 < _; omega) (by show un + 3 + 8 * 20 + 100 < _; omega) ⟨.head _, ht44.mono (fun x hx => .tail _ (.tail _ hx)), hc44⟩ ?_
    rintro r' led2 h12 tk12 F8 N8 ⟨⟨hk2, ht44t⟩, t3, rfl⟩
    have ht44b := ht44t.st
    obtain ⟨hq, hr⟩ := (Int.ediv_emod_unique (pow2_pos pw) (a := x) (q := val (pw + 1) qs.reverse) (r := r)).mpr ⟨by rw [Int.mul_comm, Int.add_comm]; exact hval, hr0, hr1⟩
    rw [← hq]
    w_strict k_steps
    rename_i tkz hz1 Dt hz2 Fz Nz hDt kF kN Tc kX
    rw [← hr] at kN
    have ht37b : TabSt 37 35 4 q37 led2 := (ht37'.mono (led' := (ql, listOf uq.reverse.toArray eq) :: (q1, listOf us1.toArray e1) :: led1) (fun x hx => .tail _ (.tail _ hx))).move N6 (by decide) (ht44.mono (fun x hx => .tail _ (.tail _ hx))) hk2
    have hge : ∀ c' : Addr, (∀ p ∈ (ql, listOf uq.reverse.toArray eq) :: (q1, listOf us1.toArray e1) :: led1, p.1 < c') → ∀ p ∈ news, p.1 < c' := by
      intro c' h y hy
      by_cases h37 : y.1 = 37
      · obtain ⟨ps, hps, _⟩ := ht37'.entry
        rw [h37]; exact h _ (.tail _ (.tail _ hps))
      · exact h _ (.tail _ (.tail _ (hkeep1 y hy h37)))
    refine hret _ _ _ _ (by assumption) kN ⟨?_, ?_, ?_, Dt, _, _, rfl, .head _, ?_⟩
    · intro y hy h37 h44
      exact .tail _ (hk2 y (.tail _ (.tail _ (hkeep1 y hy h37))) h44)
    · obtain ⟨c', oc, vs, t, m1, m2, x1, x2, h⟩ := ht37t
      exact ⟨c', oc, vs, t, .tail _ (hk2 _ (.tail _ (.tail _ m1)) (show (37 : Nat) ≠ 44 by decide)), .tail _ (hk2 _ (.tail _ (.tail _ m2)) ((ht44.mono (led' := (ql, listOf uq.reverse.toArray eq) :: (q1, listOf us1.toArray e1) :: led1) (fun x hx => .tail _ (.tail _ hx))).ne N6 (.tail _ (.tail _ m2)) x1 x2)), x1, x2, h⟩
    · obtain ⟨c', oc, vs, t, m1, m2, x1, x2, h⟩ := ht44t.old N6 (fun x hx e => .tail _ (.tail _ (hsub44 x hx e))) ht44n
      exact ⟨c', oc, vs, t, .tail _ m1, .tail _ m2, x1, x2, h.imp id (hge c')⟩
    · intro y hy
      by_cases h37 : y.1 = 37
      · obtain ⟨ps, hps, _⟩ := ht37b.entry
        rw [h37]; exact hDt _ hps
      · by_cases h44 : y.1 = 44
        · obtain ⟨ps, hps, _⟩ := ht44b.entry
          rw [h44]; exact hDt _ hps
        · exact hDt y (hk2 y (.tail _ (.tail _ (hkeep1 y hy h37))) h44)
end Mine
end PartC7
end Group
section PartM4
open PySem PySem.W PyProof.Rows PySem.Calls PySem.Spec PyProof.Rows.LCg PyProof.Rows.LCt
namespace Mine
theorem CompEnd.mono {h₀ : Heap} {L I C D : Addr} {m : Str → Option Value} {s₁ : Shared} {oI oC oD : Obj} {S : Led → Prop} {r r' : Value → Led → Prop} {y : Value} {s₂ : Shared} (h : CompEnd h₀ L m s₁ I oI C oC D oD S r y s₂) (hr : ∀ y n, r y n → r' y n) : CompEnd h₀ L m s₁ I oI C oC D oD S r' y s₂ := by
  obtain ⟨h', tk, news', a, b, c, d, e, f⟩ := h
  exact ⟨h', tk, news', a, b, c, d, e, hr _ _ f⟩
section
variable {prog : Program} {w : World} {A : Around} {E : Value → Shared → Prop} {s : Shared} {h₀ : Heap} {L : Addr} {m : Str → Option Value} {env : Env} {ct elt iter : Expr} {x : Str} {px pos : Pos} {scope : Scope} {cl : List (Str × Addr)} {S : Led → Prop} {P : Nat → Value → Prop} {Fin : List Value → Led → Prop} {n : Nat}
theorem comp_rest (J : Nat → List Value → Led → Prop)
    (turn : ∀ i ys news v I oI C oC D m₂ h tk (E' : Value → Shared → Prop), i < n → J i ys news → P i v → NsObj oC m₂ → m₂ x = some v → Fr h₀ L h m → News h₀ L h ((I, oI) :: (C, oC) :: (D, lst ys) :: news) → Off3 I C D news → ((@Ne Nat I C) ∧ (@Ne Nat I D) ∧ (@Ne Nat C D)) →
      wpAny (model prog w) A (eval elt (compEnvC scope cl C env)) (CompEnd h₀ L m { s with heap := h, toks := tk } I oI C oC D (lst ys) S (fun y news' => J (i + 1) (ys ++ [y]) news')) E' { s with heap := h, toks := tk })
    (fin : ∀ ys news, J n ys news → Fin ys news) : ∀ k i ys news, k + i = n → J i ys news → CompRest prog w A h₀ L m env elt x scope cl s S P Fin k i ys news
  | 0, i, ys, news, hk, hJ => CompRest.zero (fin _ _ (by rw [← hk, Nat.zero_add]; exact hJ))
  | k + 1, i, ys, news, hk, hJ => CompRest.succ fun v I oI C oC D m₂ h tk E' hP ho hx F N off hne =>
      wpAny_mono (turn i ys news v I oI C oC D m₂ h tk E' (by omega) hJ hP ho hx F N off hne) (fun y s₂ hc => CompEnd.mono hc fun y nw hj => comp_rest J turn fin k (i + 1) (ys ++ [y]) nw (by omega) hj) fun _ _ e => e
theorem comp_restT (J : Nat → List Value → Led → Prop)
    (turn : ∀ i ys news v I oI C oC D m₂ h tk (E' : Value → Shared → Prop), i < n → J i ys news → P i v → NsObj oC m₂ → m₂ x = some v → Fr h₀ L h m → News h₀ L h ((I, oI) :: (C, oC) :: (D, lst ys) :: news) → Off3 I C D news → ((@Ne Nat I C) ∧ (@Ne Nat I D) ∧ (@Ne Nat C D)) →
      wpAny (model prog w) A (isTrue ct (compEnvC scope cl C env) (eval ct (compEnvC scope cl C env))) (fun ok s' => if ok = true then
        wpAny (model prog w) A (eval elt (compEnvC scope cl C env)) (CompEnd h₀ L m { s with heap := h, toks := tk } I oI C oC D (lst ys) S (fun y news' => J (i + 1) (ys ++ [y]) news')) E' s'
        else CompEnd h₀ L m { s with heap := h, toks := tk } I oI C oC D (lst ys) S (fun _ news' => J (i + 1) ys news') Value.none s') E' { s with heap := h, toks := tk })
    (fin : ∀ ys news, J n ys news → Fin ys news) : ∀ k i ys news, k + i = n → J i ys news → CompRestT prog w A h₀ L m env ct elt x scope cl s S P Fin k i ys news
  | 0, i, ys, news, hk, hJ => CompRestT.zero (fin _ _ (by rw [← hk, Nat.zero_add]; exact hJ))
  | k + 1, i, ys, news, hk, hJ => CompRestT.succ fun v I oI C oC D m₂ h tk E' hP ho hx F N off hne =>
      wpAny_mono (turn i ys news v I oI C oC D m₂ h tk E' (by omega) hJ hP ho hx F N off hne) (fun ok s₂ hc => by
        cases ok with
        | true =>
          simp only [if_true] at hc ⊢
          exact wpAny_mono hc (fun y s₃ hd => CompEnd.mono hd fun y nw hj => comp_restT J turn fin k (i + 1) (ys ++ [y]) nw (by omega) hj) fun _ _ e => e
        | false =>
          simp only [Bool.false_eq_true, if_false] at hc ⊢
          exact CompEnd.mono hc fun _ nw hj => comp_restT J turn fin k (i + 1) ys nw (by omega) hj) fun _ _ e => e
/-- what a comprehension's source is, whatever is walked -/
def Src (prog : Program) (w : World) (A : Around) (h₀ : Heap) (L : Addr) (m : Str → Option Value) (env : Env) (elt : Expr) (x : Str) (scope : Scope) (cl : List (Str × Addr)) (Fin : Shared → List Value → Led → Prop) (it : Value) (s₂ : Shared) : Prop :=
  ∃ (I : Addr) (n : Nat) (P : Nat → Value → Prop) (St : Nat → Heap → Prop) (news : Led), it = .ref I ∧ Walks prog w A I [I] [I] n P St ∧ n ≤ sizeLine ∧ (∀ i h, St i h → ∃ o, h.get? I = some o) ∧
    (∀ i h h' o, St i h → h.get? I = some o → h'.get? I = some o → St i h') ∧ St 0 s₂.heap ∧ I < s₂.heap.objs.size ∧ Fr h₀ L s₂.heap m ∧ News h₀ L s₂.heap news ∧ L ≠ I ∧ h₀.get? I = none ∧ (∀ p ∈ news, p.1 ≠ I) ∧
    CompRest prog w A h₀ L m env elt x scope cl s₂ (fun _ => True) P (Fin s₂) n 0 [] news
theorem ListComp_S {Q : Value → Shared → Prop} (_F₀ : Fr h₀ L s.heap m)
    (hclos : closureFor scope env = pure cl) (hcell : ∀ y ∈ scope.names, y.2 ≠ .cell) (hkind : scope.kind = .function)
    (hnames : ∀ y ∈ scope.names, y.2 = .local → scope.names.lookup y.1 = some .local) (hx : scope.names.lookup x = some .local)
    (h : wpAny (model prog w) A (eval iter env) (fun xv s₁ => wpAny (model prog w) A (pyIter xv) (Src prog w A h₀ L m env elt x scope cl (fun s₂ => FinE h₀ L m s₂ Q)) E s₁) E s)
    (hs : ∀ x, foldedSetIterable iter env x = pure x := by intro _; rfl) :
    wpAny (model prog w) A (eval (.ListComp elt [⟨.Name x px, iter, [], 0⟩] scope pos) env) Q E s := by
  rw [eval_ListComp]
  refine wpAny_comprehension_free (use := none) rfl hs hclos hkind hnames (wpAny_mono h (fun xv s₁ h₁ => ?_) fun _ _ e => e)
  refine wpAny_mono h₁ (fun it s₂ h₂ => ?_) fun _ _ e => e
  obtain ⟨I, n, P, St, news, rfl, W, hsz, hIo, hSt, hst, hlt, F, N, hIL, hI₀, off, R⟩ := h₂
  refine block_U W hsz hIo (fun i h h' o nw st e e' _ _ _ => hSt i h h' o st e e') hcell hkind hx hst (fun b hb => by rw [List.mem_singleton.mp hb]; exact hlt) F N hIL hI₀ off trivial R ?_
  intro D C h tk m' ys news' F' N' o1 hn hC₀ hD₀ hCL hDL hCD offC fin
  refine ⟨m', hn, fun h'' hs'' => fin D h'' tk (F'.change hs'' hCL hC₀) (fun p hp => ?_) o1⟩
  refine ⟨hs''.extBut _ _ ?_ (N' p hp).1, (N' p hp).2⟩
  rcases List.mem_cons.mp hp with rfl | hp
  · exact Ne.symm hCD
  · exact offC p hp
end
end Mine
namespace Mine
theorem rangeSize_down (k : Nat) : Builtin.Range.rangeSize ((k : Int) - 1) (-1) (-1) = (k : Int) := by
  unfold Builtin.Range.rangeSize
  rw [if_neg (by decide)]
  by_cases h : (k : Int) - 1 > -1
  · rw [if_pos h, show (-(-1) : Int) = 1 from rfl, Int.ediv_one]; omega
  · rw [if_neg h]; omega
section
variable {prog : Program} {w : World} {A : Around} {E : Value → Shared → Prop} {s₁ : Shared} {h₀ : Heap} {L : Addr} {m : Str → Option Value} {env : Env} {elt : Expr} {x : Str} {scope : Scope} {cl : List (Str × Addr)} {Fin : Shared → List Value → Led → Prop} {news : Led}
theorem src_down {r : Addr} {k : Nat} {t u v : Tok} (hh : A.handled = none) (hr : IsRange s₁.heap r ((k : Int) - 1) (-1) (-1) t u v) (hk : k ≤ 1000) (F : Fr h₀ L s₁.heap m) (N : News h₀ L s₁.heap news)
    (R : ∀ h, CompRest prog w A h₀ L m env elt x scope cl { s₁ with heap := h } (fun _ => True) (fun i v => i < k ∧ ∃ t, v = .int ((k : Int) - 1 - i) t) (Fin { s₁ with heap := h }) k 0 [] news) :
    wpAny (model prog w) A (pyIter (.ref r)) (Src prog w A h₀ L m env elt x scope cl Fin) E s₁ := by
  have hsm : Builtin.Range.small ((k : Int) - 1) (-1) (-1) = true := by
    simp only [Builtin.Range.small, Builtin.Range.rangeFitsLong, rangeSize_down, Bool.and_eq_true, decide_eq_true_eq, Bool.or_eq_true]
    refine ⟨⟨⟨⟨?_, ?_⟩, ?_⟩, ?_⟩, .inr ?_⟩ <;> (try simp) <;> omega
  refine wpAny_pyIter_range hr hsm ?_
  have W := (Walks.range (prog := prog) (w := w) hh s₁.heap.objs.size ((k : Int) - 1) (-1) k).bound
  have W' : Walks prog w A s₁.heap.objs.size [s₁.heap.objs.size] [s₁.heap.objs.size] k (fun i v => i < k ∧ ∃ t, v = .int ((k : Int) - 1 - i) t) (fun i h => IsRangeIter h s₁.heap.objs.size ((k : Int) - 1 + (i : Nat) * (-1)) ((k : Int) - (i : Nat)) (-1)) :=
    { sub := W.sub, frame := W.frame, done := W.done, self := W.self,
      item := fun i s Q E hi st hQ => W.item i s Q E hi st fun v h' tk hP => hQ v h' tk (by obtain ⟨h1, t, rfl⟩ := hP; exact ⟨h1, t, by rw [Int.mul_neg, Int.mul_one, ← Int.sub_eq_add_neg]⟩) }
  refine ⟨s₁.heap.objs.size, k, _, _, news, rfl, W', by rw [sizeLine_eq]; omega, fun i h st => ⟨_, st⟩, ?_, ?_, ?_, F.push _, fun p hp => ⟨Heap.get?_push_of_some _ (N p hp).1, (N p hp).2⟩, Nat.ne_of_lt F.ns.lt, next_is_new F, fun p hp => Nat.ne_of_lt (Heap.lt_size (N p hp).1), R _⟩
  · intro i h h' o st e e'
    have st' : h.get? s₁.heap.objs.size = some _ := st
    show h'.get? s₁.heap.objs.size = some _
    rw [e', ← e]; exact st'
  · show IsRangeIter _ _ _ _ _
    rw [rangeSize_down]
    simpa using Heap.get?_push_size _ rfl
  · show s₁.heap.objs.size < (s₁.heap.push _).objs.size
    rw [Heap.size_push]; exact Nat.lt_succ_self _
end
end Mine
end PartM4
section PartC8
open PySem PySem.W PyProof.Rows PySem.Calls PySem.Spec PyProof.Rows.LCg PyProof.Rows.LCt
namespace Mine
theorem fill8 : ∀ (w : World) (h : Heap), (Mine.hd.heap_39 w.params).In h → Challenge.rw_oc0103_01 = Challenge.rw_oc0103_01 := by
  k_fill
  intros; rfl
local macro_rules | `(tactic| walk_at "pyIter ref") => `(tactic| refine Stop.mk ?_)
local macro_rules | `(tactic| walk_at "eval ListComp") => `(tactic| refine Stop.mk ?_)
local macro_rules | `(tactic| walk_at "binaryOp Pow int int") => `(tactic| refine Stop.mk ?_)
local macro_rules | `(tactic| walk_at "binaryOp FloorDiv int int") => `(tactic| ((with_reducible show wpAny _ _ (binaryOp _ (Value.int _ _) (Value.int (HPow.hPow _ _) _)) _ _ _); refine Stop.mk ?_))
/-- the number that figures to the base 64 make, the first the greatest -/
def horn (ns : List Int) : Int := ns.foldl (fun a x => 64 * a + x) 0
/-- the octets that the figures' bits fill -/
def octs (ns : List Int) : List Int :=
  (List.range ((6 * ns.length + 7) / 8)).map fun j => (horn ns * 2 ^ (8 * ((6 * ns.length + 7) / 8) - 6 * ns.length)) / 256 ^ ((6 * ns.length + 7) / 8 - 1 - j) % 256
theorem horn_snoc (ns : List Int) (x : Int) : horn (ns ++ [x]) = 64 * horn ns + x := by simp [horn]
theorem horn_nonneg (ns : List Int) (h : ∀ x ∈ ns, 0 ≤ x ∧ x < 64) : 0 ≤ horn ns := by
  induction ns using snoc_ind with
  | h0 => exact Int.le_refl _
  | hs r x ih =>
    have h1 := ih fun y hy => h y (List.mem_append_left _ hy)
    have h2 := h x (List.mem_append_right _ (.head _))
    rw [horn_snoc]; omega
theorem horn_lt (ns : List Int) (h : ∀ x ∈ ns, 0 ≤ x ∧ x < 64) : horn ns < 2 ^ (6 * ns.length) := by
  induction ns using snoc_ind with
  | h0 => decide
  | hs r x ih =>
    have h1 := ih fun y hy => h y (List.mem_append_left _ hy)
    have h2 := h x (List.mem_append_right _ (.head _))
    rw [horn_snoc, List.length_append, List.length_singleton, Nat.mul_add, Int.pow_add]
    generalize (2 : Int) ^ (6 * r.length) = P at *
    show 64 * horn r + x < P * 64
    omega
set_option maxRecDepth 100000 in
set_option maxHeartbeats 8000000 in
theorem octets_spec (w : World) (l : Addr) (vs : List Value) (ns : List Int) (n0 : Nat) (hi : IntsAre vs ns) (hl1 : 1 ≤ ns.length) (hl16 : ns.length ≤ 16) (hns : ∀ x ∈ ns, 0 ≤ x ∧ x < 64) :
   Spec w 112 5 [.ref l] (fun _ news => (l, listOf vs.toArray n0) ∈ news) (fun news r news' => news' = news ∧ ∃ t, r = .bytes (byteArr (octs ns)) t) := by
  w_top off
  unfold Spec
  intro p loose mean mg mb dp un gd cn cs a ccd cl outer A₀ base h₀ L m news s Q E B F X N T hk hd hu hpre hret
  have hi0 := hi.length
  replace N := dup N hpre
  refine wpAny_call ?_
  (k_dflt (refine' code_defC ?k1 ?k2 ?k3 ?k4 ?k5 ?kA ?kF ?kK ?k6 ?k7 ?k8 ?k9 ?kB ?kD ?_ ?c2 ?c3 ?c4; (case kA => exact rfl); (case kF => exact rfl); (case kK => assumption); (case k1 => k_asm); (case k2 => k_asm); (case k3 => k_asm); (case k4 => k_asm); (case k5 => k_asm); (case k6 => k_is); (case k7 => k_is); (case k8 => ktr_room); (case k9 => exact BindsTo.of_eq rfl); (case kB => exact rfl); (case kD => decide +kernel); (case c2 => exact rfl); (case c3 => exact rfl); (case c4 => exact rfl); k_whole; intro g' L' h1 tk1 cells' FG F1 N1 Y' B' X' T' l1; (try k_lt l1); k_cells Y'; (try simp only [List.cons_append, List.nil_append] at N1); (try dsimp only); (try k_fold)))
  rename_i o1 d1
  replace d1 : o1.data = .cell none := d1
  have hlo : ∀ p ∈ news, p.1 < L' := of_allLt l1.2
  have hlo1 : ∀ p ∈ news, p.1 ≠ L' + 1 := fun p hp => by have := ltN (hlo p hp); exact neN (by omega)
  w_strict k_steps
  refine For_invV g' rfl rfl ?_
  w_strict k_steps
  refine Stop.out ?_
  rename_i h2 o2 F2 N2 d2
  have hsz : ∀ p ∈ (L' + 1, o2) :: (l, listOf vs.toArray n0) :: news, p.1 < h2.objs.size := fun p hp => Heap.lt_size (N2 p hp).1
  have hsz1 := ltN (hsz _ (.head _))
  have hsz2 := ltN (hsz _ (.tail _ (.head _)))
  have hll := ltN l1.1
  refine iter_ints (fun i m led => ∃ (oC : Obj) (v : Int) (t : Tok), m (Str.ofString "word") = some (.ref l) ∧ oC.data = .cell (some (.int v t)) ∧ v = horn (ns.take i) ∧ led = (L' + 1, oC) :: (l, listOf vs.toArray n0) :: news) rfl (.tail _ (.head _)) hi F2 N2 ?_ ?_ ?_ ?_
  · exact ⟨o2, 0, _, rfl, d2, rfl, rfl⟩
  · rintro i m led ⟨oC, v, t, _, _, _, rfl⟩
    refine ⟨fun p hp => ?_, .tail _ (.head _)⟩
    rcases List.mem_cons.mp hp with rfl | hp
    · exact Nat.ne_of_lt hsz1
    · exact Nat.ne_of_lt (hsz p (.tail _ hp))
  · rintro i x t m₁ led₁ oI h3 tk3 hx ⟨oC, v, t', hmw, hoc, hv, rfl⟩ F3 N3
    clear F2 N2
    rw [see hmw] at F3
    dsimp only at F3 N3 ⊢
    k_fold
    w_strict k_steps
    refine TurnEnd.next (by assumption) (by assumption) ⟨_, _, _, rfl, by assumption, ?_, rfl⟩ (by k_mem) (fun p hp => .tail _ hp)
    rw [horn, foldl_take_succ hx, ← horn, ← hv]
  · rintro m₁ led₁ h3 tk3 ⟨oC, v, t', hmw, hoc, hv, rfl⟩ F3 N3
    clear F2 N2
    rw [List.take_length] at hv
    rw [see hmw] at F3
    dsimp only at F3 N3 ⊢
    obtain ⟨sz, hszd⟩ : ∃ sz : Nat, sz = (6 * ns.length + 7) / 8 := ⟨_, rfl⟩
    have hszf : (6 * (ns.length : Int) + 7).fdiv 8 = (sz : Int) := by rw [fdiv_pos _ (by decide), hszd]; omega
    have hsb1 : 6 * ns.length ≤ 8 * sz := by omega
    have hsb2 : 8 * sz < 6 * ns.length + 8 := by omega
    have hsb3 : sz ≤ 12 := by omega
    replace hszd : Stop (sz = (6 * ns.length + 7) / 8) := hszd
    have hv0 : 0 ≤ v := by rw [hv]; exact horn_nonneg _ hns
    have hv1 : v < 2 ^ (6 * ns.length) := by rw [hv]; exact horn_lt _ hns
    have hv2 : v < 2 ^ 96 := Int.lt_of_lt_of_le hv1 (pow2_le (by omega))
    w_strict k_steps
    refine Stop.out ?_
    rename_i F4 N4
    rw [hszf] at F4 ⊢
    refine pow_int (by decide) (by decide) (by omega) (by omega) ?_
    intro t4 tk4
    rw [show (8 * (sz : Int) - 6 * ns.length).toNat = 8 * sz - 6 * ns.length by omega]
    have hv4 : v * 2 ^ (8 * sz - 6 * ns.length) < 2 ^ (8 * sz) := by
      rw [show 8 * sz = 6 * ns.length + (8 * sz - 6 * ns.length) by omega, Int.pow_add, show 6 * ns.length + (8 * sz - 6 * ns.length) - 6 * ns.length = 8 * sz - 6 * ns.length by omega]
      exact Int.mul_lt_mul_of_pos_right hv1 (pow2_pos _)
    have hv5 : 0 ≤ v * 2 ^ (8 * sz - 6 * ns.length) := Int.mul_nonneg hv0 (Int.le_of_lt (pow2_pos _))
    have hp1 : (2 : Int) ^ (8 * sz - 6 * ns.length) ≤ 2 ^ 8 := pow2_le (by omega)
    have hp0 := pow2_pos (8 * sz - 6 * ns.length)
    w_strict k_steps
    refine Stop.out ?_
    rename_i F5 N5 d5
    refine ListComp_S F5 rfl (by decide) rfl (by decide) rfl ?_
    w_strict k_steps
    refine Stop.out ?_
    generalize hV : v * 2 ^ (8 * sz - 6 * ns.length) = V at *
    refine src_down rfl (by assumption) (by omega) (by assumption) (by assumption) ?_
    intro h9
    refine comp_rest (fun i ys nw => nw = _ ∧ IntsAre ys ((List.range i).map fun j => V / 256 ^ (sz - 1 - j) % 256)) ?_ ?_ sz 0 [] _ rfl ⟨rfl, IntsAre.nil⟩
    · rintro i ys nw v2 I oI C oC D m2 h10 tk10 E' hilt ⟨rfl, hys⟩ ⟨_, t5, rfl⟩ hoC hm2 F6 N6 off hne
      w_strict k_steps
      refine Stop.out ?_
      refine pow_int (by decide) (by decide) (by omega) (by omega) ?_
      intro t6 tk6
      rw [show ((sz : Int) - 1 - i).toNat = sz - 1 - i by omega]
      have hpp : (0 : Int) < 256 ^ (sz - 1 - i) := by
        have := pow2_pos (8 * (sz - 1 - i))
        rw [Int.pow_mul] at this
        exact this
      w_strict k_steps
      (try refine Stop.out ?_)
      refine div_int 96 hpp ?_ (by decide) ?_
      · have : (2 : Int) ^ (8 * (sz - 1 - i)) < 2 ^ 96 := Int.lt_of_lt_of_le (show (2 : Int) ^ (8 * (sz - 1 - i)) < 2 ^ (8 * (sz - 1 - i) + 1) by rw [Int.pow_succ]; have := pow2_pos (8 * (sz - 1 - i)); omega) (pow2_le (by omega))
        rw [Int.pow_mul] at this
        exact this
      intro t7 tk7
      w_strict k_steps
      rw [fmod_pos _ (by decide)]
      refine LCg.CompEnd.intro (by assumption) N6 _ (fun p hp => hp) off trivial ⟨rfl, ?_⟩
      rw [List.range_succ, List.map_append]
      exact ints_snoc hys _ _
    · rintro ys nw ⟨rfl, hys⟩
      intro D h11 tk11 F6 N6 off
      w_strict k_steps
      have hsub : ∀ n ∈ (List.range sz).map (fun j => V / 256 ^ (sz - 1 - j) % 256), 0 ≤ n ∧ n < 256 := by
        intro n hn
        obtain ⟨j, _, rfl⟩ := List.mem_map.mp hn
        exact ⟨Int.emod_nonneg _ (by decide), Int.emod_lt_of_pos _ (by decide)⟩
      refine KBa.make_K F6 N6 rfl ⟨_, (N6 _ (.head _)).1, rfl, _, rfl⟩ hys hsub (by simp; omega) ?_
      intro h12 t8 k8 F8 N8 _
      w_strict k_steps
      refine hret _ news _ _ (by assumption) (drops (by assumption) fun p hp => .tail _ (.tail _ (.tail _ hp))) ⟨rfl, t8, ?_⟩
      rw [octs, ← Stop.mk hszd, ← hv, hV]
      rfl
end Mine
end PartC8
section PartM5
open PySem PySem.W PyProof.Rows PySem.Calls PySem.Spec
namespace Mine
theorem byteArr_get {os : List Int} {i : Nat} (hos : ∀ x ∈ os, 0 ≤ x ∧ x < 256) {c : UInt8} (h : (byteArr os)[i]? = some c) : os[i]? = some (c.toNat : Int) := by
  unfold byteArr at h
  simp only [List.getElem?_toArray, List.getElem?_map] at h
  cases hx : os[i]? with
  | none => rw [hx] at h; cases h
  | some x =>
    rw [hx] at h
    have hb := hos x (List.mem_of_getElem? hx)
    have e : x.toNat.toUInt8 = c := by simpa using h
    rw [← e]
    have : x.toNat < 256 := by omega
    have e2 : x.toNat.toUInt8.toNat = x.toNat := by
      rw [Nat.toUInt8_eq, UInt8.toNat_ofNat']
      omega
    rw [e2]
    congr 1
    omega
section
variable {prog : Program} {w : World} {A : Around} {E : Value → Shared → Prop} {s s₂ : Shared} {env : Env} {h₀ : Heap} {x : Str} {body : List Stmt} {Q : Flow → Shared → Prop}
/-- a loop over bytes -/
theorem iter_octets {os : List Int} {tb : Tok} {m₀ : Str → Option Value} {led₀ : Led} (J : Nat → (Str → Option Value) → Led → Prop)
    (hos : ∀ x ∈ os, 0 ≤ x ∧ x < 256) (hh : A.handled = none) (F : Fr h₀ env.locals s.heap m₀) (N : News h₀ env.locals s.heap led₀) (hj : J 0 m₀ led₀)
    (hJ : ∀ i m led, J i m led → ∀ p ∈ led, p.1 ≠ s.heap.objs.size)
    (turn : ∀ (i : Nat) (c : Int) (t : Tok) m₁ led₁ oI h tk, i < os.length → os[i]? = some c → J i m₁ led₁ → Fr h₀ env.locals h (fun y => if y = x then some (.int c t) else m₁ y) → News h₀ env.locals h ((s.heap.objs.size, oI) :: led₁) →
      wpAny (model prog w) A (execs body env) (TurnEnd h₀ env.locals s.heap.objs.size oI (J (i + 1)) { s with heap := h, toks := tk } Q) E { s with heap := h, toks := tk })
    (done : ∀ m₁ led₁ h tk, J os.length m₁ led₁ → Fr h₀ env.locals h m₁ → News h₀ env.locals h led₁ → Q .next { s with heap := h, toks := tk }) :
    wpAny (model prog w) A (pyIter (.bytes (byteArr os) tb)) (fun it s₂ => LoopAtV prog w A h₀ env x body Q E it s₂) E s := by
  refine KBw.pyIter_bytes ?_
  have W := KBw.walks (prog := prog) (w := w) hh s.heap.objs.size (byteArr os) tb
  have hsz : (byteArr os).size = os.length := by simp [byteArr]
  rw [hsz] at W
  refine loop_led (ls := []) [] J W ?_ (next_is_new F) ⟨_, Heap.get?_push_size _ rfl, rfl, rfl⟩ (fun i h st => by obtain ⟨o, e, _⟩ := st; exact ⟨o, e⟩) (F.push _) (fun p hp => ⟨Heap.get?_push_of_some _ (N p hp).1, (N p hp).2⟩) hj (fun b hb => nomatch hb) (fun i m led hj' => ⟨hJ i m led hj', fun p hp => nomatch hp⟩) ?_ done
  · intro hm
    exact absurd F.ns.lt ((List.mem_singleton.mp hm) ▸ Nat.lt_irrefl _)
  · rintro i v m₁ led₁ oI h tk hin ⟨c, u, hc, rfl⟩ hJi F₁ N₁
    exact turn i _ u m₁ led₁ oI h tk hin (byteArr_get hos hc) hJi F₁ N₁
end
end Mine
end PartM5
section PartP3
open PySem PySem.W PyProof.Rows PySem.Calls PySem.Spec
set_option maxRecDepth 100000
namespace Mine
/-- the number that octets make, the first the greatest -/
def num8 (os : List Int) : Int := os.foldl (fun a x => 256 * a + x) 0
theorem num8_snoc (os : List Int) (x : Int) : num8 (os ++ [x]) = 256 * num8 os + x := by simp [num8]
theorem num8_nonneg (os : List Int) (h : ∀ x ∈ os, 0 ≤ x ∧ x < 256) : 0 ≤ num8 os := by
  induction os using snoc_ind with
  | h0 => exact Int.le_refl _
  | hs r x ih =>
    have h1 := ih fun y hy => h y (List.mem_append_left _ hy)
    have h2 := h x (List.mem_append_right _ (.head _))
    rw [num8_snoc]; omega
/-- the first k sextets of T bits -/
def sx (V : Int) (T k : Nat) : List Int := (List.range k).map fun j => V / 2 ^ (T - 6 * (j + 1)) % 64
theorem sx_length (V : Int) (T k : Nat) : (sx V T k).length = k := by simp [sx]
theorem sx_zero (V : Int) (T : Nat) : sx V T 0 = [] := rfl
theorem sx_succ (V : Int) (T k : Nat) : sx V T (k + 1) = sx V T k ++ [V / 2 ^ (T - 6 * (k + 1)) % 64] := by
  rw [sx, List.range_succ, List.map_append]; rfl
theorem sx_in {V : Int} {T k : Nat} {x : Int} (h : x ∈ sx V T k) : 0 ≤ x ∧ x < 64 := by
  obtain ⟨j, _, rfl⟩ := List.mem_map.mp h
  exact ⟨Int.emod_nonneg _ (by decide), Int.emod_lt_of_pos _ (by decide)⟩
theorem sx_more {V b : Int} {T k : Nat} (hb : 0 ≤ b) (hb2 : b < 256) (h : 6 * k ≤ T) : sx (256 * V + b) (T + 8) k = sx V T k := by
  refine List.map_congr_left fun j hj => ?_
  have hj := List.mem_range.mp hj
  rw [show T + 8 - 6 * (j + 1) = 8 + (T - 6 * (j + 1)) by omega, Int.pow_add, ← Int.ediv_ediv_of_nonneg (by decide)]
  have : (256 * V + b) / 2 ^ 8 = V := by omega
  rw [this]
theorem or_sum {x b : Int} (hx : 0 ≤ x) (hb : 0 ≤ b) (hb2 : b < 256) : Builtin.bitOr (x * 256) b = 256 * x + b := by
  obtain ⟨k, rfl⟩ : ∃ k : Nat, x = (k : Int) := ⟨x.toNat, by omega⟩
  obtain ⟨c, rfl⟩ : ∃ c : Nat, b = (c : Int) := ⟨b.toNat, by omega⟩
  rw [bitOr_and]
  have e2 : Builtin.bitAnd ((k : Int) * 256) (c : Int) = 0 := by
    have : ((k : Int) * 256) = ((k * 256 : Nat) : Int) := by push_cast; rfl
    rw [this]
    unfold Builtin.bitAnd
    simp only [Int.natCast_nonneg, decide_true, Int.toNat_natCast]
    have : k * 256 &&& c = 0 := by
      refine Nat.eq_of_testBit_eq fun i => ?_
      rw [Nat.testBit_and, Nat.zero_testBit, show k * 256 = k <<< 8 by rw [Nat.shiftLeft_eq], Nat.testBit_shiftLeft]
      by_cases h : i ≥ 8
      · rw [Nat.testBit_lt_two_pow (x := c) (i := i) (Nat.lt_of_lt_of_le (by omega) (Nat.pow_le_pow_right (n := 2) (by decide) h))]; simp
      · simp [h]
    rw [this]; rfl
  rw [e2]; omega
theorem low_part {V : Int} {s : Nat} (hs : s ≤ 10) : (V % 65536) / 2 ^ s % 64 = V / 2 ^ s % 64 := by
  have e : (65536 : Int) = 2 ^ s * (64 * 2 ^ (10 - s)) := by
    rw [show (64 : Int) = 2 ^ 6 from rfl, ← Int.pow_add, ← Int.pow_add, show s + (6 + (10 - s)) = 16 from by rw [← Nat.add_assoc, Nat.add_comm s 6, Nat.add_assoc, Nat.add_sub_cancel' hs]]
    rfl
  have h := Int.emod_add_mul_ediv V 65536
  conv => rhs; rw [← h]
  have e2 : (65536 : Int) * (V / 65536) = 2 ^ s * (64 * (2 ^ (10 - s) * (V / 65536))) := by
    conv => lhs; lhs; rw [e]
    rw [Int.mul_assoc, Int.mul_assoc]
  rw [e2, Int.add_mul_ediv_left _ _ (Int.ne_of_gt (pow2_pos s)), Int.add_mul_emod_self_left]
def b64s : List Int := [65,66,67,68,69,70,71,72,73,74,75,76,77,78,79,80,81,82,83,84,85,86,87,88,89,90,97,98,99,100,101,102,103,104,105,106,107,108,109,110,111,112,113,114,115,116,117,118,119,120,121,122,48,49,50,51,52,53,54,55,56,57,43,47]
/-- the sign of a sextet -/
def b64c (x : Int) : Int := b64s.getD x.toNat 0
theorem b64c_in {x : Int} (h0 : 0 ≤ x) (h1 : x < 64) : 0 ≤ b64c x ∧ b64c x < 128 := by
  obtain ⟨k, rfl⟩ : ∃ k : Nat, x = (k : Int) := ⟨x.toNat, by omega⟩
  have hk : k < 64 := by omega
  have : ∀ k : Fin 64, 0 ≤ b64c (k.val : Int) ∧ b64c (k.val : Int) < 128 := by decide +kernel
  exact this ⟨k, hk⟩
theorem b64c_inj {x y : Int} (h0 : 0 ≤ x) (h1 : x < 64) (g0 : 0 ≤ y) (g1 : y < 64) (h : b64c x = b64c y) : x = y := by
  obtain ⟨k, rfl⟩ : ∃ k : Nat, x = (k : Int) := ⟨x.toNat, by omega⟩
  obtain ⟨j, rfl⟩ : ∃ j : Nat, y = (j : Int) := ⟨y.toNat, by omega⟩
  have : ∀ k j : Fin 64, b64c (k.val : Int) = b64c (j.val : Int) → k = j := by decide +kernel
  have := this ⟨k, by omega⟩ ⟨j, by omega⟩ h
  rw [Fin.mk.injEq] at this
  rw [this]
end Mine
end PartP3
section PartC9
open PySem PySem.W PyProof.Rows PySem.Calls PySem.Spec PyProof.Rows.LCg PyProof.Rows.LCt
namespace Mine
theorem fill9 : ∀ (w : World) (h : Heap), (Mine.hd.heap_39 w.params).In h → Challenge.rw_oc0103_01 = Challenge.rw_oc0103_01 := by
  k_fill
  intros; rfl
local macro_rules | `(tactic| k_room) => `(tactic| ktr_room)
local macro_rules | `(tactic| walk_at "pyIter bytes") => `(tactic| refine Stop.mk ?_)
local macro_rules | `(tactic| walk_at "exec While Compare cons nil") => `(tactic| refine Stop.mk ?_)
local macro_rules | `(tactic| walk_at "call type:type") => `(tactic| ((with_reducible show wpAny _ _ (call _ [Value.bytes _ _]) _ _ _); refine call_type_of (Tx := "bytes") rfl (by decide +kernel) ?_))
theorem b64_all {V : Int} {T k : Nat} {tail : List Int} (h : ∀ x ∈ tail, 0 ≤ x ∧ x < 256) : ∀ x ∈ (sx V T k).map b64c ++ tail, 0 ≤ x ∧ x < 256 := by
  intro x hx
  rcases List.mem_append.mp hx with hx | hx
  · obtain ⟨y, hy, rfl⟩ := List.mem_map.mp hx
    have := sx_in hy
    have := b64c_in this.1 this.2
    omega
  · exact h x hx
set_option maxRecDepth 100000 in
set_option maxHeartbeats 8000000 in
theorem b64_spec (w : World) (os : List Int) (t : Tok) (hl : os.length ≤ 12) (hos : ∀ x ∈ os, 0 ≤ x ∧ x < 256) :
   Spec w 86 10 [.bytes (byteArr os) t] (fun _ _ => True) (fun news r news' => news' = news ∧ ∃ tail t, r = .bytes (byteArr ((sx (num8 os) (8 * os.length) (8 * os.length / 6)).map b64c ++ tail)) t ∧ (∀ x ∈ tail, 0 ≤ x ∧ x < 256) ∧ tail.length ≤ 3) := by
  w_top off
  unfold Spec
  intro p loose mean mg mb dp un gd cn cs a ccd cl outer A₀ base h₀ L m news s Q E B F X N T hk hd hu hpre hret
  refine wpAny_call ?_
  (k_dflt (refine' code_def ?k1 ?k2 ?k3 ?k4 ?k5 ?kA ?kF ?kK ?k6 ?k7 ?k8 ?k9 ?kB ?_ ?c2 ?c3 ?c4 ?c5; (case kA => exact rfl); (case kF => exact rfl); (case kK => assumption); (case k1 => k_asm); (case k2 => k_asm); (case k3 => k_asm); (case k4 => k_asm); (case k5 => k_asm); (case k6 => k_is); (case k7 => k_is); (case k8 => ktr_room); (case k9 => exact binds_K (by k_in) rfl (by k_is) rfl rfl rfl); (case c5 => decide); (case kB => exact locs rfl); (case c2 => exact rfl); (case c3 => exact rfl); (case c4 => exact rfl); k_whole; intro g' L' h' FG' F' N' B' X' T'; (try dsimp only); (try k_fold)))
  w_strict k_steps
  refine Stop.out ?_
  rename_i l2 h21 l1 h22 h23 h24 F1 N1
  have hsz : ∀ p ∈ (l2, W.listOf #[] 0) :: news, p.1 < h24.objs.size := fun p hp => Heap.lt_size (N1 p hp).1
  refine iter_octets (fun i m led => ∃ (lb lc : Int) (tb tc : Tok) (us : List Value) (k n : Nat), m (Str.ofString "leftbits") = some (.int lb tb) ∧ m (Str.ofString "leftchar") = some (.int lc tc) ∧ m (Str.ofString "out") = some (.ref l2) ∧ m (Str.ofString "newline") = some (.bool false) ∧
     lb = 8 * (i : Int) - 6 * (k : Int) ∧ 0 ≤ lb ∧ lb < 6 ∧ lc = num8 (os.take i) % 65536 ∧ IntsAre us ((sx (num8 (os.take i)) (8 * i) k).map b64c) ∧ led = (l2, listOf us.toArray n) :: news) hos rfl F1 N1 ?_ ?_ ?_ ?_
  · exact ⟨0, 0, _, _, [], 0, 0, rfl, rfl, rfl, rfl, rfl, by decide, by decide, rfl, IntsAre.nil, rfl⟩
  · rintro i m led ⟨lb, lc, tb, tc, us, k, n, _, _, _, _, _, _, _, _, _, rfl⟩ p hp
    rcases List.mem_cons.mp hp with rfl | hp
    · exact Nat.ne_of_lt (hsz (l2, W.listOf #[] 0) (.head _))
    · exact Nat.ne_of_lt (hsz p (.tail _ hp))
  · rintro i x tx m₁ led₁ oI h3 tk3 hilt hx ⟨lb, lc, tb, tc, us, k, n, hm1, hm2, hm3, hm4, hlb, hlb0, hlb1, hlc, hus, rfl⟩ F3 N3
    clear F1 N1
    rw [see hm1, see hm2, see hm3, see hm4] at F3
    dsimp only at F3 N3 ⊢
    k_fold
    w_strict k_steps
    refine Stop.out ?_
    rename_i h4 F4 N4
    have hV0 : 0 ≤ num8 (os.take i) := num8_nonneg _ fun y hy => hos y (List.mem_of_mem_take hy)
    have hxb := hos x (List.mem_of_getElem? hx)
    have hV1 : num8 (os.take (i + 1)) = 256 * num8 (os.take i) + x := by rw [num8, foldl_take_succ hx, ← num8]
    have hlc1 : Builtin.bitAnd (Builtin.bitOr (lc * 2 ^ Int.toNat 8) x) 65535 = num8 (os.take (i + 1)) % 65536 := by
      rw [bitAnd_m16, show lc * 2 ^ Int.toNat 8 = lc * 256 from rfl, or_sum (by omega) hxb.1 hxb.2, hV1, hlc]; omega
    have hus1 : IntsAre us ((sx (num8 (os.take (i + 1))) (8 * (i + 1)) k).map b64c) := by
      rw [hV1, Nat.mul_add, sx_more hxb.1 hxb.2 (by omega)]; exact hus
    rw [hlc1] at F4
    generalize hVV : num8 (os.take (i + 1)) = V at *
    refine While_inv2 (fun q m led => ∃ (lb : Int) (tb tc : Tok) (us : List Value) (k n : Nat), m (Str.ofString "leftbits") = some (.int lb tb) ∧ m (Str.ofString "leftchar") = some (.int (V % 65536) tc) ∧ m (Str.ofString "out") = some (.ref l2) ∧ m (Str.ofString "newline") = some (.bool false) ∧
      lb = 8 * (i + 1 : Int) - 6 * (k : Int) ∧ 0 ≤ lb ∧ lb < 14 ∧ q = lb.toNat ∧ IntsAre us ((sx V (8 * (i + 1)) k).map b64c) ∧ led = (h24.objs.size, oI) :: (l2, listOf us.toArray n) :: news) F4 N4 ⟨lb + 8, _, _, us, k, n, rfl, rfl, rfl, rfl, by omega, by omega, by omega, rfl, hus1, rfl⟩ ?_
    rintro q m₂ led₂ h5 tk5 F5 N5 ⟨lb', tb', tc', us', k', n', hm1', hm2', hm3', hm4', hlb', hlb0', hlb1', rfl, hus', rfl⟩
    clear F4 N4
    rw [see hm1', see hm2', see hm3', see hm4'] at F5
    dsimp only at F5 N5 ⊢
    k_fold
    w_strict k_steps
    · rename_i a6
      have hbit : Builtin.bitAnd ((V % 65536).fdiv (2 ^ (lb' - 6).toNat)) 63 = V / 2 ^ (8 * (i + 1) - 6 * (k' + 1)) % 64 := by
        rw [bitAnd_m6, fdiv_pos _ (pow2_pos _), low_part (by omega)]
        rw [show (lb' - 6).toNat = 8 * (i + 1) - 6 * (k' + 1) by omega]
      rw [hbit]
      have hb0 : 0 ≤ V / 2 ^ (8 * (i + 1) - 6 * (k' + 1)) % 64 := Int.emod_nonneg _ (by decide)
      have hb1 : V / 2 ^ (8 * (i + 1) - 6 * (k' + 1)) % 64 < 64 := Int.emod_lt_of_pos _ (by decide)
      refine KBw.item_K (ks := b64s) (by decide +kernel) (by decide) hb0 hb1 ?_
      intro t6 k6 _ _
      have hlen := hus'.length
      rw [List.length_map, sx_length] at hlen
      w_strict k_steps
      have hne : h24.objs.size ≠ l2 := Nat.ne_of_gt (hsz (l2, W.listOf #[] 0) (.head _))
      refine append_led (us := us') (by assumption) (by assumption) (.tail hne (.head (ne_all l1))) (by omega) ?_
      intro h7 F7 N7
      w_strict k_steps
      refine ⟨_, _, _, _, (lb' - 6).toNat, rfl, by assumption, by assumption, by omega, lb' - 6, _, _, _, k' + 1, _, rfl, rfl, rfl, rfl, by omega, by omega, by omega, rfl, ?_, rfl⟩
      rw [sx_succ, List.map_append]
      exact ints_snoc hus' _ _
    · rename_i a6
      refine TurnEnd.next (by assumption) (by assumption) ⟨lb', _, _, _, us', k', n', rfl, rfl, rfl, rfl, by omega, by omega, by omega, ?_, ?_, rfl⟩ (.head _) (fun p hp => .tail _ hp)
      · rw [hVV]
      · rw [hVV]; exact hus'
  · rintro m₁ led₁ h3 tk3 ⟨lb, lc, tb, tc, us, k, n, hm1, hm2, hm3, hm4, hlb, hlb0, hlb1, hlc, hus, rfl⟩ F3 N3
    clear F1 N1
    rw [see hm1, see hm2, see hm3, see hm4] at F3
    dsimp only at F3 N3 ⊢
    rw [List.take_length] at hus hlc
    have hA1 : 0 ≤ Builtin.bitAnd lc 3 := by rw [bitAnd_m2]; omega
    have hA2 : Builtin.bitAnd lc 3 < 4 := by rw [bitAnd_m2]; omega
    have hA3 : 0 ≤ Builtin.bitAnd lc 15 := by rw [bitAnd_m4]; omega
    have hA4 : Builtin.bitAnd lc 15 < 16 := by rw [bitAnd_m4]; omega
    have hlen := hus.length
    rw [List.length_map, sx_length] at hlen
    have hkk : k = 8 * os.length / 6 := by omega
    w_strict k_steps
    · refine KBw.item_K (ks := b64s) (by decide +kernel) (by decide) (i := Builtin.bitAnd lc 3 * 2 ^ Int.toNat 4) (by show 0 ≤ Builtin.bitAnd lc 3 * 16; omega) (by show Builtin.bitAnd lc 3 * 16 < 64; omega) ?_
      intro t6 k6 g0 g1
      generalize b64s.getD (Builtin.bitAnd lc 3 * 2 ^ Int.toNat 4).toNat 0 = z at *
      w_strict k_steps
      rename_i F7 N7
      have e : ∀ a b c : Value, ((us.toArray.push a).push b).push c = (us ++ [a, b, c]).toArray := fun a b c => by simp
      rw [e] at N7
      refine KBa.make_K (ns := (sx (num8 os) (8 * os.length) k).map b64c ++ [z, 61, 61]) F7 N7 rfl ⟨_, (N7 _ (.head _)).1, rfl, _, rfl⟩ (IntsAre.append hus (IntsAre.cons _ _ (IntsAre.cons _ _ (IntsAre.cons _ _ IntsAre.nil)))) (b64_all (by intro x hx; simp at hx; omega)) (by simp [sx_length]; omega) ?_
      intro h12 t8 k8 F8 N8 _
      w_strict k_steps
      refine hret _ news _ _ (by assumption) (drops (by assumption) fun p hp => .tail _ hp) ⟨rfl, [z, 61, 61], t8, ?_, by intro x hx; simp at hx; omega, by simp⟩
      rw [← hkk]
    · refine KBw.item_K (ks := b64s) (by decide +kernel) (by decide) (i := Builtin.bitAnd lc 15 * 2 ^ Int.toNat 2) (by show 0 ≤ Builtin.bitAnd lc 15 * 4; omega) (by show Builtin.bitAnd lc 15 * 4 < 64; omega) ?_
      intro t6 k6 g0 g1
      generalize b64s.getD (Builtin.bitAnd lc 15 * 2 ^ Int.toNat 2).toNat 0 = z at *
      w_strict k_steps
      rename_i F7 N7
      have e : ∀ a b : Value, (us.toArray.push a).push b = (us ++ [a, b]).toArray := fun a b => by simp
      rw [e] at N7
      refine KBa.make_K (ns := (sx (num8 os) (8 * os.length) k).map b64c ++ [z, 61]) F7 N7 rfl ⟨_, (N7 _ (.head _)).1, rfl, _, rfl⟩ (IntsAre.append hus (IntsAre.cons _ _ (IntsAre.cons _ _ IntsAre.nil))) (b64_all (by intro x hx; simp at hx; omega)) (by simp [sx_length]; omega) ?_
      intro h12 t8 k8 F8 N8 _
      w_strict k_steps
      refine hret _ news _ _ (by assumption) (drops (by assumption) fun p hp => .tail _ hp) ⟨rfl, [z, 61], t8, ?_, by intro x hx; simp at hx; omega, by simp⟩
      rw [← hkk]
    · refine hret _ news _ _ (by assumption) (drops (by assumption) fun p hp => .tail _ hp) ⟨rfl, [], _, (by rw [← hkk, List.append_nil]), (by intro x hx; cases hx), by decide⟩
end Mine
end PartC9
section PartC10
open PySem PySem.W PyProof.Rows PySem.Calls PySem.Spec PyProof.Rows.LCg PyProof.Rows.LCt
namespace Mine
theorem fill10 : ∀ (w : World) (h : Heap), (Mine.hd.heap_39 w.params).In h → Challenge.rw_oc0103_01 = Challenge.rw_oc0103_01 := by
  k_fill
  intros; rfl
theorem cmp_zero (x y : Str) : b2i (decide (y.cps.toList < x.cps.toList)) - b2i (decide (x.cps.toList < y.cps.toList)) = 0 ↔ x = y := by
  constructor
  · intro h
    have ha : ¬ (y.cps.toList < x.cps.toList ∧ x.cps.toList < y.cps.toList) := fun ⟨h1, h2⟩ => List.lt_irrefl _ (List.lt_trans h1 h2)
    have e : x.cps.toList = y.cps.toList := by
      by_cases h1 : y.cps.toList < x.cps.toList
      · by_cases h2 : x.cps.toList < y.cps.toList
        · exact absurd ⟨h1, h2⟩ ha
        · simp [b2i, h1, h2] at h
      · by_cases h2 : x.cps.toList < y.cps.toList
        · simp [b2i, h1, h2] at h
        · exact List.le_antisymm (List.not_lt.mp h1) (List.not_lt.mp h2)
    cases x; cases y
    simpa using e
  · rintro rfl
    omega
set_option maxRecDepth 100000 in
set_option maxHeartbeats 8000000 in
theorem cmp_spec (w : World) (x y : Str) (tx ty : Tok) :
   Spec w 100 5 [.str x tx, .str y ty] (fun _ _ => True) (fun news r news' => news' = news ∧ ∃ (v : Int) (t : Tok), r = .int v t ∧ (v = 0 ↔ x = y)) := by
  w_top off
  unfold Spec
  intro p loose mean mg mb dp un gd cn cs a ccd cl outer A₀ base h₀ L m news s Q E B F X N T hk hd hu hpre hret
  refine wpAny_call ?_
  k_dflt cell_enter
  w_strict k_steps
  exact hret _ news _ _ (by assumption) (by assumption) ⟨rfl, _, _, rfl, cmp_zero x y⟩
end Mine
end PartC10
section PartP4
namespace Mine
/-- the numbers up to i that as lacks -/
def lacks (as : List Int) (i : Nat) : List Int := ((List.range i).map fun (k : Nat) => (k : Int) + 1).filter fun x => !as.contains x
theorem lacks_succ (as : List Int) (i : Nat) : lacks as (i + 1) = lacks as i ++ (if as.contains ((i : Int) + 1) then [] else [(i : Int) + 1]) := by
  unfold lacks
  rw [List.range_succ, List.map_append, List.filter_append]
  congr 1
  simp only [List.map_cons, List.map_nil]
  by_cases h : as.contains ((i : Int) + 1) <;> simp [List.filter_cons, h]
theorem up_mono {as : List Int} (hmono : ∀ j, j + 1 < as.length → as.getD j 0 < as.getD (j + 1) 0) {j k : Nat} (hk : k < as.length) (h : j ≤ k) : as.getD j 0 ≤ as.getD k 0 := by
  induction k with
  | zero => have : j = 0 := by omega
            subst this; exact Int.le_refl _
  | succ k ih =>
    rcases Nat.lt_or_ge j (k + 1) with h1 | h1
    · have := ih (by omega) (by omega)
      have := hmono k hk
      omega
    · have : j = k + 1 := by omega
      subst this; exact Int.le_refl _
theorem getD_mem {as : List Int} {j : Nat} (h : j < as.length) : as.getD j 0 ∈ as := by
  rw [List.getD_eq_getElem?_getD, List.getElem?_eq_getElem h]; exact List.getElem_mem h
theorem mem_getD {as : List Int} {x : Int} (h : x ∈ as) : ∃ k, k < as.length ∧ as.getD k 0 = x := by
  obtain ⟨k, hk, e⟩ := List.mem_iff_getElem.mp h
  exact ⟨k, hk, by rw [List.getD_eq_getElem?_getD, List.getElem?_eq_getElem hk]; exact e⟩
end Mine
end PartP4
section PartM6
open PySem PySem.W PyProof.Rows PySem.Calls PySem.Spec
set_option maxRecDepth 100000
namespace Mine
/-- all is kept, but for the slots of frames -/
def Near (fs : List Addr) (h h' : Heap) : Prop := (∀ b o, h.get? b = some o → b ∉ fs → h'.get? b = some o) ∧ ∀ b o, h.get? b = some o → ∃ sl, h'.get? b = some { o with slots := sl }
theorem Near.trans {fs : List Addr} {h h' h'' : Heap} (a : Near fs h h') (b : Near fs h' h'') : Near fs h h'' :=
  ⟨fun x o hx hn => b.1 x o (a.1 x o hx hn) hn, fun x o hx => by
    obtain ⟨s1, h1⟩ := a.2 x o hx
    obtain ⟨s2, h2⟩ := b.2 x _ h1
    exact ⟨s2, h2⟩⟩
theorem Near.keeps {fs : List Addr} {h h' : Heap} (k : ∀ b o, h.get? b = some o → h'.get? b = some o) : Near fs h h' := ⟨fun b o e _ => k b o e, fun b o e => ⟨o.slots, k b o e⟩⟩
/-- an exception made behind h₀, with a trace -/
def Exc (h₀ : Heap) (e : Addr) (cls ctx fl : Value) (h : Heap) : Prop :=
  h₀.get? e = none ∧ ∃ oe vs T oT ts, h.get? e = some oe ∧ oe.cls = cls ∧ oe.data = .fields vs ∧ vs[1]? = some (.ref T) ∧ vs[2]? = some ctx ∧ T ≠ e ∧ h₀.get? T = none ∧ h.get? T = some oT ∧ oT.data = .fields ts ∧ ts[3]? = some fl
section
variable {M : Model} {A : Around} {E : Value → Shared → Prop} {s : Shared}
theorem note_new {base h₀ : Heap} {env : Env} {outer : List Env} {L e : Addr} {oe : Obj} {vs : Array Value} {ctx : Value} {Q : Unit → Shared → Prop}
    (hfr : A.frames = some (env :: outer)) (hl : s.heap.FunFrames base (env :: outer)) (hf : env.frame = some L) (hk : Near ((env :: outer).filterMap (·.frame)) h₀ s.heap) (hn : h₀.get? e = none)
    (he : s.heap.get? e = some oe) (hd : oe.data = .fields vs) (h1 : vs[1]? = some .none) (h2 : vs[2]? = some ctx)
    (h : ∀ h', Near ((env :: outer).filterMap (·.frame)) h₀ h' → Exc h₀ e oe.cls ctx (rawInt L) h' → h'.FunFrames base (env :: outer) → Q () { s with heap := h' }) : wpAny M A (noteFrame (.ref e) env) Q E s := by
  have hsz : 1 < vs.size := (Array.getElem?_eq_some_iff.mp h1).1
  have hene : e ∉ (env :: outer).filterMap (·.frame) := fun hm => by
    obtain ⟨_, o, ho, hnf⟩ := hl.mem hm
    rw [he] at ho; injection ho with ho; subst ho; exact hnf vs hd
  unfold noteFrame
  simp only [hf]
  refine wpAny_bind (wpAny_field he hd h1 ?_)
  rw [if_neg (show ¬ ((Value.none != Value.none) = true) from by simp)]
  refine wpAny_bind (wpAny_frameOf_fun hfr hl hf fun g hs₁ => ?_)
  refine wpAny_bind (wpAny_entryPlaceOf fun pl hpl => ?_)
  unfold EntryCells.newEntry newFields
  refine wpAny_bind (wpAny_newObj_type ?_ (hpl.sizeOk5 _ _ _ _ _))
  have heg : g.get? e = some oe := (hs₁.2.1 e hene).trans he
  generalize hob : ({ cls := .type "traceback", dict := none, data := .fields ([Value.none, .ref L, .none, rawInt L, .none] ++ (if pl.isEmpty then List.replicate 6 Value.none else pl)).toArray } : Obj) = ob
  have he₂ := Heap.get?_push_of_some (h := g) ob heg
  refine wpAny_setField he₂ hd hsz ?_
  have hTe : g.objs.size ≠ e := Nat.ne_of_gt (Heap.lt_size heg)
  have hd₃ := Obj.data_mapFields hd (·.setIfInBounds 1 (Value.ref g.objs.size))
  have he₃ := Heap.get?_update_self (Obj.mapFields (·.setIfInBounds 1 (Value.ref g.objs.size))) he₂ (Obj.isFreed_of_fields hd₃)
  have hT₃ := (Heap.get?_update_other (g.push ob) (Obj.mapFields (·.setIfInBounds 1 (Value.ref g.objs.size))) (Ne.symm hTe)).trans (Heap.get?_push_size g (o := ob) (by rw [← hob]; rfl))
  have keep : ∀ b o, b ≠ e → g.get? b = some o → ((g.push ob).update e (Obj.mapFields (·.setIfInBounds 1 (Value.ref g.objs.size)))).get? b = some o := fun b o hbe hb => by
    rw [Heap.get?_update_other _ _ (Ne.symm hbe)]
    exact Heap.get?_push_of_some _ hb
  have h0e : ∀ b o, h₀.get? b = some o → b ≠ e := fun b o hb q => by rw [q, hn] at hb; cases hb
  refine h _ ⟨fun b o hb hnf => keep b o (h0e b o hb) ((hs₁.2.1 b hnf).trans (hk.1 b o hb hnf)), fun b o hb => ?_⟩ ⟨hn, _, _, g.objs.size, _, _, he₃, Obj.cls_mapFields _ _, hd₃, by simp [hsz], by rw [Array.getElem?_setIfInBounds_ne (by decide)]; exact h2, hTe, ?_, hT₃, by rw [← hob], ?_⟩ ?_
  · obtain ⟨s1, e1⟩ := hk.2 b o hb
    obtain ⟨s2, e2⟩ := hs₁.2.2 b _ e1
    exact ⟨s2, keep b _ (h0e b o hb) e2⟩
  · cases hq : h₀.get? g.objs.size with
    | none => rfl
    | some o =>
      obtain ⟨s1, e1⟩ := hk.2 _ o hq
      have := Heap.lt_size e1
      rw [hs₁.1] at this
      exact absurd this (Nat.lt_irrefl _)
  · first | (simp; done) | (rcases hpl with rfl | ⟨_, _, _, _, _, _, _, rfl⟩ <;> simp)
  · refine hl.of_keeps fun b o hb hnf => ?_
    obtain ⟨sl, hs⟩ := hs₁.2.2 b o hb
    exact ⟨_, keep b _ (fun q => by rw [q, he] at hb; injection hb with hb; subst hb; exact hnf vs hd) hs, rfl⟩
theorem note_again {h₀ : Heap} {env : Env} {L e : Addr} {cls ctx : Value} {Q : Unit → Shared → Prop} (hf : env.frame = some L) (hx : Exc h₀ e cls ctx (rawInt L) s.heap) (h : Q () s) : wpAny M A (noteFrame (.ref e) env) Q E s := by
  obtain ⟨hn, oe, vs, T, oT, ts, he, hc, hd, h1, h2, hTe, hnT, hT, hdT, h3⟩ := hx
  unfold noteFrame
  simp only [hf]
  refine wpAny_bind (wpAny_field he hd h1 ?_)
  rw [if_pos (show (Value.ref T != Value.none) = true from by simp)]
  refine wpAny_bind (wpAny_field hT hdT h3 ?_)
  rw [if_pos (show ((rawInt L == rawInt L) = true) from by simp)]
  exact wpAny_pure h
theorem flight {base h₀ : Heap} {l : List Env} {e : Addr} {cls ctx fl : Value} {f : Option Addr} {Q : Unit → Shared → Prop} (hk : Near (l.filterMap (·.frame)) h₀ s.heap) (hx : Exc h₀ e cls ctx fl s.heap) (hl : s.heap.FunFrames base l)
    (h : ∀ h', Near (l.filterMap (·.frame)) h₀ h' → Exc h₀ e cls ctx (f.elim .none fun f => rawInt f) h' → h'.FunFrames base l → Q () { s with heap := h' }) : wpAny M A (setFlight (.ref e) f) Q E s := by
  obtain ⟨hn, oe, vs, T, oT, ts, he, hc, hd, h1, h2, hTe, hnT, hT, hdT, h3⟩ := hx
  have hsz3 : 3 < ts.size := (Array.getElem?_eq_some_iff.mp h3).1
  unfold setFlight
  refine wpAny_bind (wpAny_field he hd h1 ?_)
  rw [if_pos (show (Value.ref T != Value.none) = true from by simp)]
  generalize hfl : (f.elim Value.none fun f => rawInt f) = v at *
  have other : ∀ b, b ≠ T → (s.heap.update T (Obj.mapFields (·.setIfInBounds 3 v))).get? b = s.heap.get? b := fun b hb => Heap.get?_update_other _ _ (Ne.symm hb)
  have h0T : ∀ b o, h₀.get? b = some o → b ≠ T := fun b o hb q => by rw [q, hnT] at hb; cases hb
  refine wpAny_setField hT hdT hsz3 (h _ ⟨fun b o hb hnf => (other b (h0T b o hb)).trans (hk.1 b o hb hnf), fun b o hb => ?_⟩
    ⟨hn, oe, vs, T, _, _, (other e (Ne.symm hTe)).trans he, hc, hd, h1, h2, hTe, hnT, Heap.get?_update_self _ hT (Obj.isFreed_of_fields (Obj.data_mapFields hdT _)), Obj.data_mapFields hdT _, by simp [hsz3]⟩ ?_)
  · obtain ⟨sl, e1⟩ := hk.2 b o hb
    exact ⟨sl, (other b (h0T b o hb)).trans e1⟩
  · exact hl.of_keeps fun b o hb hnf => ⟨o, (other b fun q => by rw [q, hT] at hb; injection hb with hb; subst hb; exact hnf ts hdT).trans hb, rfl⟩
end
end Mine
end PartM6
section PartM7
open PySem PySem.W PyProof.Rows PySem.Calls PySem.Spec
set_option maxRecDepth 100000
namespace Mine
theorem ground {A₀ : Around} {base g h h' : Heap} {outer : List Env} {L a : Addr} {m : Str → Option Value} {name : Str} {scope : Scope} {cd : Value} {news : Led}
    (K : Below A₀ base outer g) (F : Fr g L h m) (N : News g L h news) (nr : Near ((envOf name scope L a cd :: outer).filterMap (·.frame)) h h') :
    ∃ g', KtsTurn (outer.filterMap (·.frame)) g g' ∧ Fr g' L h' m ∧ Below A₀ base outer g' ∧ News g' L h' news := by
  obtain ⟨g', T, F', K'⟩ := kts_ground (B := h') (h₅ := h') (name := name) (scope := scope) (a := a) (cd := cd) K F nr.1 (fun _ _ e => e) (fun b o e _ => nr.2 b o e)
  refine ⟨g', T, F', K', fun p hp => ⟨nr.1 _ _ (N p hp).1 fun hm => ?_, (N p hp).2.1, T.none_ _ (N p hp).2.2⟩⟩
  rcases kts_mem hm with z | z
  · exact (N p hp).2.1 z
  · obtain ⟨_, o, ho, _⟩ := K.frames.mem z
    rw [(N p hp).2.2] at ho; cases ho
/-- an exception made while x is handled -/
structure MadeIn (h h' : Heap) (e x : Addr) (cls : String) : Prop where
  keeps : ∀ b o, h.get? b = some o → h'.get? b = some o
  new : h.get? e = none
  there : ∃ ob vs, h'.get? e = some ob ∧ ob.cls = .type cls ∧ ob.data = .fields vs ∧ vs[1]? = some .none ∧ vs[2]? = some (.ref x)
theorem entry_unchain : entryFor table "proto.unchain" = some Builtin.«proto.unchain» := entryFor_of_tree (by kernel_rfl)
section
variable {prog : Program} {w : World} {A : Around} {E : Value → Shared → Prop} {s : Shared} {α : Type}
theorem unchain {e x : Value} {ax : Addr} {ox : Obj} {vx : Array Value} {Q : Value → Shared → Prop} (hx : x = .ref ax) (ho : s.heap.get? ax = some ox) (hd : ox.data = .fields vx) (h2 : vx[2]? = some .none) (h : Q .none s) :
    wpAny (model prog w) A (runValue (.builtin "proto.unchain" ⟨[e, x, x, .bool false], []⟩)) Q E s := by
  subst hx
  refine wpAny_runValue (codeAny_builtin entry_unchain ?_)
  unfold Builtin.«proto.unchain»
  refine wpAny_bind (wpAny_field ho hd h2 ?_)
  rw [if_pos (show ((Value.none == Value.none) = true) from by simp)]
  first | exact wpAny_bind (wpAny_pure h) | exact wpAny_pure h | exact h
theorem raise_in {cls msg : String} {x : Addr} {ox : Obj} {vx : Array Value} {Q : α → Shared → Prop} (hp : PlainExc cls) (hh : A.handled = some (.ref x)) (ho : s.heap.get? x = some ox) (hd : ox.data = .fields vx) (h2 : vx[2]? = some .none)
    (h : ∀ h' tk e, MadeIn s.heap h' e x cls → E (.ref e) { s with heap := h', toks := tk }) :
    wpAny (model prog w) A (raiseErrorWords cls msg : Sem α) Q E s := by
  unfold raiseErrorWords
  refine wpAny_bind (wpAny_mkText (wpAny_bind ?_))
  unfold newExc newTuple
  refine wpAny_bind (wpAny_newObj_type ?_)
  refine wpAny_bind (m := firstArgMember _ _) (wpAny_of_eq (a := Value.none) (by simp only [firstArgMember, hp.first]; rfl) ?_)
  rw [hp.own]
  refine wpAny_newObj_type ?_
  unfold raiseNew
  refine wpAny_bind (wpAny_handled ?_)
  rw [hh]
  have hlt := Heap.lt_size ho
  have k1 : ∀ o2 b o, s.heap.get? b = some o → (s.heap.push o2).get? b = some o := fun o2 b o hb => Heap.get?_push_of_some _ hb
  dsimp only
  generalize ho1 : ({ cls := .type "tuple", data := _ } : Obj) = o1
  generalize ho2 : ({ cls := .type cls, data := _ } : Obj) = o2
  have hS : (s.heap.push o1).objs.size = s.heap.objs.size + 1 := by simp
  have hxe : x ≠ (s.heap.push o1).objs.size := fun q => absurd (q.trans hS) (Nat.ne_of_lt (Nat.lt_succ_of_lt hlt))
  have hd2 : o2.data = .fields #[Value.ref s.heap.objs.size, Value.none, Value.none, Value.none, Value.bool false, Value.none] := by rw [← ho2]; simp
  have hf2 : o2.isFreed = false := Obj.isFreed_of_fields hd2
  generalize hN : (s.heap.push o1).objs.size = N at *
  have hg2 : ((s.heap.push o1).push o2).get? N = some o2 := by rw [← hN]; exact Heap.get?_push_size _ hf2
  rw [if_pos (show (Value.ref x != Value.ref N) = true from by simpa using hxe)]
  refine wpAny_bind (wpAny_holding (unchain rfl (Heap.get?_push_of_some _ (Heap.get?_push_of_some _ ho)) hd h2 ?_))
  refine wpAny_bind ?_
  show wpAny _ _ (setField (.ref N) 2 (Value.ref x)) _ _ _
  refine wpAny_setField hg2 hd2 (by simp) ?_
  refine wpAny_throw (h _ _ N ⟨fun b o hb => ?_, ?_, ?_⟩)
  · have hbN : b ≠ N := fun q => absurd (q.trans hS) (Nat.ne_of_lt (Nat.lt_succ_of_lt (Heap.lt_size hb)))
    rw [Heap.get?_update_other _ _ (Ne.symm hbN)]
    exact Heap.get?_push_of_some _ (Heap.get?_push_of_some _ hb)
  · exact Heap.get?_none_of_le (by rw [hS]; omega)
  · have hd3 := Obj.data_mapFields hd2 (·.setIfInBounds 2 (Value.ref x))
    exact ⟨_, _, Heap.get?_update_self _ hg2 (Obj.isFreed_of_fields hd3), (Obj.cls_mapFields _ _).trans (by rw [← ho2]), hd3, by simp, by simp⟩
theorem item_out_in {value slice : PySem.Expr} {l x : Addr} {items : Array Value} {ox : Obj} {vx : Array Value} {k : Int} {u : Tok} {Q : Value → Shared → Prop} (hA : A.handled = some (.ref x)) (ho : s.heap.get? x = some ox) (hd : ox.data = .fields vx) (h2 : vx[2]? = some .none)
    (hl : s.heap.IsList l items) (j : Nat) (hk : k = (j : Int)) (hout : items.size ≤ j) (hhi : k < 2 ^ 63)
    (hE : ∀ h' tk e, MadeIn s.heap h' e x "IndexError" → E (.ref e) { s with heap := h', toks := tk })
    (hs : subscripted slice false (.ref l) (.int k u) = operate [.ref l, .int k u] (getItem (.ref l) (.int k u)) := by with_unfolding_all rfl) :
    wpAny (model prog w) A (subscriptTail value slice (.ref l) (.int k u)) Q E s := by
  refine tail_any hl.typeIs slot_list_getitem.lookup ?_ hs
  obtain ⟨o, hob, hc, ne, hdl⟩ := id hl
  unfold getItem
  try with_reducible refine wpAny_holding ?_
  first | refine wpAny_bind (wpAny_pure ?_) | skip
  refine wpAny_bind (wpAny_sequenceKey hl.typeIs (by decide) ?_)
  refine wpAny_bind (wpAny_callSpecial?_slot (name := Str.ofString "__getitem__") hl.typeIs slot_list_getitem
    (wpAny_call_entry slot_list_getitem hl.typeIs entry_list_getitem ?_ (args_list_getitem _ _)))
  show wpAny _ _ (Builtin.List.listSubscript? (.int k u) >>= _) _ _ s
  refine wpAny_bind (wpAny_listSubscript_int (fitsIndex_both (by rw [hk]; exact Int.le_trans (by decide) (Int.natCast_nonneg j)) hhi) ?_)
  clear hs hhi
  cases k with
  | negSucc i => exact absurd hk (by omega)
  | ofNat i =>
  have hij : i = j := by
    have : (i : Int) = j := hk
    omega
  have hx : items[i]? = none := Array.getElem?_eq_none (by omega)
  show wpAny _ _ ((seqItemAt l i >>= fun r => pure (r.map (i, ·))) >>= _) _ _ s
  refine wpAny_bind (wpAny_bind (wpAny_seqItemAt hob hdl (wpAny_pure ?_)))
  rw [hx]
  first
    | exact wpAny_bind (wpAny_rule (raise_in plainExc_IndexError hA ho hd h2 hE))
    | exact wpAny_bind (wpAny_rule (wpAny_bind (raise_in plainExc_IndexError hA ho hd h2 hE)))
    | exact wpAny_bind (wpAny_bind (wpAny_rule (raise_in plainExc_IndexError hA ho hd h2 hE)))
    | exact wpAny_rule (raise_in plainExc_IndexError hA ho hd h2 hE)
end
end Mine
end PartM7
section PartM8
open PySem PySem.W PyProof.Rows PySem.Calls PySem.Spec
set_option maxRecDepth 100000
namespace Mine
section
variable {prog : Program} {w : World} {E : Value → Shared → Prop} {s : Shared} {A₀ : Around} {base g h : Heap} {outer : List Env} {L a e x : Addr} {m : Str → Option Value} {name : Str} {scope : Scope} {cd : Value} {cls : String} {hs : List ExceptHandler} {Q : Flow → Shared → Prop}
theorem back_to_handler (K : Below A₀ base outer g) (F : Fr g L h m) (hx : MadeIn h s.heap e x cls) (hk : scope.kind = .function)
    (k : ∀ h', Near ((envOf name scope L a cd :: outer).filterMap (·.frame)) h h' → Exc h e (.type cls) (.ref x) .none h' → h'.FunFrames base (envOf name scope L a cd :: outer) →
      wpAny (model prog w) (A₀.deeper (envOf name scope L a cd)) (handleBy (.ref e) (envOf name scope L a cd) hs) Q E { s with heap := h' }) :
    notedBy (model prog w) ((A₀.deeper (envOf name scope L a cd)).mark (some (.ref x))) (envOf name scope L a cd) (cameBackBy (model prog w) (A₀.deeper (envOf name scope L a cd)) (envOf name scope L a cd) fun e s₁ =>
      wpAny (model prog w) (A₀.deeper (envOf name scope L a cd)) (noteFrame e (envOf name scope L a cd)) (fun _ s₂ => wpAny (model prog w) (A₀.deeper (envOf name scope L a cd)) (setFlight e none) (fun _ s₃ =>
        wpAny (model prog w) (A₀.deeper (envOf name scope L a cd)) (handleBy e (envOf name scope L a cd) hs) Q E s₃) E s₂) E s₁) (.ref e) s := by
  obtain ⟨ob, vs, he, hc, hd, h1, h2⟩ := hx.there
  refine note_new (h₀ := h) (base := base) (Around.frames_deeper K.stack) ((K.push F hk).frames.of_keeps fun b o hb _ => ⟨o, hx.keeps b o hb, rfl⟩) rfl (Near.keeps hx.keeps) hx.new he hd h1 h2 ?_
  intro h15 n15 e15 f15
  rw [hc] at e15
  obtain ⟨hn, oe, ws, T, oT, ts, he', hc', hd', h1', h2', hTe, hnT, hT, hdT, h3⟩ := id e15
  refine wpAny_bind (wpAny_field he' hd' h1' ?_)
  rw [if_neg (show ¬ ((Value.ref T == Value.none) = true) from by simp)]
  refine flight n15 e15 f15 ?_
  intro h16 n16 e16 f16
  refine note_again rfl e16 (flight n16 e16 f16 ?_)
  intro h17 n17 e17 f17
  exact k h17 n17 e17 f17
end
section
variable {prog : Program} {w : World} {A₀ A : Around} {s : Shared} {base h₀ : Heap} {L : Addr} {m : Str → Option Value} {env : Env} {news : Led} {K : Frag} {p : Program} {loose : List Str} {mean : ExcName → Option Value} {mg mb : Str → Option Value}
    {R : Result → Shared → Prop} {name qual : Str} {params : Arguments} {body : List Stmt} {scope : Scope} {dV kV doc pm cdv ct oc : Value} {an od : Option Addr} {osl : Array (Option Value)} {f : Addr} {args : Args} {binds : List (Str × Value)}
/-- entering a def in which the caller's frame may be seen -/
theorem code_turn (B : Below A₀ base [] h₀) (F : Fr h₀ L s.heap m) (X₀ : K.In h₀) (N : News h₀ L s.heap news) (T : Top p loose mean mg mb h₀) (hA : A.frames = some [env]) (hf : env.frame = some L) (hke : env.scope.kind = .function)
    (ho : K.lookup f = some ⟨oc, od, .func (fnOf name qual params body scope dV kV doc pm an cdv ct), osl⟩) (hcd : codeIn K cdv qual = true) (hroom : A.depth < recursionLimit)
    (hbind : BindsTo s (fnOf name qual params body scope dV kV doc pm an cdv ct) args binds) (hloc : ∀ y ∈ binds, scope.names.lookup y.1 = some .local)
    (h : ∀ g L' h₁, Fr h₀ L g m → Fr g L' h₁ (fun y => binds.reverse.lookup y) → News g L' h₁ news → Below A base [env] g → K.In g → Top p loose mean mg mb g →
      wpAny (model prog w) (A.deeper (envOf qual scope L' f cdv)) (execs body (envOf qual scope L' f cdv))
        (fun fl s' => LeaveS0 [L] h₀ L m g R (match fl with | .ret v => v | _ => .none) s')
        (fun e s' => wpAny (model prog w) (A.deeper (envOf qual scope L' f cdv)) (leaving (envOf qual scope L' f cdv) e) (fun _ s'' => R (.error e) s'') (fun e' s'' => R (.error e') s'') s')
        { s with heap := h₁, toks := s.toks + binds.length })
    (hco : scope.isCoroutine = false) (hgen : scope.isGenerator = false) (hk : scope.kind = .function)
    (hcell : ∀ x ∈ scope.names, x.2 ≠ .cell) : codeAny (model prog w) A (.call (.ref f) args) R s := by
  have X := X₀.keeps F.keep
  refine codeAny_call_def (fd := fnOf name qual params body scope dV kV doc pm an cdv ct) (body := body) (binds := binds) hroom (X _ _ ho) rfl (T.nolimit.keeps F.keep) (codeRec_of X hcd) rfl hbind hcell hloc (fun h₁ hns hk₁ => ?_) hco hgen hk
  have nm : ∀ b o, h₀.get? b = some o → b ∉ news.map (·.1) := fun b o e q => by
    obtain ⟨p, hp, rfl⟩ := List.mem_map.mp q
    rw [(N p hp).2.2] at e; cases e
  have st : h₀.StaysIn (hideAll s.heap (news.map (·.1))) := fun b o e => hideAll_get _ (F.keep b o e) (nm b o e)
  obtain ⟨oL, es, ep, hL, hLd, hLk, hLf⟩ := F.ns
  have nL : L ∉ news.map (·.1) := fun q => by
    obtain ⟨p, hp, e⟩ := List.mem_map.mp q
    exact (N p hp).2.1 e
  have hLg := hideAll_get (news.map (·.1)) hL nL
  have B₁ := pushX B F hf hke
  have B₂ : Below A base [env] (hideAll s.heap (news.map (·.1))) := ⟨hA, fun b o e => st b o (B.stays b o e), funFrames_hideAll B₁.frames fun env' he b hb hf' => by
    obtain rfl := List.mem_singleton.mp he
    rw [hf] at hf'
    exact nL ((Option.some.inj hf' : L = b) ▸ hb)⟩
  refine wpAny_mono (h _ s.heap.objs.size h₁ ⟨⟨oL, es, ep, hLg, hLd, hLk, hLf⟩, st, F.above⟩ ⟨hns, fun b o e => hk₁ b o (of_hideAll _ e), Nat.le_of_eq (hideAll_size _ _)⟩
    (fun p hp => ⟨hk₁ _ _ (N p hp).1, Nat.ne_of_lt (Heap.lt_size (N p hp).1), hideAll_none _ (List.mem_map_of_mem hp)⟩) B₂ (X₀.keeps st) (T.keeps st)) (fun fl s' hl => ?_) fun _ _ y => y
  obtain ⟨g', L', m', news', T', F', N', k⟩ := hl
  have nL₀ : h₀.get? L = none := kts_self F
  obtain ⟨sl, hs⟩ := T'.up hLg
  refine k ⟨⟨_, es, ep, F'.keep _ _ hs, hLd, hLk, hLf⟩, fun b o e => F'.keep b o (T'.other b o (st b o e) (fun q => by
    rw [List.mem_singleton.mp q, nL₀] at e
    cases e)), F.above⟩ fun p hp => ⟨(N' p hp).1, fun q => ?_, ?_⟩
  · have := (N' p hp).2.2; rw [q, hs] at this; cases this
  · cases q : h₀.get? p.1 with
    | none => rfl
    | some o =>
      obtain ⟨sl', hs'⟩ := T'.up (st _ _ q)
      have := (N' p hp).2.2
      rw [hs'] at this
      cases this
end
end Mine
end PartM8
section Group
open PySem PySem.W PyProof.Rows PySem.Calls PySem.Spec
section PartC4
open PySem PySem.W PyProof.Rows PySem.Calls PySem.Spec
namespace Mine
theorem fill4 : ∀ (w : World) (h : Heap), (Mine.hd.heap_39 w.params).In h → Challenge.rw_oc0103_01 = Challenge.rw_oc0103_01 := by
  k_fill
  intros; rfl
local macro_rules | `(tactic| walk_at "call ref") => `(tactic| refine Stop.mk ?_)
local macro_rules | `(tactic| walk_at "exec While Compare cons nil") => `(tactic| refine Stop.mk ?_)
local macro_rules | `(tactic| walk_at "binaryOp Mult ref int") => `(tactic| refine Stop.mk ?_)
local macro_rules | `(tactic| walk_at "binaryOp Add ref ref") => `(tactic| refine Stop.mk ?_)
theorem flat_one (k : Nat) (x : Int) : (List.replicate k [x]).flatten = List.replicate k x := by
  induction k with
  | zero => rfl
  | succ k ih => rw [List.replicate_succ, List.flatten_cons, ih]; rfl
local macro_rules | `(tactic| walk_at "subscriptTail Name Slice ref ref") => `(tactic| refine Stop.mk ?_)
local macro_rules | `(tactic| walk_at "compareOp NotEq ref ref") => `(tactic| refine Stop.mk ?_)
def Least (w : List Int) (p : Nat) : Prop := 1 ≤ p ∧ p ≤ w.length ∧ w.drop p = w.take (w.length - p) ∧ ∀ q, 1 ≤ q → q < p → w.drop q ≠ w.take (w.length - q)
inductive RowIs : List Int → List Int → Prop
  | one {w : List Int} : Least w w.length → RowIs w (0 :: List.replicate (w.length - 1) 1)
  | two {w row : List Int} {p : Nat} : Least w p → 2 * p ≤ w.length → RowIs (w.take (p + w.length % p)) row → RowIs w (rep (w.length / p - 1) (row.take p) ++ row)
  | threeA {w ends : List Int} {p : Nat} : Least w p → p < w.length → w.length < 2 * p → RowIs (w.take (w.length - p)) ends →
      (∃ k, 1 ≤ k ∧ k < p ∧ saidAt (ends ++ List.replicate (2 * p - w.length - 1) 1 ++ [0]) k) → RowIs w (ends ++ List.replicate (2 * p - w.length - 1) 1 ++ [1] ++ ends)
  | threeB {w ends : List Int} {p : Nat} : Least w p → p < w.length → w.length < 2 * p → RowIs (w.take (w.length - p)) ends →
      (¬ ∃ k, 1 ≤ k ∧ k < p ∧ saidAt (ends ++ List.replicate (2 * p - w.length - 1) 1 ++ [0]) k) → RowIs w (ends ++ List.replicate (2 * p - w.length - 1) 1 ++ [0] ++ ends)
set_option maxRecDepth 100000 in
set_option maxHeartbeats 8000000 in
theorem row_spec (w : World) : ∀ (k : Nat) (l : Addr) (vs : List Value) (ns : List Int) (n0 : Nat), IntsAre vs ns → 1 ≤ ns.length → ns.length ≤ 16 → ns.length ≤ k →
   Spec w 126 (k + 4) [.ref l] (fun _ news => (l, listOf vs.toArray n0) ∈ news) (fun news r news' => ∃ (q : Addr) (us : List Value) (n : Nat) (row : List Int), r = .ref q ∧ news' = (q, listOf us.toArray n) :: news ∧ (∀ p ∈ news, p.1 < q) ∧ IntsAre us row ∧ RowIs ns row ∧ row.length = ns.length) := by
  w_top off
  intro k
  induction k with
  | zero => intro l vs ns n0 hi h1 h2 h3; exact absurd (Nat.le_trans h1 h3) (by decide)
  | succ k ih =>
  intro l vs ns n0 hi hl1 hl16 hlk
  unfold Spec
  intro p loose mean mg mb dp un gd cn cs a ccd cl outer A₀ base h₀ L m news s Q E B F X N T hk hd hu hpre hret
  have hi0 := hi.length
  replace N := dup N hpre
  refine wpAny_call ?_
  k_dflt cell_enter
  w_strict k_steps
  rename_i g' L' h1 FG B' X' T' tkq h2 h3 F1 N1
  refine Stop.out ?_
  refine wpAny_mono (Q := fun f s₂ => Stop (f = .next ∧ ∃ h tk m₁, ∃ (p : Nat) (t t2 : Tok), s₂ = { s with heap := h, toks := tk } ∧ Fr g' L' h m₁ ∧ News g' L' h ((l, listOf vs.toArray n0) :: news) ∧ m₁ (Str.ofString "least") = some (.int p t) ∧ m₁ (Str.ofString "size") = some (.int ns.length t2) ∧ m₁ (Str.ofString "word") = some (.ref l) ∧ Least ns p)) ?_ ?_ (fun _ _ e => e)
  · refine While_inv2 (fun n m led => ∃ (p : Nat) (t t2 : Tok), m (Str.ofString "least") = some (.int p t) ∧ m (Str.ofString "size") = some (.int ns.length t2) ∧ m (Str.ofString "word") = some (.ref l) ∧ led = (l, listOf vs.toArray n0) :: news ∧ n = ns.length - p ∧ 1 ≤ p ∧ p ≤ ns.length ∧ ∀ q, 1 ≤ q → q < p → ns.drop q ≠ ns.take (ns.length - q)) F1 N1 ⟨1, _, _, rfl, rfl, rfl, rfl, rfl, by omega, by omega, fun q h1 h2 => by omega⟩ ?_
    rintro n m₁ led₁ h4 tk4 F2 N2 ⟨pp, t, t2, hm1, hm2, hm3, rfl, rfl, hp1, hp2, hno⟩
    clear F1 N1
    rw [see hm1, see hm2, see hm3] at F2
    dsimp only at F2 N2 ⊢
    k_fold
    w_strict k_steps
    refine Stop.out ?_
    (k_here; (k_dflt (refine' slice_from ?slF3 ?slN3 ?sll3 ?sli3 ?slk3 ?slz3 ?_ ?sls3 ?slt3; (case slF3 => k_asm); (case slN3 => k_asm); (case sll3 => k_mem); (case sli3 => k_asm); (case slk3 => omega); (case slz3 => omega); (case sls3 => with_unfolding_all rfl); (case slt3 => (intro _; with_unfolding_all rfl)))); (intro Da wa ha Fa Na hIa la); (try k_lt la))
    w_strict k_steps
    refine Stop.out ?_
    (k_here; (k_dflt (refine' slice_upto ?slF4 ?slN4 ?sll4 ?sli4 ?slk4 ?slz4 ?_ ?sls4 ?slt4; (case slF4 => k_asm); (case slN4 => k_asm); (case sll4 => k_mem); (case sli4 => k_asm); (case slk4 => omega); (case slz4 => omega); (case sls4 => with_unfolding_all rfl); (case slt4 => (intro _; with_unfolding_all rfl)))); (intro Db wb hb Fb Nb hIb lb); (try k_lt lb))
    w_strict k_steps
    refine Stop.out ?_
    (k_here; (refine' ne_led ?k1 ?k2 ?k3 ?k4 ?k5 ?k6 ?_; (case k1 => k_asm); (case k2 => k_mem); (case k3 => k_mem); (case k4 => with_reducible assumption); (case k5 => with_reducible assumption); (case k6 => (dsimp only [ktrTop, Around.deeper]; omega))))
    w_strict k_steps
    · refine Stop.out ⟨rfl, _, _, m₁, pp, _, _, rfl, ?_, drops (by assumption) (fun p hp => .tail _ (.tail _ hp)), hm1, hm2, hm3, hp1, hp2, ?_, hno⟩
      · rw [see hm1, see hm2, see hm3]; assumption
      · have e : List.drop (pp : Int).toNat ns = List.take ((ns.length : Int) - pp).toNat ns := by assumption
        rw [show ((ns.length : Int) - pp).toNat = ns.length - pp from Int.toNat_sub _ _, Int.toNat_natCast] at e
        exact e
    · have e : ¬ List.drop (pp : Int).toNat ns = List.take ((ns.length : Int) - pp).toNat ns := by assumption
      rw [show ((ns.length : Int) - pp).toNat = ns.length - pp from Int.toNat_sub _ _, Int.toNat_natCast] at e
      have hlt : pp < ns.length := by
        rcases Nat.lt_or_ge pp ns.length with h | h
        · exact h
        · exact absurd (by rw [List.drop_eq_nil_of_le h, show ns.length - pp = 0 by omega, List.take_zero]) e
      refine ⟨_, _, _, _, ns.length - (pp + 1), rfl, by assumption, drops (by assumption) (fun p hp => .tail _ (.tail _ hp)), by omega, pp + 1, _, _, rfl, rfl, rfl, rfl, rfl, by omega, by omega, ?_⟩
      intro q hq1 hq2
      rcases Nat.lt_or_ge q pp with h | h
      · exact hno q hq1 h
      · have : q = pp := by omega
        subst this
        exact e
  · rintro f s₂ ⟨rfl, h4, tk4, m₁, pp, t, t2, rfl, F2, N2, hm1, hm2, hm3, hleast⟩
    clear F1 N1
    rw [see hm1, see hm2, see hm3] at F2
    dsimp only at F2 N2 ⊢
    have hp1 := hleast.1
    have hp2 := hleast.2.1
    have hfm : (ns.length : Int).fmod pp = ((ns.length % pp : Nat) : Int) := by rw [fmod_pos _ (by omega)]; norm_cast
    have hml : ns.length % pp < pp := Nat.mod_lt _ (by omega)
    have hm0 : 0 ≤ (ns.length : Int).fmod pp := by rw [hfm]; omega
    w_strict k_steps
    · refine Stop.out ?_
      rename_i N5 l5
      refine mul_led (by assumption) N5 (.head _) (IntsAre.cons _ _ IntsAre.nil) (by simp) (by omega) (by omega) ?_
      intro q ws h5 F5 N5 hI5 hlt5
      rw [flat_one, show ((ns.length : Int) - 1).toNat = ns.length - 1 from Int.toNat_sub ns.length 1] at hI5
      w_strict k_steps
      refine Stop.out ?_
      refine add_led F5 N5 (.tail _ (.tail _ (.head _))) (.head _) (IntsAre.cons _ _ IntsAre.nil) hI5 (by simp; omega) ?_
      intro q2 ws2 h6 F6 N6 hI6 hlt6
      w_strict k_steps
      have hpp : pp = ns.length := by omega
      subst hpp
      refine hret _ _ _ _ (by assumption) (drops (led := (q2, listOf ws2.toArray 0) :: news) (by assumption) ?_) ⟨_, _, _, _, rfl, rfl, fun p hp => hlt6 p (.tail _ (.tail _ (.tail _ (.tail _ hp)))), hI6, RowIs.one hleast, by simp; omega⟩
      intro p hp
      rcases List.mem_cons.mp hp with rfl | hp
      · exact .head _
      · exact .tail _ (.tail _ (.tail _ (.tail _ (.tail _ hp))))
    · refine Stop.out ?_
      (k_here; (k_dflt (refine' slice_upto ?slF5 ?slN5 ?sll5 ?sli5 ?slk5 ?slz5 ?_ ?sls5 ?slt5; (case slF5 => k_asm); (case slN5 => k_asm); (case sll5 => k_mem); (case sli5 => k_asm); (case slk5 => omega); (case slz5 => omega); (case sls5 => with_unfolding_all rfl); (case slt5 => (intro _; with_unfolding_all rfl)))); (intro D5 wv5 g5 F5 N5 hI5 l5); (try k_lt l5))
      w_strict k_steps
      refine Stop.out ?_
      rw [hfm] at hI5
      rw [show ((pp : Int) + ((ns.length % pp : Nat) : Int)).toNat = pp + ns.length % pp from Int.toNat_natCast (pp + ns.length % pp)] at hI5
      have hC5 : (ns.take (pp + ns.length % pp)).length = pp + ns.length % pp := by rw [List.length_take]; omega
      refine Spec.use (ih _ _ _ _ hI5 (by omega) (by omega) (by omega)) (by assumption) (by assumption) (by assumption) N5 (by assumption) rfl (by show dp + 1 + (k + 4) < _; omega) (by show un + 3 + 8 * (k + 4) + 100 < _; omega) (.head _) ?_
      rintro r news' h6 tk6 F6 N6 ⟨q, us, nq, row, rfl, rfl, hlt, hus, hrow, hrl⟩
      rw [hC5] at hrl
      have hfd : (ns.length : Int).fdiv pp = ((ns.length / pp : Nat) : Int) := by rw [fdiv_pos _ (by omega)]; norm_cast
      have h2p : 2 * pp ≤ ns.length := by omega
      have hq2 : 2 ≤ ns.length / pp := (Nat.le_div_iff_mul_le (by omega)).mpr h2p
      have hq3 : ns.length / pp ≤ ns.length := Nat.div_le_self _ _
      have hdm : pp * (ns.length / pp) + ns.length % pp = ns.length := Nat.div_add_mod _ _
      have htk : (row.take pp).length = pp := by rw [List.length_take]; omega
      have hrows := RowIs.two hleast h2p hrow
      have hrlen : (rep (ns.length / pp - 1) (row.take pp) ++ row).length = ns.length := by
        rw [List.length_append, rep, KM.len_rep, htk, hrl, Nat.mul_sub, Nat.mul_one]
        have : pp ≤ pp * (ns.length / pp) := Nat.le_mul_of_pos_right _ (by omega)
        omega
      have hrep : (rep (ns.length / pp - 1) (row.take pp)).length ≤ 16 := by rw [List.length_append] at hrlen; omega
      generalize hkq : ns.length / pp = kq at *
      w_strict k_steps
      refine Stop.out ?_
      (k_here; (k_dflt (refine' slice_upto ?slF7 ?slN7 ?sll7 ?sli7 ?slk7 ?slz7 ?_ ?sls7 ?slt7; (case slF7 => k_asm); (case slN7 => k_asm); (case sll7 => k_mem); (case sli7 => k_asm); (case slk7 => omega); (case slz7 => omega); (case sls7 => with_unfolding_all rfl); (case slt7 => (intro _; with_unfolding_all rfl)))); (intro D6 wv6 g6 F6x N6' hI6 l6); (try k_lt l6))
      w_strict k_steps
      refine Stop.out ?_
      rw [Int.toNat_natCast] at hI6
      rw [hfd]
      refine mul_led (by assumption) N6' (.head _) hI6 (by omega) (by omega) (by omega) ?_
      intro q2 ws2 h7 F7 N7 hI7 hlt7
      rw [show ((kq : Int) - 1).toNat = kq - 1 from Int.toNat_sub kq 1] at hI7
      w_strict k_steps
      refine Stop.out ?_
      refine add_led F7 N7 (.head _) (.tail _ (.tail _ (.head _))) hI7 hus (by rw [← rep]; omega) ?_
      intro q3 ws3 h8 F8 N8 hI8 hlt8
      w_strict k_steps
      refine hret _ _ _ _ (by assumption) (drops (led := (q3, listOf ws3.toArray 0) :: news) (by assumption) ?_) ⟨_, _, _, _, rfl, rfl, fun p hp => hlt8 p (.tail _ (.tail _ (.tail _ (.tail _ (.tail _ hp))))), hI8, hrows, hrlen⟩
      intro p hp
      rcases List.mem_cons.mp hp with rfl | hp
      · exact .head _
      · exact .tail _ (.tail _ (.tail _ (.tail _ (.tail _ (.tail _ hp)))))
    · refine Stop.out ?_
      (k_here; (k_dflt (refine' slice_upto ?slF6 ?slN6 ?sll6 ?sli6 ?slk6 ?slz6 ?_ ?sls6 ?slt6; (case slF6 => k_asm); (case slN6 => k_asm); (case sll6 => k_mem); (case sli6 => k_asm); (case slk6 => omega); (case slz6 => omega); (case sls6 => with_unfolding_all rfl); (case slt6 => (intro _; with_unfolding_all rfl)))); (intro D5 wv5 g5 F5 N5 hI5 l5); (try k_lt l5))
      w_strict k_steps
      refine Stop.out ?_
      rw [show ((ns.length : Int) - pp).toNat = ns.length - pp from Int.toNat_sub _ _] at hI5
      have hC5 : (ns.take (ns.length - pp)).length = ns.length - pp := by rw [List.length_take]; omega
      refine Spec.use (ih _ _ _ _ hI5 (by omega) (by omega) (by omega)) (by assumption) (by assumption) (by assumption) N5 (by assumption) rfl (by show dp + 1 + (k + 4) < _; omega) (by show un + 3 + 8 * (k + 4) + 100 < _; omega) (.head _) ?_
      rintro r news' h6 tk6 F6 N6 ⟨q, us, nq, row, rfl, rfl, hlt, hus, hrow, hrl⟩
      rw [hC5] at hrl
      w_strict k_steps
      refine Stop.out ?_
      rename_i N7 l7
      refine mul_led (by assumption) N7 (.head _) (IntsAre.cons _ _ IntsAre.nil) (by simp) (by omega) (by omega) ?_
      intro q2 ws2 h7 F7 N7 hI7 hlt7
      rw [flat_one, show (2 * (pp : Int) - ns.length - 1).toNat = 2 * pp - ns.length - 1 from by rw [Int.sub_sub, Nat.sub_sub]; exact Int.toNat_sub (2 * pp) (ns.length + 1)] at hI7
      w_strict k_steps
      refine Stop.out ?_
      refine add_led F7 N7 (.tail _ (.tail _ (.head _))) (.head _) hus hI7 (by simp; omega) ?_
      intro q3 ws3 h8 F8 N8 hI8 hlt8
      have hturn : (row ++ List.replicate (2 * pp - ns.length - 1) (1 : Int)).length = pp - 1 := by simp; omega
      have hfin : ∀ c : Int, (row ++ List.replicate (2 * pp - ns.length - 1) (1 : Int) ++ [c] ++ row).length = ns.length := by
        intro c
        rw [List.length_append, List.length_append, hturn, hrl]; simp; omega
      have N9 : News g' L' h8 ((q3, listOf ws3.toArray 0) :: (q, listOf us.toArray nq) :: news) := drops N8 (fun p hp => by
        rcases List.mem_cons.mp hp with rfl | hp
        · exact .head _
        · rcases List.mem_cons.mp hp with rfl | hp
          · exact .tail _ (.tail _ (.tail _ (.head _)))
          · exact .tail _ (.tail _ (.tail _ (.tail _ (.tail _ (.tail _ hp))))))
      have hq3 : q < q3 := hlt8 (q, _) (.tail _ (.tail _ (.head _)))
      have hq3' : ∀ p ∈ news, p.1 < q3 := fun p hp => hlt8 p (.tail _ (.tail _ (.tail _ (.tail _ (.tail _ hp)))))
      clear N8 N7 hlt8 hlt7 F7
      w_strict k_steps
      refine Stop.out ?_
      rename_i N10 l10
      refine add_led (by assumption) N10 (.tail _ (.head _)) (.head _) hI8 (IntsAre.cons _ _ IntsAre.nil) (by rw [hturn]; simp; omega) ?_
      intro q4 ws4 h11 F11 N11 hI11 hlt11
      w_strict k_steps
      refine Stop.out ?_
      have hlen0 : (row ++ List.replicate (2 * pp - ns.length - 1) (1 : Int) ++ [0]).length = pp := by rw [List.length_append, hturn]; simp; omega
      refine Spec.use (said_spec w _ _ _ hI11 (by rw [hlen0]; omega) _) (by assumption) (by assumption) (by assumption) N11 (by assumption) rfl (by show dp + 1 + 2 < _; omega) (by show un + 3 + 8 * 2 + 100 < _; omega) (.head _) ?_
      rintro r news' h12 tk12 F12 N12 ⟨rfl, b, rfl, hb⟩
      rw [hlen0] at hb
      have N13 : News g' L' h12 ((q3, listOf ws3.toArray 0) :: (q, listOf us.toArray nq) :: news) := drops N12 (fun p hp => .tail _ (.tail _ hp))
      clear N12 N11 N10 hlt11
      cases b with
      | true =>
        w_strict k_steps
        refine Stop.out ?_
        rename_i N14 l14
        refine add_led (by assumption) N14 (.tail _ (.head _)) (.head _) hI8 (IntsAre.cons _ _ IntsAre.nil) (by rw [hturn]; simp; omega) ?_
        intro q5 ws5 h15 F15 N15 hI15 hlt15
        w_strict k_steps
        refine Stop.out ?_
        refine add_led F15 N15 (.head _) (.tail _ (.tail _ (.tail _ (.head _)))) hI15 hus (by rw [List.length_append, hturn]; simp; omega) ?_
        intro q6 ws6 h16 F16 N16 hI16 hlt16
        w_strict k_steps
        refine hret _ _ _ _ (by assumption) (drops (led := (q6, listOf ws6.toArray 0) :: news) (by assumption) ?_) ⟨_, _, _, _, rfl, rfl, fun p hp => hlt16 p (.tail _ (.tail _ (.tail _ (.tail _ hp)))), hI16, RowIs.threeA hleast (by omega) (by omega) hrow (hb.mp rfl), hfin _⟩
        intro p hp
        rcases List.mem_cons.mp hp with rfl | hp
        · exact .head _
        · exact .tail _ (.tail _ (.tail _ (.tail _ (.tail _ hp))))
      | false =>
        w_strict k_steps
        refine Stop.out ?_
        rename_i N14 l14
        refine add_led (by assumption) N14 (.tail _ (.head _)) (.head _) hI8 (IntsAre.cons _ _ IntsAre.nil) (by rw [hturn]; simp; omega) ?_
        intro q5 ws5 h15 F15 N15 hI15 hlt15
        w_strict k_steps
        refine Stop.out ?_
        refine add_led F15 N15 (.head _) (.tail _ (.tail _ (.tail _ (.head _)))) hI15 hus (by rw [List.length_append, hturn]; simp; omega) ?_
        intro q6 ws6 h16 F16 N16 hI16 hlt16
        w_strict k_steps
        refine hret _ _ _ _ (by assumption) (drops (led := (q6, listOf ws6.toArray 0) :: news) (by assumption) ?_) ⟨_, _, _, _, rfl, rfl, fun p hp => hlt16 p (.tail _ (.tail _ (.tail _ (.tail _ hp)))), hI16, RowIs.threeB hleast (by omega) (by omega) hrow (fun hex => Bool.false_ne_true (hb.mpr hex)), hfin _⟩
        intro p hp
        rcases List.mem_cons.mp hp with rfl | hp
        · exact .head _
        · exact .tail _ (.tail _ (.tail _ (.tail _ (.tail _ hp))))
end Mine
end PartC4
section PartC11
open PySem PySem.W PyProof.Rows PySem.Calls PySem.Spec PyProof.Rows.LCg PyProof.Rows.LCt
namespace Mine
theorem fill11 : ∀ (w : World) (h : Heap), (Mine.hd.heap_39 w.params).In h → Challenge.rw_oc0103_01 = Challenge.rw_oc0103_01 := by
  k_fill
  intros; rfl
local macro_rules | `(tactic| walk_at "exec While Constant cons nil") => `(tactic| refine Stop.mk ?_)
local macro_rules | `(tactic| walk_at "exec While Compare cons nil") => `(tactic| refine Stop.mk ?_)
theorem extend_nil {prog : Program} {w : World} {A : Around} {E : Value → Shared → Prop} {s : Shared} {h₀ : Heap} {L l b : Addr} {m : Str → Option Value} {led : Led} {us ws : List Value} {n n2 : Nat} {Q : Value → Shared → Prop} (F : Fr h₀ L s.heap m) (N : News h₀ L s.heap led) (hb : (b, listOf ws.toArray n2) ∈ led) (hw : ws = [])
    (U : Upd l (listOf us.toArray n) (listOf us.toArray n) led led) (hsz : us.length ≤ 1000) (h : ∀ h', Fr h₀ L h' m → News h₀ L h' led → Q .none { s with heap := h' }) : wpAny (model prog w) A (call (.builtin "list.extend") [.ref l, .ref b]) Q E s := by
  subst hw
  refine kxn_extend F N hb rfl U ?_ (by rw [sizeLine_eq]; simp; omega) (by rw [sizeLine_eq]; simp; omega) h
  have : Builtin.List.listTooLong (us.toArray.size + (List.toArray ([] : List Value)).size) = false := by
    unfold Builtin.List.listTooLong
    rw [decide_eq_false_iff_not]
    simp only [List.size_toArray, List.length_nil, sizeLine_eq]
    omega
  rw [this]; simp
theorem ns_there {h : Heap} {L : Addr} {m : Str → Option Value} (N : h.Ns L m) : ∃ o, h.get? L = some o := let ⟨o, _, _, ho, _⟩ := N; ⟨o, ho⟩
theorem frame_turn {h₀ g g' : Heap} {L : Addr} {m : Str → Option Value} {cn : Str} {cs : Scope} {a : Addr} {ccd : Value} {cl : List (Str × Addr)} (F : Fr h₀ L g m) (T : KtsTurn ([envX cn cs L a ccd cl].filterMap (·.frame)) g g') : Fr h₀ L g' m := by
  refine ⟨Heap.UpToSlots.ns (fun b o e _ => T.up e) F.ns, fun b o e => T.other b o (F.keep b o e) fun hm => ?_, F.above⟩
  have hb : b = L := by simpa [envX] using hm
  have := Heap.lt_size e
  rw [hb] at this
  exact absurd (Nat.lt_of_lt_of_le this F.above) (Nat.lt_irrefl _)
local macro_rules | `(tactic| walk_at "subscriptTail Name Slice ref ref") => `(tactic| refine Stop.mk ?_)
local macro_rules | `(tactic| walk_at "call builtin:list.extend") => `(tactic| refine Stop.mk ?_)
/-- Spec for a caller right under the top -/
def Spec0 (w : World) (f : Addr) (need : Nat) (args : List Value) (Pre : Heap → Led → Prop) (Post : Led → Value → Led → Prop) : Prop :=
  ∀ (p : Program) (loose : List Str) (mean : ExcName → Option Value) (mg mb : Str → Option Value)
    (dp un : Nat) (gd : Option (List Code)) (cn : Str) (cs : Scope) (a : Addr) (ccd : Value) (cl : List (Str × Addr)) (A₀ : Around) (base h₀ : Heap) (L : Addr) (m : Str → Option Value) (news : Led) (s : Shared) (Q E : Value → Shared → Prop),
    Below A₀ base [] h₀ → Fr h₀ L s.heap m → (Mine.hd.heap_39 w.params).In h₀ → News h₀ L s.heap news → Top p loose mean mg mb h₀ → cs.kind = .function →
    dp + need < recursionLimit → un + 8 * need + 100 < cLine → Pre h₀ news →
    (∀ r news' h' tk', Fr h₀ L h' m → News h₀ L h' news' → Post news r news' → Q r { s with heap := h', toks := tk' }) →
    wpAny (model PG w) (ktrTop dp un gd cn cs L a ccd cl []) (call (.ref f) args) Q E s
set_option maxRecDepth 100000 in
set_option maxHeartbeats 8000000 in
theorem diff_spec (w : World) (le la : Addr) (n : Nat) (es as : List Int) (ve va : List Value) (n1 n2 : Nat) (hie : IntsAre ve es) (hia : IntsAre va as) (hn : es.length = n) (hn16 : n ≤ 16) (hla : as.length ≤ 16) (hla1 : 1 ≤ as.length)
   (hes : ∀ k, k < n → es.getD k 0 = k + 1) (hmono : ∀ j, j + 1 < as.length → as.getD j 0 < as.getD (j + 1) 0) (hlo : ∀ j, j < as.length → 1 ≤ as.getD j 0) (hlast : as.getD (as.length - 1) 0 = n) :
   Spec0 w 93 5 [.ref le, .ref la] (fun _ news => (le, listOf ve.toArray n1) ∈ news ∧ (la, listOf va.toArray n2) ∈ news)
     (fun news r news' => ∃ (q lm lu : Addr) (mv : List Value) (c1 c2 : Nat), r = .ref q ∧ news' = (q, tupO [.ref lm, .ref lu]) :: (lu, listOf #[] c2) :: (lm, listOf mv.toArray c1) :: news ∧ IntsAre mv (lacks as n) ∧ (∀ p ∈ news, p.1 < q)) := by
  w_top off
  have hn1 : 0 < n := by
    have := hlo (as.length - 1) (by omega)
    omega
  unfold Spec0
  intro p loose mean mg mb dp un gd cn cs a ccd cl A₀ base h₀ L m news s Q E B F X N T hk hd hu hpre hret
  replace N := dup (dup N hpre.2) (.tail _ hpre.1)
  refine wpAny_call ?_
  (k_dflt (refine' code_turn ?k1 ?k2 ?k3 ?k4 ?k5 ?kA ?kF ?kK ?k6 ?k7 ?k8 ?k9 ?kB ?_ ?c2 ?c3 ?c4 ?c5; (case kA => exact rfl); (case kF => exact rfl); (case kK => assumption); (case k1 => k_asm); (case k2 => k_asm); (case k3 => k_asm); (case k4 => k_asm); (case k5 => k_asm); (case k6 => k_is); (case k7 => k_is); (case k8 => ktr_room); (case k9 => exact BindsTo.of_eq rfl); (case c5 => decide); (case kB => exact locs rfl); (case c2 => exact rfl); (case c3 => exact rfl); (case c4 => exact rfl); k_whole; intro g' L' h1 FG F0 N0 B' X' T'; (try dsimp only); (try k_fold)))
  w_strict k_steps
  refine Stop.out ?_
  rename_i tk1 h2 h3 lm h4 l1 h5 tk2 lu h6 l2 h7 F1 N1
  refine While_inv2 (fun q m led => ∃ (i j : Nat) (ti tj : Tok) (mv : List Value) (c1 : Nat), m (Str.ofString "i") = some (.int i ti) ∧ m (Str.ofString "j") = some (.int j tj) ∧ m (Str.ofString "missing") = some (.ref lm) ∧ m (Str.ofString "unexpected") = some (.ref lu) ∧ m (Str.ofString "expected") = some (.ref le) ∧ m (Str.ofString "actual") = some (.ref la) ∧
     q = n - i ∧ i < n ∧ j < as.length ∧ (i : Int) + 1 ≤ as.getD j 0 ∧ (∀ k, k < j → as.getD k 0 ≤ i) ∧ IntsAre mv (lacks as i) ∧
     led = (lu, listOf #[] 0) :: (lm, listOf mv.toArray c1) :: (le, W.listOf ve.toArray n1) :: (la, W.listOf va.toArray n2) :: news) (n₀ := n - 0) F1 N1 ⟨0, 0, _, _, [], 0, rfl, rfl, rfl, rfl, rfl, rfl, rfl, hn1, hla1, by have := hlo 0 hla1; simpa using this, by intro k hk; omega, IntsAre.nil, rfl⟩ ?_
  rintro q m₂ led₂ h8 tk8 F2 N2 ⟨i, j, ti, tj, mv, c1, hm1, hm2, hm3, hm4, hm5, hm6, rfl, hi, hj, hge, hbef, hmv, rfl⟩
  clear F1 N1
  rw [see hm1, see hm2, see hm3, see hm4, see hm5, see hm6] at F2
  dsimp only at F2 N2 ⊢
  k_fold
  w_strict k_steps
  · rename_i qk ek tk9 t9 h9 t10 h10 F3 N3 hlt
    rw [Int.toNat_natCast, Int.toNat_natCast, hes i hi] at hlt
    have hln := up_mono hmono (j := j) (k := as.length - 1) (by omega) (by omega)
    have hlen := hmv.length
    have hls : (lacks as i).length ≤ i := by unfold lacks; refine Nat.le_trans (List.length_filter_le _ _) ?_; simp
    refine append_led (us := mv) (by assumption) N3 (.tail (Nat.ne_of_gt l2.1) (.head ?_)) (by omega) ?_
    · intro p hp
      rcases List.mem_cons.mp hp with rfl | hp
      · exact Nat.ne_of_lt l1.1
      rcases List.mem_cons.mp hp with rfl | hp
      · exact Nat.ne_of_lt l1.2.1
      exact Nat.ne_of_lt (of_allLt l1.2.2 p hp)
    intro h11 F4 N4
    w_strict k_steps
    refine Stop.out ?_
    rename_i h12 F5 N5
    refine While_inv2 (fun q m led => m = _ ∧ led = _) (n₀ := 0) F5 N5 ⟨rfl, rfl⟩ ?_
    rintro q m₃ led₃ h13 tk13 F6 N6 ⟨rfl, rfl⟩
    clear F5 N5
    dsimp only at F6 N6 ⊢
    k_fold
    have hq : es.getD ((i : Int) + 1).toNat 0 = (i : Int) + 2 := by rw [show ((i : Int) + 1).toNat = i + 1 by omega, hes _ (by omega)]; omega
    have hq2 : es.getD (i : Int).toNat 0 = (i : Int) + 1 := by rw [Int.toNat_natCast, hes _ (by omega)]
    w_strict k_steps
    · exfalso; rename_i a3 _ _ _; rw [hq, hq2] at a3; omega
    rename_i F7 N7
    refine ⟨_, _, _, _, n - (i + 1), rfl, by assumption, by assumption, by omega, i + 1, j, _, _, _, _, rfl, rfl, rfl, rfl, rfl, rfl, rfl, by omega, hj, by omega, fun k hk => by have := hbef k hk; omega, ?_, rfl⟩
    rw [lacks_succ, if_neg, hq2]
    · exact ints_snoc hmv _ _
    · intro hc
      obtain ⟨k, hk, e⟩ := mem_getD (List.contains_iff_mem.mp hc)
      rcases Nat.lt_or_ge k j with h | h
      · have := hbef k h; omega
      · have := up_mono hmono hk h; omega
  · exfalso
    rename_i a1 _ a2 _ _ _ _
    rw [Int.toNat_natCast, Int.toNat_natCast, hes i hi] at a2
    omega
  · rename_i qk ek tk9 t9 h9 t10 h10 a1 tk11 a2 h11 F3 N3
    rw [Int.toNat_natCast, Int.toNat_natCast, hes i hi] at a1 a2
    rw [Int.toNat_natCast, Int.toNat_natCast, hes i hi] at F3
    refine Stop.out ?_
    rcases Nat.lt_or_ge (i + 1) n with hin | hin
    · have hq : es.getD ((i : Int) + 1).toNat 0 = (i : Int) + 2 := by rw [show ((i : Int) + 1).toNat = i + 1 by omega, hes _ (by omega)]; omega
      refine While_inv2 (fun q m led => m = _ ∧ led = _) (n₀ := 0) F3 N3 ⟨rfl, rfl⟩ ?_
      rintro q m₃ led₃ h13 tk13 F6 N6 ⟨rfl, rfl⟩
      clear F3 N3
      dsimp only at F6 N6 ⊢
      k_fold
      w_strict k_steps
      · exfalso; rename_i a3 _ _ _; rw [hq] at a3; omega
      refine Stop.out ?_
      rename_i a3 h14 F7 N7
      have hjl : j + 1 < as.length := by
        rcases Nat.lt_or_ge (j + 1) as.length with h | h
        · exact h
        · have : j = as.length - 1 := by omega
          subst this; omega
      have hmj := hmono j hjl
      have hq4 : as.getD ((j : Int) + 1).toNat 0 = as.getD (j + 1) 0 := by rw [show ((j : Int) + 1).toNat = j + 1 by omega]
      refine While_inv2 (fun q m led => m = _ ∧ led = _) (n₀ := 0) F7 N7 ⟨rfl, rfl⟩ ?_
      rintro q m₃ led₃ h15 tk15 F8 N8 ⟨rfl, rfl⟩
      clear F7 N7
      dsimp only at F8 N8 ⊢
      k_fold
      w_strict k_steps
      · exfalso; rename_i a3 _ _ _; rw [hq4] at a3; omega
      refine ⟨_, _, _, _, n - (i + 1), rfl, by assumption, by assumption, by omega, i + 1, j + 1, _, _, _, _, rfl, rfl, rfl, rfl, rfl, rfl, rfl, by omega, hjl, by omega, fun k hk => ?_, ?_, rfl⟩
      · have := up_mono hmono hj (show k ≤ j by omega); omega
      · rw [lacks_succ, if_pos, List.append_nil]
        · exact hmv
        · rw [List.contains_iff_mem, ← show as.getD j 0 = (i : Int) + 1 by omega]; exact getD_mem hj
    · have hqn : (es.length : Int) ≤ (i : Int) + 1 := by omega
      have hjl : as.length = j + 1 := by
        rcases Nat.lt_or_ge (j + 1) as.length with h | h
        · have := hmono j h
          have := up_mono hmono (j := j + 1) (k := as.length - 1) (by omega) (by omega)
          omega
        · omega
      refine While_inv2 (fun q m led => m = _ ∧ led = _) (n₀ := 0) F3 N3 ⟨rfl, rfl⟩ ?_
      rintro q m₃ led₃ h13 tk13 F6 N6 ⟨rfl, rfl⟩
      clear F3 N3
      dsimp only at F6 N6 ⊢
      k_fold
      w_strict k_steps
      refine item_outK (items := ve.toArray) rfl ⟨_, (N6 _ (.tail _ (.tail _ (.head _)))).1, rfl, _, rfl⟩ (.inr (by rw [List.size_toArray, hie.length]; omega)) (by omega) (by omega) ?_
      intro h14 tk14 x1 hx1
      k_unfold
      obtain ⟨ob1, tp1, hb1, hcl1, hdt1⟩ := hx1.there
      refine note_new (h₀ := h13) (base := base) (Around.frames_deeper B'.stack) ((B'.push F6 rfl).frames.of_keeps fun b o hb _ => ⟨o, hx1.keeps b o hb, rfl⟩) rfl (Near.keeps hx1.keeps) hx1.new hb1 hdt1 rfl rfl ?_
      intro h15 n15 e15 f15
      refine ⟨ref_ne_byPass _, note_again rfl e15 (flight n15 e15 f15 ?_)⟩
      intro h16 n16 e16 f16
      obtain ⟨g2, TT, F7, B2, N7⟩ := ground B' F6 N6 n16
      have FG2 : Fr h₀ L g2 m := frame_turn FG TT
      have X2 := X.keeps FG2.keep
      have T2 := T.keeps FG2.keep
      obtain ⟨hn16, oe1, ve1, tr1, _, _, hoe1, hcl2, hde1, _, hc1, _⟩ := e16
      have hxL : x1 ≠ L' := fun q => by
        obtain ⟨o, ho⟩ := ns_there F6.ns
        rw [← q, hn16] at ho; cases ho
      have N8 : News g2 L' h16 ((x1, oe1) :: _) := fun p hp => (List.mem_cons.mp hp).elim (fun e => e ▸ ⟨hoe1, hxL, TT.none_ _ (kts_none F6.keep hn16)⟩) (N7 p)
      have hxle : x1 ≠ la := fun q => by
        have := (N6 (la, W.listOf va.toArray n2) (.tail _ (.tail _ (.tail _ (.head _))))).1
        rw [← q, hn16] at this; cases this
      clear F6 N6 N7 B' X' T' FG
      dsimp only at F7 N8 ⊢
      try k_fold
      w_strict k_steps
      refine Stop.out ?_
      rename_i h17 F8 N9
      refine While_inv2 (fun q m led => m = _ ∧ led = _) (n₀ := 0) F8 N9 ⟨rfl, rfl⟩ ?_
      rintro q m₃ led₃ h18 tk18 F9 N10 ⟨rfl, rfl⟩
      clear F8 N9
      dsimp only at F9 N10 ⊢
      try k_fold
      w_strict k_steps
      refine item_out_in (items := va.toArray) rfl (N10 _ (.head _)).1 hde1 hc1 ⟨_, (N10 _ (.tail _ (.tail _ (.tail _ (.tail _ (.head _)))))).1, rfl, _, rfl⟩ (j + 1) (by omega) (by rw [List.size_toArray, hia.length]; omega) (by omega) ?_
      intro h19 tk19 x2 hx2
      k_unfold
      refine back_to_handler B2 F9 hx2 rfl ?_
      intro h20 n20 e20 f20
      obtain ⟨g3, TT3, F10, B3, N11⟩ := ground B2 F9 N10 n20
      have FG3 : Fr h₀ L g3 m := frame_turn FG2 TT3
      have X3 := X.keeps FG3.keep
      have T3 := T.keeps FG3.keep
      obtain ⟨_, oe2, _, _, _, _, hoe2, hcl3, _⟩ := id e20
      refine wpAny_handleBy_builtin (X := "IndexError") (T := "IndexError") (b := true) PySem.F.isExc_IndexError PySem.F.notTuple_IndexError (by rw [isSubtype_type]; kernel_rfl) (name_B F10 X3 (topRead_of T3) (by k_is) PyProof.Rows.Boot.«IndexError» (by decide) ⟨rfl, ⟨oe2, hoe2, hcl3⟩, ?_⟩)
      refine flight n20 e20 f20 ?_
      intro h21 n21 e21 f21
      obtain ⟨g4, TT4, F11, B4, N12⟩ := ground B2 F9 N10 n21
      have FG4 : Fr h₀ L g4 m := frame_turn FG2 TT4
      have X4 := X.keeps FG4.keep
      have T4 := T.keeps FG4.keep
      clear F10 B3 N11 FG3 X3 T3 F9 N10 B2 X2 T2 FG2
      dsimp only at F11 N12 ⊢
      try k_fold
      w_strict k_steps
      refine Stop.out ?_
      (k_here; (k_dflt (refine' slice_from ?slF1 ?slN1 ?sll1 ?sli1 ?slk1 ?slz1 ?_ ?sls1 ?slt1; (case slF1 => k_asm); (case slN1 => k_asm); (case sll1 => k_mem); (case sli1 => k_asm); (case slk1 => omega); (case slz1 => omega); (case sls1 => with_unfolding_all rfl); (case slt1 => (intro _; with_unfolding_all rfl)))); (intro D1 ws1 h22 F12 N13 hI1 ll1); (try k_lt ll1))
      w_strict k_steps
      refine Stop.out ?_
      have hws1 : ws1 = [] := by
        have := hI1.length
        rw [List.length_drop] at this
        exact List.eq_nil_of_length_eq_zero (by omega)
      have hlen := hmv.length
      have hls : (lacks as i).length ≤ i := by unfold lacks; refine Nat.le_trans (List.length_filter_le _ _) ?_; simp
      have hul : ∀ p ∈ (le, W.listOf ve.toArray n1) :: (la, W.listOf va.toArray n2) :: news, p.1 < lm := by
        intro p hp
        rcases List.mem_cons.mp hp with rfl | hp
        · exact l1.1
        rcases List.mem_cons.mp hp with rfl | hp
        · exact l1.2.1
        exact of_allLt l1.2.2 p hp
      have hxu : x1 ≠ lu ∧ x1 ≠ lm := by
        have a1 := (N12 (lu, W.listOf #[] 0) (.tail _ (.head _))).1
        have a2 := (N12 (lm, W.listOf mv.toArray c1) (.tail _ (.tail _ (.head _)))).1
        have a3 := (N12 (x1, oe1) (.head _)).1
        refine ⟨fun q => ?_, fun q => ?_⟩
        · rw [← q, a3] at a1; injection a1 with a1; have a1 : oe1 = _ := a1; rw [a1] at hde1; cases hde1
        · rw [← q, a3] at a2; injection a2 with a2; have a2 : oe1 = _ := a2; rw [a2] at hde1; cases hde1
      refine extend_nil F12 N13 (.head _) hws1 (.tail (Nat.ne_of_gt ll1.2.2.1) (.tail hxu.2 (.tail (Nat.ne_of_gt l2.1) (.head (ne_all hul))))) (by omega) ?_
      intro h23 F13 N14
      clear F12 N13
      w_strict k_steps
      refine Stop.out ?_
      (k_here; (k_dflt (refine' slice_from ?slF2 ?slN2 ?sll2 ?sli2 ?slk2 ?slz2 ?_ ?sls2 ?slt2; (case slF2 => k_asm); (case slN2 => k_asm); (case sll2 => k_mem); (case sli2 => k_asm); (case slk2 => omega); (case slz2 => omega); (case sls2 => with_unfolding_all rfl); (case slt2 => (intro _; with_unfolding_all rfl)))); (intro D2 ws2 h24 F14 N15 hI2 ll2); (try k_lt ll2))
      w_strict k_steps
      refine Stop.out ?_
      have hws2 : ws2 = [] := by
        have := hI2.length
        rw [List.length_drop] at this
        exact List.eq_nil_of_length_eq_zero (by omega)
      have hul2 : ∀ p ∈ (lm, W.listOf mv.toArray c1) :: (le, W.listOf ve.toArray n1) :: (la, W.listOf va.toArray n2) :: news, p.1 < lu := by
        intro p hp
        rcases List.mem_cons.mp hp with rfl | hp
        · exact l2.1
        rcases List.mem_cons.mp hp with rfl | hp
        · exact l2.2.1
        rcases List.mem_cons.mp hp with rfl | hp
        · exact l2.2.2.1
        exact of_allLt l2.2.2.2 p hp
      refine extend_nil (us := []) F14 N15 (.head _) hws2 (.tail (Nat.ne_of_gt ll2.2.2.1) (.tail (Nat.ne_of_gt ll1.2.1) (.tail hxu.1 (.head (ne_all hul2))))) (by simp) ?_
      intro h25 F15 N16
      clear F14 N15
      w_strict k_steps
      dsimp only [WhileStep2]
      w_strict k_steps
      dsimp +zetaDelta only
      have TT5 := TT.trans TT4
      rename_i FZ NZ lZ
      refine leaveS0_ (g' := g4) FZ NZ TT5 ?_
      intro kF kN
      refine hret _ _ _ _ kF (drops kN ?_) ⟨_, lm, lu, mv, c1, 0, rfl, rfl, ?_, fun p hp => of_allLt lZ.2.2.2.2.2.2.2 p hp⟩
      · intro p hp
        rcases List.mem_cons.mp hp with rfl | hp
        · exact .head _
        rcases List.mem_cons.mp hp with rfl | hp
        · exact .tail _ (.tail _ (.tail _ (.tail _ (.head _))))
        rcases List.mem_cons.mp hp with rfl | hp
        · exact .tail _ (.tail _ (.tail _ (.tail _ (.tail _ (.head _)))))
        exact .tail _ (.tail _ (.tail _ (.tail _ (.tail _ (.tail _ (.tail _ (.tail _ hp)))))))
      · rw [show n = i + 1 by omega, lacks_succ, if_pos, List.append_nil]
        · exact hmv
        · rw [List.contains_iff_mem, ← show as.getD j 0 = (i : Int) + 1 by omega]; exact getD_mem hj
end Mine
end PartC11
end Group
section PartP5
open PySem PySem.W PyProof.Rows
namespace Mine
theorem wstep_len (acc : List Int) (x : Int) : (wstep acc x).length = acc.length + 1 := by
  unfold wstep; split <;> simp
theorem word_len_from (ns acc : List Int) : (ns.foldl wstep acc).length = acc.length + ns.length := by
  induction ns generalizing acc with
  | nil => simp
  | cons x r ih => rw [List.foldl_cons, ih, wstep_len, List.length_cons]; omega
theorem word_len (ns : List Int) : (ns.foldl wstep []).length = ns.length := by rw [word_len_from]; simp
theorem getD_in {acc : List Int} (h : ∀ y ∈ acc, 0 ≤ y ∧ y < 64) (k : Nat) : 0 ≤ acc.getD k 0 ∧ acc.getD k 0 < 64 := by
  rw [List.getD_eq_getElem?_getD]
  cases hk : acc[k]? with
  | none => decide
  | some y => exact h y (List.mem_of_getElem? hk)
theorem wstep_in {acc : List Int} {x : Int} (h : ∀ y ∈ acc, 0 ≤ y ∧ y < 64) : ∀ y ∈ wstep acc x, 0 ≤ y ∧ y < 64 := by
  intro y hy
  unfold wstep at hy
  split at hy
  · rcases List.mem_append.mp hy with hy | hy
    · exact h y hy
    · rw [List.mem_singleton.mp hy]; exact getD_in h _
  · rcases List.mem_append.mp hy with hy | hy
    · exact h y hy
    · rw [List.mem_singleton.mp hy]; omega
theorem word_in_from (ns acc : List Int) (h : ∀ y ∈ acc, 0 ≤ y ∧ y < 64) : ∀ y ∈ ns.foldl wstep acc, 0 ≤ y ∧ y < 64 := by
  induction ns generalizing acc with
  | nil => exact h
  | cons x r ih => exact ih _ (wstep_in h)
theorem word_in (ns : List Int) : ∀ y ∈ ns.foldl wstep [], 0 ≤ y ∧ y < 64 := word_in_from ns [] (by intro y hy; cases hy)
end Mine
end PartP5
section PartM9
open PySem PySem.W PyProof.Rows PySem.Calls PySem.Spec PyProof.Rows.LCg PyProof.Rows.LCt
namespace Mine
section
variable {prog : Program} {w : World} {A : Around} {E : Value → Shared → Prop} {s₁ : Shared} {h₀ : Heap} {L : Addr} {m : Str → Option Value} {env : Env} {elt : Expr} {x : Str} {scope : Scope} {cl : List (Str × Addr)} {Fin : Shared → List Value → Led → Prop} {news : Led}
/-- a comprehension over bytes -/
theorem src_bytes {os : List Int} {tb : Tok} (hos : ∀ x ∈ os, 0 ≤ x ∧ x < 256) (hh : A.handled = none) (hk : os.length ≤ 1000) (F : Fr h₀ L s₁.heap m) (N : News h₀ L s₁.heap news)
    (R : ∀ h, CompRest prog w A h₀ L m env elt x scope cl { s₁ with heap := h } (fun _ => True) (fun i v => ∃ c t, os[i]? = some c ∧ v = .int c t) (Fin { s₁ with heap := h }) os.length 0 [] news) :
    wpAny (model prog w) A (pyIter (.bytes (byteArr os) tb)) (Src prog w A h₀ L m env elt x scope cl Fin) E s₁ := by
  refine KBw.pyIter_bytes ?_
  have W := KBw.walks (prog := prog) (w := w) hh s₁.heap.objs.size (byteArr os) tb
  have hsz : (byteArr os).size = os.length := by simp [byteArr]
  rw [hsz] at W
  have W' : Walks prog w A s₁.heap.objs.size [s₁.heap.objs.size] [s₁.heap.objs.size] os.length (fun i v => ∃ c t, os[i]? = some c ∧ v = .int c t) _ :=
    { sub := W.sub, frame := W.frame, done := W.done, self := W.self,
      item := fun i s Q E hi st hQ => W.item i s Q E hi st fun v h' tk hP => hQ v h' tk (by obtain ⟨c, u, hc, rfl⟩ := hP; exact ⟨_, u, byteArr_get hos hc, rfl⟩) }
  refine ⟨s₁.heap.objs.size, os.length, _, _, news, rfl, W', by rw [sizeLine_eq]; omega, fun i h st => by obtain ⟨o, e, _⟩ := st; exact ⟨o, e⟩, ?_, ⟨_, Heap.get?_push_size _ rfl, rfl, rfl⟩, ?_, F.push _, fun p hp => ⟨Heap.get?_push_of_some _ (N p hp).1, (N p hp).2⟩, Nat.ne_of_lt F.ns.lt, next_is_new F, fun p hp => Nat.ne_of_lt (Heap.lt_size (N p hp).1), R _⟩
  · intro i h h' o st e e'
    obtain ⟨o2, e2, r⟩ := st
    rw [e] at e2; injection e2 with e2; subst e2
    exact ⟨_, e', r⟩
  · show s₁.heap.objs.size < (s₁.heap.push _).objs.size
    rw [Heap.size_push]; exact Nat.lt_succ_self _
end
end Mine
end PartM9
section PartP6
open PySem PySem.W PyProof.Rows
namespace Mine
/-- the text of numbers -/
def txt (bs : List Int) : Str := ⟨(bs.map Int.toNat).toArray⟩
theorem glue_fold (e : Str) (he : e.cps = #[]) (bs : List Int) (acc : Array Nat) :
    (bs.map fun c => (⟨#[c.toNat]⟩ : Str)).foldl (fun acc p => acc ++ e.cps ++ p.cps) acc = acc ++ (bs.map Int.toNat).toArray := by
  induction bs generalizing acc with
  | nil => simp
  | cons x r ih =>
    rw [List.map_cons, List.foldl_cons, ih, he]
    simp
theorem txt_join (e : Str) (he : e.cps = #[]) (bs : List Int) : Txt.join e (bs.map fun c => ⟨#[c.toNat]⟩) = txt bs := by
  show Builtin.Str.glued e _ = _
  unfold Builtin.Str.glued
  cases bs with
  | nil => rfl
  | cons x r =>
    rw [List.map_cons, List.drop_one, List.tail_cons, glue_fold e he]
    simp [txt]
theorem txt_len (bs : List Int) : (txt bs).length = bs.length := by simp [txt, Str.length]
theorem txt_inj {xs ys : List Int} (hx : ∀ x ∈ xs, 0 ≤ x) (hy : ∀ y ∈ ys, 0 ≤ y) (h : txt xs = txt ys) : xs = ys := by
  have e : xs.map Int.toNat = ys.map Int.toNat := by
    have := congrArg (fun s : Str => s.cps.toList) h
    simpa [txt] using this
  have f : ∀ zs : List Int, (∀ z ∈ zs, 0 ≤ z) → (zs.map Int.toNat).map (fun n : Nat => (n : Int)) = zs := by
    intro zs hz
    rw [List.map_map]
    conv => rhs; rw [← List.map_id zs]
    refine List.map_congr_left fun z hz' => ?_
    have := hz z hz'
    show ((z.toNat : Nat) : Int) = z
    omega
  rw [← f xs hx, ← f ys hy, e]
end Mine
end PartP6
section PartP7
open PySem PySem.W PyProof.Rows
namespace Mine
theorem ones_sum (bs : List Int) : ((bs.map fun c => (⟨#[c.toNat]⟩ : Str)).map (·.length)).sum = bs.length := by
  induction bs with
  | nil => rfl
  | cons x r ih =>
    rw [List.map_cons, List.map_cons, List.sum_cons, ih, List.length_cons]
    show 1 + _ = _
    omega
theorem empty_len : (Str.ofString "").length = 0 := by decide +kernel
theorem empty_cps : (Str.ofString "").cps = #[] := by decide +kernel
theorem join_ok (bs : List Int) (h : bs.length ≤ 1000) : ((bs.map fun c => (⟨#[c.toNat]⟩ : Str)).map (·.length)).sum + (bs.map fun c => (⟨#[c.toNat]⟩ : Str)).length * (Str.ofString "").length ≤ 16777216 := by
  rw [ones_sum, empty_len]; omega
theorem join_txt (bs : List Int) : Txt.join (Str.ofString "") (bs.map fun c => ⟨#[c.toNat]⟩) = txt bs := txt_join _ empty_cps bs
end Mine
namespace Mine
theorem slice_to {bs : List Int} {j : Int} (h0 : 0 ≤ j) (h1 : j ≤ bs.length) : Txt.slice (txt bs) none (some j) = txt (bs.take j.toNat) := by
  have hl : (txt bs).cps.toList.length = bs.length := by simp [txt]
  rw [beq_iff_eq.mp (slice_closes_to ⟨h0, by rw [hl]; exact h1⟩)]
  simp [txt]
theorem slice_fr {bs : List Int} {j : Int} (h0 : 0 ≤ j) (h1 : j ≤ bs.length) : Txt.slice (txt bs) (some j) none = txt (bs.drop j.toNat) := by
  have hl : (txt bs).cps.toList.length = bs.length := by simp [txt]
  rw [beq_iff_eq.mp (slice_closes_from ⟨h0, by rw [hl]; exact h1⟩)]
  simp only [hl]
  unfold txt
  congr 2
  rw [List.take_of_length_le (by simp; omega), List.map_drop]
section
variable {prog : Program} {w : World} {A : Around} {E : Value → Shared → Prop} {s : Shared} {h₀ : Heap} {L : Addr} {m : Str → Option Value} {news : List (Addr × Obj)} {Q : Value → Shared → Prop} {value slice : Expr} {y : Int} {t u : Tok} {bs : List Int}
theorem cut_to (hF : Fr h₀ L s.heap m) (hN : News h₀ L s.heap news) (hb : bs.length ≤ 1000) (h0 : 0 ≤ y) (h1 : y ≤ bs.length)
    (h : ∀ h' t' k, Fr h₀ L h' m → News h₀ L h' news → Q (.str (txt (bs.take y.toNat)) t') { s with heap := h', toks := k })
    (hs : subscripted slice false (.str (txt bs) t) (.ref s.heap.objs.size) = operate [.ref s.heap.objs.size, .str (txt bs) t] (getItem (.str (txt bs) t) (.ref s.heap.objs.size)))
    (ht : ∀ r, letTemporaryGo value (.str (txt bs) t) r = pure ()) :
    wpAny (model prog w) A (subscriptTail value slice (.str (txt bs) t) (.ref s.heap.objs.size)) Q E { s with heap := s.heap.push { cls := .type "slice", data := .fields #[.none, .int y u, .none] } } :=
  slice_strN_ns hF hN (fun h' t' k F' N' => by rw [slice_to h0 h1]; exact h h' t' k F' N') hs ht (by rw [txt_len, sizeLine_eq]; omega)
theorem cut_from (hF : Fr h₀ L s.heap m) (hN : News h₀ L s.heap news) (hb : bs.length ≤ 1000) (h0 : 0 ≤ y) (h1 : y ≤ bs.length)
    (h : ∀ h' t' k, Fr h₀ L h' m → News h₀ L h' news → Q (.str (txt (bs.drop y.toNat)) t') { s with heap := h', toks := k })
    (hs : subscripted slice false (.str (txt bs) t) (.ref s.heap.objs.size) = operate [.ref s.heap.objs.size, .str (txt bs) t] (getItem (.str (txt bs) t) (.ref s.heap.objs.size)))
    (ht : ∀ r, letTemporaryGo value (.str (txt bs) t) r = pure ()) :
    wpAny (model prog w) A (subscriptTail value slice (.str (txt bs) t) (.ref s.heap.objs.size)) Q E { s with heap := s.heap.push { cls := .type "slice", data := .fields #[.int y u, .none, .none] } } :=
  slice_strN_sn hF hN (fun h' t' k F' N' => by rw [slice_fr h0 h1]; exact h h' t' k F' N') hs ht (by rw [txt_len, sizeLine_eq]; omega)
end
end Mine
end PartP7
section PartQ1
namespace Mine
/-- p is a period of the first n values of f -/
def per (f : Nat → Int) (n p : Nat) : Prop := ∀ i, i + p < n → f i = f (i + p)
theorem per.mono {f : Nat → Int} {n m p : Nat} (h : per f n p) (hm : m ≤ n) : per f m p := fun i hi => h i (by omega)
theorem per.congr {f g : Nat → Int} {n p : Nat} (h : per f n p) (e : ∀ i, i < n → f i = g i) : per g n p := fun i hi => by
  rw [← e i (by omega), ← e (i + p) hi]; exact h i hi
theorem per.mul {f : Nat → Int} {n p : Nat} (h : per f n p) : ∀ k, per f n (p * k)
  | 0 => fun i _ => rfl
  | k + 1 => fun i hi => by
    rw [Nat.mul_succ] at hi ⊢
    rw [h.mul k i (by omega), h (i + p * k) (by omega), Nat.add_assoc]
theorem per.dvd {f : Nat → Int} {n p q : Nat} (h : per f n p) (hd : p ∣ q) : per f n q := by
  obtain ⟨k, rfl⟩ := hd
  exact h.mul k
theorem per.sub {f : Nat → Int} {n p d : Nat} (hp : per f n p) (hq : per f n (p + d)) (hn : p + (p + d) ≤ n) : per f n d := by
  intro i hi
  have e : i + (p + d) = i + d + p := by rw [Nat.add_comm p d, Nat.add_assoc]
  rcases Nat.lt_or_ge (i + (p + d)) n with h | h
  · rw [hq i h, hp (i + d) (e ▸ h), e]
  · obtain ⟨a, rfl⟩ : ∃ a, i = a + p := ⟨i - p, by omega⟩
    have e2 : a + p + d = a + (p + d) := Nat.add_assoc _ _ _
    rw [← hp a (Nat.lt_of_le_of_lt (Nat.le_add_right _ _) hi), e2]
    exact hq a (e2 ▸ hi)
theorem per_gcd {f : Nat → Int} {n : Nat} : ∀ (k p q : Nat), p + q ≤ k → p + q ≤ n → per f n p → per f n q → per f n (Nat.gcd p q)
  | 0, p, q, hk, hn, hp, hq => by
    have : p = 0 := Nat.eq_zero_of_add_eq_zero_right (Nat.le_zero.mp hk)
    subst this
    rw [Nat.gcd_zero_left]; exact hq
  | k + 1, p, q, hk, hn, hp, hq => by
    rcases Nat.eq_zero_or_pos p with e | h1
    · subst e; rw [Nat.gcd_zero_left]; exact hq
    rcases Nat.eq_zero_or_pos q with e | h2
    · subst e; rw [Nat.gcd_zero_right]; exact hp
    rcases Nat.le_total p q with h | h
    · obtain ⟨d, rfl⟩ := Nat.exists_eq_add_of_le h
      rw [Nat.gcd_self_add_right]
      exact per_gcd k p d (by omega) (by omega) hp (hp.sub hq hn)
    · obtain ⟨d, rfl⟩ := Nat.exists_eq_add_of_le h
      rw [Nat.gcd_comm, Nat.gcd_self_add_right]
      exact per_gcd k q d (by omega) (by omega) hq (hq.sub hp (by omega))
theorem per.mod {f : Nat → Int} {n p : Nat} (h : per f n p) (hp : 0 < p) : ∀ k i, i ≤ k → i < n → f i = f (i % p)
  | 0, i, hk, _ => by
    have : i = 0 := by omega
    subst this; rw [Nat.zero_mod]
  | k + 1, i, hk, hi => by
    rcases Nat.lt_or_ge i p with h1 | h1
    · rw [Nat.mod_eq_of_lt h1]
    · have h2 := h (i - p) (by omega)
      rw [show i - p + p = i by omega] at h2
      rw [← h2, h.mod hp k (i - p) (by omega) (by omega), Nat.mod_eq_sub_mod h1]
theorem per_of_mod {f g : Nat → Int} {n p : Nat} (h : ∀ i, i < n → f i = g (i % p)) : per f n p := fun i hi => by
  rw [h i (by omega), h (i + p) hi, Nat.add_mod_right]
theorem per.ext {g : Nat → Int} {n m p d : Nat} (hg : per g n p) (hp : 0 < p) (hpm : p ≤ m) (hd : d ∣ p) (h : per g m d) : per g n d := by
  have hd0 : 0 < d := Nat.pos_of_dvd_of_pos hd hp
  refine per_of_mod (g := g) fun i hi => ?_
  have hlt : i % p < p := Nat.mod_lt _ hp
  rw [hg.mod hp i i (Nat.le_refl _) hi, h.mod hd0 (i % p) (i % p) (Nat.le_refl _) (by omega), Nat.mod_mod_of_dvd _ hd]
theorem shift {f : Nat → Int} {n m c d : Nat} (hc : m + c = n) (hf : per f n c) : per f n (d + c) ↔ per f m d := by
  have key : ∀ i, i + d < m → i + (d + c) < n ∧ f (i + d) = f (i + (d + c)) := fun i hi => by
    have e : i + (d + c) = i + d + c := (Nat.add_assoc _ _ _).symm
    have h : i + (d + c) < n := by rw [e, ← hc]; exact Nat.add_lt_add_right hi c
    rw [hf (i + d) (e ▸ h), e]
    exact ⟨e ▸ h, rfl⟩
  constructor
  · intro h i hi
    rw [h i (key i hi).1, (key i hi).2]
  · intro h i hi
    have hi' : i + d < m := by
      rw [← hc, ← Nat.add_assoc] at hi
      exact Nat.lt_of_add_lt_add_right hi
    rw [h i hi', (key i hi').2]
theorem lift {f g : Nat → Int} {n m p c : Nat} (hc : m + c = n) (hp : 1 ≤ p) (hpm : p ≤ m) (hdv : p ∣ c) (hf : per f n p) (hg : per g n p) (h : ∀ q, 1 ≤ q → q ≤ m → per f m q → per g m q) :
    ∀ q, 1 ≤ q → q ≤ n → per f n q → per g n q := by
  intro q h1 hn hq
  rcases Nat.lt_or_ge n (q + p) with hl | hl
  · obtain ⟨d, hd1, rfl⟩ : ∃ d, 1 ≤ d ∧ q = d + c := ⟨q - c, by omega, by omega⟩
    rw [shift hc (hf.dvd hdv)] at hq
    rw [shift hc (hg.dvd hdv)]
    exact h _ hd1 (Nat.le_of_add_le_add_right (hc ▸ hn)) hq
  · have hd := per_gcd (p + q) p q (Nat.le_refl _) (Nat.add_comm q p ▸ hl) hf hq
    have hdp : Nat.gcd p q ∣ p := Nat.gcd_dvd_left p q
    have hd0 : 0 < Nat.gcd p q := Nat.pos_of_dvd_of_pos hdp hp
    have hdl : Nat.gcd p q ≤ p := Nat.le_of_dvd hp hdp
    have := h _ hd0 (Nat.le_trans hdl hpm) (hd.mono (hc ▸ Nat.le_add_right _ _))
    exact (hg.ext hp hpm hdp this).dvd (Nat.gcd_dvd_right p q)
/-- of two rows that part in their last sign alone, one is not said over -/
theorem prim {f g : Nat → Int} {N s t : Nat} (hs : 1 ≤ s) (ht : 1 ≤ t) (h2s : 2 * s ≤ N + 1) (h2t : 2 * t ≤ N + 1) (e : ∀ i, i < N → f i = g i) (pf : per f (N + 1) s) (pg : per g (N + 1) t) : f N = g N := by
  by_cases h : s = t
  · subst h
    obtain ⟨a, rfl⟩ : ∃ a, N = a + s := ⟨N - s, by omega⟩
    rw [← pf a (Nat.lt_succ_self _), ← pg a (Nat.lt_succ_self _)]
    exact e _ (Nat.lt_add_of_pos_right hs)
  · obtain ⟨a, rfl⟩ : ∃ a, N = a + s + t := ⟨N - s - t, by omega⟩
    have e1 : a + s + t = a + t + s := Nat.add_right_comm _ _ _
    have f1 := pf (a + t) (by rw [e1]; exact Nat.lt_succ_self _)
    have g1 := pg (a + s) (Nat.lt_succ_self _)
    have f2 := pf a (Nat.lt_succ_of_le (Nat.le_add_right _ _))
    have g2 := pg a (by rw [e1]; exact Nat.lt_succ_of_le (Nat.le_add_right _ _))
    have l1 : a + s < a + s + t := Nat.lt_add_of_pos_right ht
    have l2 : a + t < a + s + t := e1 ▸ Nat.lt_add_of_pos_right hs
    rw [← e1] at f1
    rw [← f1, ← g1, e _ l2, ← g2, ← e _ l1, ← f2]
    exact (e _ (Nat.lt_trans (Nat.lt_add_of_pos_right hs) l1)).symm
/-- the sign at i -/
def sg (w : List Int) (i : Nat) : Int := (w[i]?).getD 0
theorem sg_app_l {a b : List Int} {i : Nat} (h : i < a.length) : sg (a ++ b) i = sg a i := by
  unfold sg; rw [List.getElem?_append_left h]
theorem sg_app_r {a b : List Int} {i : Nat} (h : a.length ≤ i) : sg (a ++ b) i = sg b (i - a.length) := by
  unfold sg; rw [List.getElem?_append_right h]
theorem sg_take {a : List Int} {i k : Nat} (h : i < k) : sg (a.take k) i = sg a i := by
  unfold sg; rw [List.getElem?_take_of_lt h]
theorem sg_drop {a : List Int} {i k : Nat} : sg (a.drop k) i = sg a (k + i) := by
  unfold sg; rw [List.getElem?_drop]
theorem sg_ones {i k : Nat} (h : i < k) : sg (List.replicate k 1) i = 1 := by
  unfold sg; rw [List.getElem?_replicate, if_pos h]; rfl
theorem sg_ext {a b : List Int} (hl : a.length = b.length) (h : ∀ i, i < a.length → sg a i = sg b i) : a = b := by
  refine List.ext_getElem hl fun i h1 h2 => ?_
  have := h i h1
  unfold sg at this
  rwa [List.getElem?_eq_getElem h1, List.getElem?_eq_getElem h2] at this
theorem per_iff (w : List Int) {p : Nat} (hp : p ≤ w.length) : w.drop p = w.take (w.length - p) ↔ per (sg w) w.length p := by
  constructor
  · intro h i hi
    have := congrArg (fun z => sg z i) h
    rw [sg_drop, sg_take (by omega)] at this
    rw [← this, Nat.add_comm]
  · intro h
    refine sg_ext (by rw [List.length_drop, List.length_take]; omega) fun i hi => ?_
    rw [List.length_drop] at hi
    rw [sg_drop, sg_take (by omega), h i (by omega), Nat.add_comm]
theorem rep_at {x : List Int} {p : Nat} (hx : x.length = p) : ∀ j i, i < j * p → sg (rep j x) i = sg x (i % p)
  | 0, i, h => by omega
  | j + 1, i, h => by
    have e : rep (j + 1) x = x ++ rep j x := rfl
    rw [Nat.succ_mul] at h
    rw [e]
    rcases Nat.lt_or_ge i p with h1 | h1
    · rw [sg_app_l (by omega), Nat.mod_eq_of_lt h1]
    · rw [sg_app_r (by omega), hx, rep_at hx j (i - p) (by omega), Nat.mod_eq_sub_mod h1]
theorem rep_len {x : List Int} : ∀ j, (rep j x).length = j * x.length
  | 0 => by rw [Nat.zero_mul]; rfl
  | j + 1 => by
    have e : rep (j + 1) x = x ++ rep j x := rfl
    rw [e, List.length_append, rep_len j, Nat.succ_mul, Nat.add_comm]
theorem said_per {u : List Int} {k : Nat} (h1 : 1 ≤ k) (h2 : k < u.length) (h : saidAt u k) : 2 * k ≤ u.length ∧ per (sg u) u.length k := by
  unfold saidAt at h
  have hl : (u.take k).length = k := by rw [List.length_take]; omega
  have hlen : u.length = u.length / k * k := by
    have := congrArg List.length h
    rwa [rep_len, hl] at this
  constructor
  · rcases Nat.lt_or_ge (u.length / k) 2 with h3 | h3
    · have : u.length / k ≤ 1 := by omega
      have := Nat.mul_le_mul_right k this
      omega
    · have := Nat.mul_le_mul_right k h3
      omega
  · refine per_of_mod (g := sg (u.take k)) fun i hi => ?_
    have := rep_at hl (u.length / k) i (by omega)
    rw [← h] at this
    exact this
theorem per_said {u : List Int} {d : Nat} (h1 : 1 ≤ d) (hd : d ∣ u.length) (h : per (sg u) u.length d) (hle : d ≤ u.length) : saidAt u d := by
  have hl : (u.take d).length = d := by rw [List.length_take]; omega
  have hm : u.length / d * d = u.length := Nat.div_mul_cancel hd
  unfold saidAt
  refine sg_ext (by rw [rep_len, hl, hm]) fun i hi => ?_
  rw [rep_at hl _ _ (by omega), sg_take (Nat.mod_lt _ h1), h.mod h1 i i (Nat.le_refl _) hi]
/-- what a row is for a word -/
def Good (w r : List Int) : Prop := r.length = w.length ∧ sg r 0 = 0 ∧ (∀ x ∈ r, x = 0 ∨ x = 1) ∧ ∀ q, 1 ≤ q → q ≤ w.length → (per (sg w) w.length q ↔ per (sg r) w.length q)
theorem Least.per {w : List Int} {p : Nat} (h : Least w p) : per (sg w) w.length p := (per_iff w h.2.1).mp h.2.2.1
theorem Least.no {w : List Int} {p q : Nat} (h : Least w p) (h1 : 1 ≤ q) (h2 : q < p) : ¬ Mine.per (sg w) w.length q := fun hq => h.2.2.2 q h1 h2 ((per_iff w (by have := h.2.1; omega)).mpr hq)
theorem good_one {w : List Int} (h : Least w w.length) : Good w (0 :: List.replicate (w.length - 1) 1) := by
  have h1 := h.1
  refine ⟨by simp; omega, rfl, ?_, ?_⟩
  · intro x hx
    rcases List.mem_cons.mp hx with e | hx
    · exact .inl e
    · exact .inr (List.eq_of_mem_replicate hx)
  · intro q hq1 hq2
    rcases Nat.lt_or_ge q w.length with hl | hl
    · refine ⟨fun hp => absurd hp (h.no hq1 hl), fun hp => ?_⟩
      have := hp 0 (by omega)
      rw [Nat.zero_add] at this
      have e : sg (0 :: List.replicate (w.length - 1) 1) q = 1 := by
        obtain ⟨k, rfl⟩ : ∃ k, q = k + 1 := ⟨q - 1, by omega⟩
        show sg (List.replicate (w.length - 1) 1) k = 1
        exact sg_ones (by omega)
      rw [e] at this
      exact absurd (show (0 : Int) = 1 from this) (by decide)
    · exact ⟨fun _ i hi => by omega, fun _ i hi => by omega⟩
theorem good_two {w row : List Int} {p : Nat} (h : Least w p) (h2 : 2 * p ≤ w.length) (ih : Good (w.take (p + w.length % p)) row) : Good w (rep (w.length / p - 1) (row.take p) ++ row) := by
  obtain ⟨il, i0, ib, ip⟩ := ih
  have hp1 := h.1
  have hpw : per (sg w) w.length p := h.per
  have hdm : p * (w.length / p) + w.length % p = w.length := Nat.div_add_mod _ _
  have hk2 : 2 ≤ w.length / p := (Nat.le_div_iff_mul_le hp1).mpr h2
  clear h h2
  generalize w.length % p = s at *
  obtain ⟨j, hj⟩ : ∃ j, w.length / p = j + 1 := ⟨w.length / p - 1, by omega⟩
  rw [hj] at hdm ⊢
  rw [Nat.add_sub_cancel]
  have hn : p + s + p * j = w.length := by rw [← hdm, Nat.mul_succ]; omega
  clear hdm hk2 hj
  have htl : (w.take (p + s)).length = p + s := by rw [List.length_take, ← hn]; exact Nat.min_eq_left (Nat.le_add_right _ _)
  rw [htl] at il ip
  unfold Good
  rw [← hn] at hpw ⊢
  clear hn htl
  have htk : (row.take p).length = p := by rw [List.length_take, il]; exact Nat.min_eq_left (Nat.le_add_right _ _)
  have hrl : (rep j (row.take p)).length = p * j := by rw [rep_len, htk, Nat.mul_comm]
  have hpw' : per (sg (w.take (p + s))) (p + s) p := (hpw.mono (Nat.le_add_right _ _)).congr fun i hi => (sg_take hi).symm
  have hpr := (ip p hp1 (Nat.le_add_right _ _)).mp hpw'
  have hat : ∀ i, i < p + s + p * j → sg (rep j (row.take p) ++ row) i = sg row (i % p) := by
    intro i hi
    rcases Nat.lt_or_ge i (p * j) with hl | hl
    · rw [sg_app_l (hrl ▸ hl), rep_at htk _ _ (Nat.mul_comm p j ▸ hl), sg_take (Nat.mod_lt _ hp1)]
    · obtain ⟨x, rfl⟩ := Nat.exists_eq_add_of_le hl
      rw [sg_app_r (hrl ▸ hl), hrl, Nat.add_sub_cancel_left, Nat.mul_add_mod, hpr.mod hp1 x x (Nat.le_refl _) (by omega)]
  have hpR : per (sg (rep j (row.take p) ++ row)) (p + s + p * j) p := per_of_mod hat
  have hpre : ∀ i, i < p + s → sg (rep j (row.take p) ++ row) i = sg row i := fun i hi => by
    rw [hat i (Nat.lt_add_right _ hi), ← hpr.mod hp1 _ _ (Nat.le_refl _) hi]
  refine ⟨by rw [List.length_append, hrl, il, Nat.add_comm], by rw [hpre 0 (Nat.lt_add_right s hp1)]; exact i0, ?_, ?_⟩
  · intro x hx
    rcases List.mem_append.mp hx with hx | hx
    · obtain ⟨l, hl, hx⟩ := List.mem_flatten.mp hx
      rw [List.eq_of_mem_replicate hl] at hx
      exact ib x (List.mem_of_mem_take hx)
    · exact ib x hx
  · intro q hq1 hq2
    refine ⟨lift rfl hp1 (Nat.le_add_right _ _) ⟨_, rfl⟩ hpw hpR ?_ q hq1 hq2, lift rfl hp1 (Nat.le_add_right _ _) ⟨_, rfl⟩ hpR hpw ?_ q hq1 hq2⟩
    · intro q h1 h2 hq
      exact ((ip q h1 h2).mp (hq.congr fun i hi => (sg_take hi).symm)).congr fun i hi => (hpre i hi).symm
    · intro q h1 h2 hq
      exact ((ip q h1 h2).mpr (hq.congr fun i hi => hpre i hi)).congr fun i hi => sg_take hi
theorem good_three {w ends : List Int} {p : Nat} {c : Int} (h : Least w p) (hlt : p < w.length) (h2 : w.length < 2 * p) (ih : Good (w.take (w.length - p)) ends) (hc : c = 0 ∨ c = 1)
    (hn : ∀ k, 1 ≤ k → k < p → ¬ saidAt (ends ++ List.replicate (2 * p - w.length - 1) 1 ++ [c]) k) : Good w (ends ++ List.replicate (2 * p - w.length - 1) 1 ++ [c] ++ ends) := by
  obtain ⟨il, i0, ib, ip⟩ := ih
  have hp1 := h.1
  have hpw : per (sg w) w.length p := h.per
  have hno := fun {q} => h.no (q := q)
  obtain ⟨b, m, hb1, rfl, hbn⟩ : ∃ b m, 1 ≤ b ∧ p = b + m + 1 ∧ w.length = b + (b + m + 1) := ⟨w.length - p, 2 * p - w.length - 1, by omega, by omega, by omega⟩
  rw [show w.length - (b + m + 1) = b by omega] at il ip
  rw [show 2 * (b + m + 1) - w.length - 1 = m by omega] at hn ⊢
  have htl : (w.take b).length = b := by rw [List.length_take, hbn]; omega
  rw [htl] at il ip
  unfold Good
  rw [hbn] at hpw hno ⊢
  clear hlt h2 hbn h
  have hones : ∀ i, i < m → sg (List.replicate m (1 : Int)) i = 1 := fun i hi => sg_ones hi
  have hom : ∀ x ∈ List.replicate m (1 : Int), x = 1 := fun x hx => List.eq_of_mem_replicate hx
  have hon : (List.replicate m (1 : Int)).length = m := List.length_replicate ..
  generalize List.replicate m (1 : Int) = on at *
  have htu : (ends ++ on).length = b + m := by rw [List.length_append, il, hon]
  have hul : (ends ++ on ++ [c]).length = b + m + 1 := by rw [List.length_append, htu]; rfl
  have hU : ∀ i, i < b + m + 1 → sg (ends ++ on ++ [c] ++ ends) i = sg (ends ++ on ++ [c]) i := fun i hi => sg_app_l (hul ▸ hi)
  have hT : ∀ i, i < b + m → sg (ends ++ on ++ [c] ++ ends) i = sg (ends ++ on) i := fun i hi => by
    rw [hU i (Nat.lt_succ_of_lt hi), sg_app_l (htu ▸ hi)]
  have hR0 : ∀ i, i < b → sg (ends ++ on ++ [c] ++ ends) i = sg ends i := fun i hi => by
    rw [hT i (Nat.lt_add_right m hi), sg_app_l (il ▸ hi)]
  have hR1 : ∀ j, j < m → sg (ends ++ on ++ [c] ++ ends) (b + j) = 1 := fun j hj => by
    rw [hT _ (Nat.add_lt_add_left hj b), sg_app_r (il ▸ Nat.le_add_right b j), il, Nat.add_sub_cancel_left]
    exact hones j hj
  have hR2 : ∀ i, sg (ends ++ on ++ [c] ++ ends) (i + (b + m + 1)) = sg ends i := fun i => by
    rw [sg_app_r (hul ▸ Nat.le_add_left _ i), hul, Nat.add_sub_cancel]
  have hpR : per (sg (ends ++ on ++ [c] ++ ends)) (b + (b + m + 1)) (b + m + 1) := fun i hi => by
    rw [hR0 i (Nat.lt_of_add_lt_add_right hi), hR2]
  refine ⟨by rw [List.length_append, hul, il, Nat.add_comm], by rw [hR0 0 hb1]; exact i0, ?_, ?_⟩
  · intro x hx
    rcases List.mem_append.mp hx with hx | hx
    · rcases List.mem_append.mp hx with hx | hx
      · rcases List.mem_append.mp hx with hx | hx
        · exact ib x hx
        · exact .inr (hom x hx)
      · rw [List.mem_singleton.mp hx]; exact hc
    · exact ib x hx
  · intro q hq1 hq2
    rcases Nat.lt_or_ge q (b + m + 1) with hqp | hqp
    · refine ⟨fun hq => absurd hq (hno hq1 hqp), fun hq => ?_⟩
      exfalso
      rcases Nat.lt_or_ge b q with hbq | hbq
      · -- the first sign says itself again at q
        obtain ⟨j, rfl⟩ : ∃ j, q = b + j := ⟨q - b, by omega⟩
        have e0 := hq 0 (by omega)
        rw [Nat.zero_add, hR0 0 hb1, i0] at e0
        rcases Nat.lt_or_ge j m with hl | hl
        · rw [hR1 j hl] at e0
          exact absurd e0 (by decide)
        · have hjm : j = m := by omega
          subst hjm
          have hz : ∀ i, i ≤ b → sg (ends ++ on ++ [c] ++ ends) i = 0 := by
            intro i
            induction i with
            | zero => intro _; rw [hR0 0 hb1]; exact i0
            | succ i ihh =>
              intro hi
              have a1 := hq (i + 1) (by omega)
              have a2 := hpR i (by omega)
              rw [show i + 1 + (b + j) = i + (b + j + 1) by omega] at a1
              rw [a1, ← a2]
              exact ihh (Nat.le_of_succ_le hi)
          have e1 := hz b (Nat.le_refl _)
          have e2 := hR1 0 (by omega)
          rw [Nat.add_zero, e1] at e2
          exact absurd e2 (by decide)
      · have hd := per_gcd (b + m + 1 + q) (b + m + 1) q (Nat.le_refl _) (by omega) hpR hq
        have hdp : Nat.gcd (b + m + 1) q ∣ b + m + 1 := Nat.gcd_dvd_left _ q
        have hdq : Nat.gcd (b + m + 1) q ≤ q := Nat.le_of_dvd hq1 (Nat.gcd_dvd_right _ q)
        have hd0 : 0 < Nat.gcd (b + m + 1) q := Nat.pos_of_dvd_of_pos hdp hp1
        have hdl := Nat.lt_of_le_of_lt hdq hqp
        refine hn _ hd0 hdl (per_said hd0 (by rw [hul]; exact hdp) ?_ (by rw [hul]; exact Nat.le_of_lt hdl))
        rw [hul]
        exact (hd.mono (Nat.le_add_left _ _)).congr hU
    · rcases Nat.eq_or_lt_of_le hqp with e | hgt
      · subst e; exact ⟨fun _ => hpR, fun _ => hpw⟩
      · obtain ⟨d, g1, rfl⟩ : ∃ d, 1 ≤ d ∧ q = d + (b + m + 1) := ⟨q - (b + m + 1), by omega, by omega⟩
        rw [shift rfl hpw, shift rfl hpR]
        have g2 : d ≤ b := Nat.le_of_add_le_add_right hq2
        constructor
        · intro hq
          exact ((ip _ g1 g2).mp (hq.congr fun i hi => (sg_take hi).symm)).congr fun i hi => (hR0 i hi).symm
        · intro hq
          exact ((ip _ g1 g2).mpr (hq.congr hR0)).congr fun i hi => sg_take hi
theorem row_good {w r : List Int} (h : RowIs w r) : Good w r := by
  induction h with
  | one h => exact good_one h
  | two h h2 _ ih => exact good_two h h2 ih
  | @threeB w ends p h hlt h2 _ hno ih => exact good_three h hlt h2 ih (.inl rfl) fun k h1 h2 hs => hno ⟨k, h1, h2, hs⟩
  | @threeA w ends p h hlt h2 _ hex ih =>
    refine good_three h hlt h2 ih (.inr rfl) fun k h1 h3 hs => ?_
    obtain ⟨j, hj1, hj2, hj⟩ := hex
    obtain ⟨il, -, -, -⟩ := ih
    have htl : (w.take (w.length - p)).length = w.length - p := by rw [List.length_take]; omega
    rw [htl] at il
    have hl : (ends ++ List.replicate (2 * p - w.length - 1) (1 : Int)).length = p - 1 := by rw [List.length_append, List.length_replicate]; omega
    generalize ends ++ List.replicate (2 * p - w.length - 1) (1 : Int) = tn at *
    have hp1 := h.1
    obtain ⟨N, rfl⟩ : ∃ N, p = N + 1 := ⟨p - 1, by omega⟩
    rw [Nat.add_sub_cancel] at hl
    have l0 : ∀ c : Int, (tn ++ [c]).length = N + 1 := fun c => by rw [List.length_append, hl]; rfl
    obtain ⟨a1, a2⟩ := said_per hj1 (by rw [l0]; exact hj2) hj
    obtain ⟨b1, b2⟩ := said_per h1 (by rw [l0]; exact h3) hs
    rw [l0] at a1 a2 b1 b2
    have := prim hj1 h1 a1 b1 (fun i hi => by rw [← hl] at hi; rw [sg_app_l hi, sg_app_l hi]) a2 b2
    rw [sg_app_r (Nat.le_of_eq hl), sg_app_r (Nat.le_of_eq hl), hl, Nat.sub_self] at this
    exact absurd this (by decide)
end Mine
end PartQ1
section PartQ2
namespace Mine
/-- the number's quotient and rest by a power are the row's cuts -/
theorem val_cut {row : List Int} (h01 : ∀ x ∈ row, x = 0 ∨ x = 1) {p : Nat} (hp : p ≤ row.length) : val 1 row / 2 ^ p = val 1 (row.drop p) ∧ val 1 row % 2 ^ p = val 1 (row.take p) := by
  have hl : (row.take p).length = p := by rw [List.length_take]; omega
  have e : val 1 row = val 1 (row.take p) + 2 ^ p * val 1 (row.drop p) := by
    conv => lhs; rw [← List.take_append_drop p row, val_append, hl, Nat.one_mul]
  have h0 : 0 ≤ val 1 (row.take p) := val_nonneg 1 _ fun x hx => by
    rcases h01 x (List.mem_of_mem_take hx) with e | e <;> rw [e] <;> decide
  have h1 : val 1 (row.take p) < 2 ^ p := by
    have := val_lt 1 (row.take p) fun x hx => by
      rcases h01 x (List.mem_of_mem_take hx) with e | e <;> rw [e] <;> decide
    rwa [hl, Nat.one_mul] at this
  exact (Int.ediv_emod_unique (pow2_pos p)).mpr ⟨e.symm, h0, h1⟩
theorem val_inj : ∀ {xs ys : List Int}, xs.length = ys.length → (∀ x ∈ xs, x = 0 ∨ x = 1) → (∀ y ∈ ys, y = 0 ∨ y = 1) → val 1 xs = val 1 ys → xs = ys
  | [], [], _, _, _, _ => rfl
  | [], _ :: _, hl, _, _, _ => by simp at hl
  | _ :: _, [], hl, _, _, _ => by simp at hl
  | x :: xs, y :: ys, hl, hx, hy, h => by
    rw [val, val] at h
    have a := hx x (.head _)
    have b := hy y (.head _)
    have hxy : x = y ∧ val 1 xs = val 1 ys := by
      have e2 : (2 : Int) ^ 1 = 2 := by decide
      rw [e2] at h
      omega
    rw [hxy.1, val_inj (by simpa using hl) (fun z hz => hx z (.tail _ hz)) (fun z hz => hy z (.tail _ hz)) hxy.2]
theorem cut_iff {row : List Int} (h01 : ∀ x ∈ row, x = 0 ∨ x = 1) {p : Nat} (hp : p ≤ row.length) : val 1 row / 2 ^ p = val 1 row % 2 ^ (row.length - p) ↔ per (sg row) row.length p := by
  rw [(val_cut h01 hp).1, (val_cut h01 (Nat.sub_le _ p)).2, ← per_iff row hp]
  constructor
  · intro h
    exact val_inj (by rw [List.length_drop, List.length_take]; omega) (fun x hx => h01 x (List.mem_of_mem_drop hx)) (fun x hx => h01 x (List.mem_of_mem_take hx)) h
  · intro h; rw [h]
theorem horn_div (wd : List Int) (hw : ∀ x ∈ wd, 0 ≤ x ∧ x < 64) : ∀ k, k ≤ wd.length → horn wd / 2 ^ (6 * k) = horn (wd.take (wd.length - k))
  | 0, _ => by rw [Nat.sub_zero, List.take_length]; simp
  | k + 1, hk => by
    have hlt : wd.length - (k + 1) < wd.length := by omega
    have ih := horn_div wd hw k (by omega)
    have e : wd.take (wd.length - k) = wd.take (wd.length - (k + 1)) ++ [wd[wd.length - (k + 1)]] := by
      rw [show wd.length - k = wd.length - (k + 1) + 1 by omega, List.take_add_one, List.getElem?_eq_getElem hlt]; rfl
    have hb := hw _ (List.getElem_mem hlt)
    rw [Nat.mul_succ, Int.pow_add, ← Int.ediv_ediv_of_nonneg (Int.le_of_lt (pow2_pos _)), ih, e, horn_snoc]
    show (64 * _ + _) / 64 = _
    omega
theorem horn_at (wd : List Int) (hw : ∀ x ∈ wd, 0 ≤ x ∧ x < 64) {j : Nat} (hj : j < wd.length) : horn wd / 2 ^ (6 * (wd.length - 1 - j)) % 64 = wd[j] := by
  rw [horn_div wd hw _ (by omega), show wd.length - (wd.length - 1 - j) = j + 1 by omega, List.take_add_one, List.getElem?_eq_getElem hj]
  have hb := hw _ (List.getElem_mem hj)
  show horn (wd.take j ++ [wd[j]]) % 64 = _
  rw [horn_snoc]; omega
theorem num8_oct {V : Int} {sz : Nat} (h0 : 0 ≤ V) (h1 : V < 256 ^ sz) : ∀ k, k ≤ sz → num8 ((List.range k).map fun j => V / 256 ^ (sz - 1 - j) % 256) = V / 256 ^ (sz - k)
  | 0, _ => by
    rw [Nat.sub_zero, Int.ediv_eq_zero_of_lt h0 h1]; rfl
  | k + 1, hk => by
    rw [List.range_succ, List.map_append, List.map_cons, List.map_nil, num8_snoc, num8_oct h0 h1 k (by omega), show sz - k = (sz - 1 - k) + 1 by omega, show sz - (k + 1) = sz - 1 - k by omega, Int.pow_succ]
    have hp : (0 : Int) < 256 ^ (sz - 1 - k) := Int.pow_pos (by decide)
    rw [← Int.ediv_ediv_of_nonneg (Int.le_of_lt hp)]
    omega
theorem num8_octs (wd : List Int) (hw : ∀ x ∈ wd, 0 ≤ x ∧ x < 64) : num8 (octs wd) = horn wd * 2 ^ (8 * ((6 * wd.length + 7) / 8) - 6 * wd.length) := by
  have h0 := horn_nonneg wd hw
  have h1 := horn_lt wd hw
  unfold octs
  generalize hsz : (6 * wd.length + 7) / 8 = sz
  have e : 8 * sz = 6 * wd.length + (8 * sz - 6 * wd.length) := by omega
  have h2 : horn wd * 2 ^ (8 * sz - 6 * wd.length) < 256 ^ sz := by
    have e2 : (256 : Int) ^ sz = 2 ^ (6 * wd.length) * 2 ^ (8 * sz - 6 * wd.length) := by
      rw [← Int.pow_add, ← e, Int.pow_mul]; rfl
    rw [e2]
    exact Int.mul_lt_mul_of_pos_right h1 (pow2_pos _)
  rw [num8_oct (Int.mul_nonneg h0 (Int.le_of_lt (pow2_pos _))) h2 sz (Nat.le_refl _), Nat.sub_self]
  simp
theorem octs_len (wd : List Int) : (octs wd).length = (6 * wd.length + 7) / 8 := by simp [octs]
theorem sx_word (wd : List Int) (hw : ∀ x ∈ wd, 0 ≤ x ∧ x < 64) : (sx (num8 (octs wd)) (8 * (octs wd).length) (8 * (octs wd).length / 6)).take wd.length = wd := by
  rw [octs_len, num8_octs wd hw]
  generalize hsz : (6 * wd.length + 7) / 8 = sz
  refine List.ext_getElem (by rw [List.length_take, sx_length]; omega) fun j h1 h2 => ?_
  rw [List.getElem_take]
  unfold sx
  rw [List.getElem_map, List.getElem_range, show 8 * sz - 6 * (j + 1) = 6 * (wd.length - 1 - j) + (8 * sz - 6 * wd.length) by omega, Int.pow_add, Int.mul_ediv_mul_of_pos_left _ _ (pow2_pos _)]
  exact horn_at wd hw h2
theorem bs_take (wd tail : List Int) (hw : ∀ x ∈ wd, 0 ≤ x ∧ x < 64) : ((sx (num8 (octs wd)) (8 * (octs wd).length) (8 * (octs wd).length / 6)).map b64c ++ tail).take wd.length = wd.map b64c := by
  have hl : wd.length ≤ (sx (num8 (octs wd)) (8 * (octs wd).length) (8 * (octs wd).length / 6)).length := by
    rw [sx_length, octs_len]; omega
  rw [List.take_append_of_le_length (by rw [List.length_map]; exact hl), ← List.map_take, sx_word wd hw]
theorem b64_map_inj : ∀ {xs ys : List Int}, (∀ x ∈ xs, 0 ≤ x ∧ x < 64) → (∀ y ∈ ys, 0 ≤ y ∧ y < 64) → xs.map b64c = ys.map b64c → xs = ys
  | [], [], _, _, _ => rfl
  | [], _ :: _, _, _, h => by simp at h
  | _ :: _, [], _, _, h => by simp at h
  | x :: xs, y :: ys, hx, hy, h => by
    rw [List.map_cons, List.map_cons] at h
    injection h with h1 h2
    have a := hx x (.head _)
    have b := hy y (.head _)
    rw [b64c_inj a.1 a.2 b.1 b.2 h1, b64_map_inj (fun z hz => hx z (.tail _ hz)) (fun z hz => hy z (.tail _ hz)) h2]
end Mine
end PartQ2
section PartQ3
namespace Mine
theorem getD_l {a b : List Int} {i : Nat} (h : i < a.length) : (a ++ b).getD i 0 = a.getD i 0 := by
  rw [List.getD_eq_getElem?_getD, List.getD_eq_getElem?_getD, List.getElem?_append_left h]
theorem getD_r {a b : List Int} {i : Nat} (h : a.length ≤ i) : (a ++ b).getD i 0 = b.getD (i - a.length) 0 := by
  rw [List.getD_eq_getElem?_getD, List.getD_eq_getElem?_getD, List.getElem?_append_right h]
/-- the numbers from 1 to i at which f holds -/
def upto (f : Int → Bool) : Nat → List Int
  | 0 => []
  | i + 1 => upto f i ++ (if f ((i : Int) + 1) then [(i : Int) + 1] else [])
theorem upto_mem {f : Int → Bool} {x : Int} : ∀ {n : Nat}, x ∈ upto f n ↔ 1 ≤ x ∧ x ≤ n ∧ f x = true
  | 0 => by simp [upto]; omega
  | n + 1 => by
    rw [upto, List.mem_append, upto_mem]
    by_cases h : f ((n : Int) + 1) = true
    · rw [if_pos h, List.mem_singleton]
      constructor
      · rintro (⟨h1, h2, h3⟩ | e)
        · exact ⟨h1, by omega, h3⟩
        · subst e; exact ⟨by omega, by omega, h⟩
      · rintro ⟨h1, h2, h3⟩
        by_cases e : x = (n : Int) + 1
        · exact .inr e
        · exact .inl ⟨h1, by omega, h3⟩
    · rw [if_neg h]
      constructor
      · rintro (⟨h1, h2, h3⟩ | e)
        · exact ⟨h1, by omega, h3⟩
        · exact absurd e List.not_mem_nil
      · rintro ⟨h1, h2, h3⟩
        refine .inl ⟨h1, ?_, h3⟩
        by_cases e : x = (n : Int) + 1
        · subst e; exact absurd h3 h
        · omega
theorem upto_len {f : Int → Bool} : ∀ n : Nat, (upto f n).length ≤ n
  | 0 => Nat.le_refl _
  | n + 1 => by
    have := upto_len (f := f) n
    rw [upto, List.length_append]
    split
    · simp; omega
    · simp; omega
theorem upto_mono {f : Int → Bool} : ∀ n j : Nat, j + 1 < (upto f n).length → (upto f n).getD j 0 < (upto f n).getD (j + 1) 0
  | 0, j, h => by simp [upto] at h
  | n + 1, j, h => by
    have ih := upto_mono (f := f) n
    rw [upto] at h ⊢
    by_cases hf : f ((n : Int) + 1) = true
    · rw [if_pos hf] at h ⊢
      rw [List.length_append, List.length_singleton] at h
      by_cases hj : j + 1 < (upto f n).length
      · rw [getD_l (by omega), getD_l hj]
        exact ih j hj
      · have e : j + 1 = (upto f n).length := by omega
        rw [getD_l (by omega), getD_r (by omega), e, Nat.sub_self]
        have hm := upto_mem.mp (getD_mem (as := upto f n) (j := j) (by omega))
        show _ < (n : Int) + 1
        omega
    · rw [if_neg hf, List.append_nil] at h ⊢
      exact ih j h
theorem upto_last {f : Int → Bool} {n : Nat} (hn : 1 ≤ n) (hf : f n = true) : 1 ≤ (upto f n).length ∧ (upto f n).getD ((upto f n).length - 1) 0 = n := by
  obtain ⟨k, rfl⟩ : ∃ k, n = k + 1 := ⟨n - 1, by omega⟩
  have hf' : f ((k : Int) + 1) = true := by simpa using hf
  rw [upto, if_pos hf', List.length_append, List.length_singleton]
  refine ⟨by omega, ?_⟩
  rw [Nat.add_sub_cancel, getD_r (Nat.le_refl _), Nat.sub_self]
  simp
theorem upto_congr {f g : Int → Bool} : ∀ {n : Nat}, (∀ x : Int, 1 ≤ x → x ≤ n → f x = g x) → upto f n = upto g n
  | 0, _ => rfl
  | n + 1, h => by
    rw [upto, upto, upto_congr (n := n) (fun x h1 h2 => h x h1 (by omega)), h ((n : Int) + 1) (by omega) (by omega)]
theorem lacks_upto (as : List Int) : ∀ n, lacks as n = upto (fun x => !as.contains x) n
  | 0 => rfl
  | n + 1 => by
    rw [lacks_succ, lacks_upto as n, upto]
    congr 1
    by_cases h : as.contains ((n : Int) + 1) = true
    · rw [if_pos h, h]; rfl
    · rw [Bool.not_eq_true] at h
      rw [h]; rfl
/-- p is a period of the word -/
def isPer (w : List Int) (x : Int) : Bool := decide (w.drop x.toNat = w.take (w.length - x.toNat))
theorem isPer_self (w : List Int) : isPer w w.length = true := by
  unfold isPer; simp
theorem lacks_due (f : Int → Bool) (n : Nat) : lacks (upto f n) n = upto (fun x => !f x) n := by
  rw [lacks_upto]
  refine upto_congr fun x h1 h2 => ?_
  congr 1
  by_cases h : f x = true
  · rw [h, List.contains_iff_mem]; exact upto_mem.mpr ⟨h1, h2, h⟩
  · rw [Bool.not_eq_true] at h
    rw [h, ← Bool.not_eq_true, List.contains_iff_mem]
    intro hm
    rw [(upto_mem.mp hm).2.2] at h
    cases h
/-- the cut of the number tells the word's periods -/
theorem due_iff {wd row : List Int} (hrl : row.length = wd.length) (h01 : ∀ x ∈ row, x = 0 ∨ x = 1) (hper : ∀ q, 1 ≤ q → q ≤ wd.length → (per (sg wd) wd.length q ↔ per (sg row) wd.length q)) {p : Nat} (h1 : 1 ≤ p) (h2 : p ≤ wd.length) :
    (val 1 row / 2 ^ p = val 1 row % 2 ^ (wd.length - p)) ↔ isPer wd p = true := by
  have := cut_iff h01 (p := p) (by omega)
  rw [hrl] at this
  rw [this, ← hper p h1 h2, ← per_iff wd h2, isPer, Int.toNat_natCast, decide_eq_true_eq]
/-- the text's halves tell the word's periods -/
theorem sign_iff {wd : List Int} (hwi : ∀ y ∈ wd, 0 ≤ y ∧ y < 64) {p : Nat} : ((wd.map b64c).drop p = (wd.map b64c).take (wd.length - p)) ↔ isPer wd p = true := by
  rw [isPer, Int.toNat_natCast, decide_eq_true_eq, ← List.map_drop, ← List.map_take]
  refine ⟨b64_map_inj (fun x hx => hwi x (List.mem_of_mem_drop hx)) (fun x hx => hwi x (List.mem_of_mem_take hx)), fun h => by rw [h]⟩
end Mine
end PartQ3
section PartM10
open PySem PySem.W PyProof.Rows PySem.Calls PySem.Spec PyProof.Rows.LCg PyProof.Rows.LCt
namespace Mine
/-- the pairs that a list of cuts holds -/
def Cuts (V : Int) (i : Nat) (ys : List Value) (tl : Led) : Prop :=
  ys.length = i ∧ ∀ j, j < i → ∃ (q : Addr) (t t' : Tok), ys[j]? = some (.ref q) ∧ (q, tupO [.int (V / 2 ^ j) t, .int (V % 2 ^ j) t']) ∈ tl
theorem same_obj {h₀ h : Heap} {L a : Addr} {o o' : Obj} {led : Led} (N : News h₀ L h led) (h1 : (a, o) ∈ led) (h2 : (a, o') ∈ led) : o = o' := by
  have a1 := (N _ h1).1
  have a2 := (N _ h2).1
  dsimp only at a1 a2
  rw [a1] at a2
  exact Option.some.inj a2
theorem cuts_next {h₀ h : Heap} {L I C D X : Addr} {oI oC oD oX : Obj} {cs tl led' : Led} {V : Int} {i : Nat} {ys : List Value} {qd : Addr} {t t' : Tok}
    (N : News h₀ L h ((I, oI) :: (C, oC) :: (D, oD) :: (cs ++ tl))) (off : Off3 I C D (cs ++ tl)) (hX : (X, oX) ∈ cs) (hcs : ∀ p ∈ cs, p.1 ≠ 37 ∧ p.1 ≠ 44)
    (hne : ∀ p ∈ tl, p.1 ≠ X) (T37 : TabSt 37 35 4 q37 tl) (T44 : TabSt 44 50 4 q44 tl) (J : Cuts V i ys tl)
    (hk : ∀ q ∈ (I, oI) :: (C, oC) :: (D, oD) :: (cs ++ tl), q.1 ≠ 37 → q.1 ≠ 44 → q ∈ led')
    (U37 : TabTo 37 35 4 q37 ((I, oI) :: (C, oC) :: (D, oD) :: (cs ++ tl)) led') (U44 : TabTo 44 50 4 q44 ((I, oI) :: (C, oC) :: (D, oD) :: (cs ++ tl)) led')
    (hm : (qd, tupO [.int (V / 2 ^ i) t, .int (V % 2 ^ i) t']) ∈ led') (hlt : ∀ p ∈ (I, oI) :: (C, oC) :: (D, oD) :: (cs ++ tl), p.1 < qd) :
    ∃ tl', (∀ p ∈ (I, oI) :: (C, oC) :: (D, oD) :: (cs ++ tl'), p ∈ led') ∧ Off3 I C D (cs ++ tl') ∧ (∀ p ∈ tl', p.1 ≠ X) ∧ TabSt 37 35 4 q37 tl' ∧ TabSt 44 50 4 q44 tl' ∧ Cuts V (i + 1) (ys ++ [.ref qd]) tl' := by
  have hin : ∀ x ∈ tl, x ∈ (I, oI) :: (C, oC) :: (D, oD) :: (cs ++ tl) := fun x hx => .tail _ (.tail _ (.tail _ (List.mem_append_right _ hx)))
  have hinc : ∀ x ∈ cs, x ∈ (I, oI) :: (C, oC) :: (D, oD) :: (cs ++ tl) := fun x hx => .tail _ (.tail _ (.tail _ (List.mem_append_left _ hx)))
  obtain ⟨ps37, p37, s37⟩ := T37.entry
  obtain ⟨ps44, p44, s44⟩ := T44.entry
  obtain ⟨a, oa, va, ta, a1, a2, a3, a4, a5⟩ := U37.old N (fun x hx _ => hin x hx) T37
  obtain ⟨b, ob, vb, tb, b1, b2, b3, b4, b5⟩ := U44.old N (fun x hx _ => hin x hx) T44
  have offm := fun p hp => Off3.mem off p hp
  have o37 := offm _ (List.mem_append_right cs p37)
  have o44 := offm _ (List.mem_append_right cs p44)
  have hle : ∀ c : Addr, (∀ p ∈ (I, oI) :: (C, oC) :: (D, oD) :: (cs ++ tl), p.1 < c) → c ≠ I ∧ c ≠ C ∧ c ≠ D := fun c hc =>
    ⟨Ne.symm (Nat.ne_of_lt (hc _ (.head _))), Ne.symm (Nat.ne_of_lt (hc _ (.tail _ (.head _)))), Ne.symm (Nat.ne_of_lt (hc _ (.tail _ (.tail _ (.head _)))))⟩
  have hleX : ∀ c : Addr, (∀ p ∈ (I, oI) :: (C, oC) :: (D, oD) :: (cs ++ tl), p.1 < c) → c ≠ X := fun c hc => Ne.symm (Nat.ne_of_lt (hc _ (hinc _ hX)))
  have oa' : (a ≠ I ∧ a ≠ C ∧ a ≠ D) ∧ a ≠ X := by
    rcases a5 with ⟨_, h⟩ | h
    · exact ⟨offm _ (List.mem_append_right cs h), hne _ h⟩
    · exact ⟨hle _ h, hleX _ h⟩
  have ob' : (b ≠ I ∧ b ≠ C ∧ b ≠ D) ∧ b ≠ X := by
    rcases b5 with ⟨_, h⟩ | h
    · exact ⟨offm _ (List.mem_append_right cs h), hne _ h⟩
    · exact ⟨hle _ h, hleX _ h⟩
  refine ⟨(qd, tupO [.int (V / 2 ^ i) t, .int (V % 2 ^ i) t']) :: (37, tabObj (#[] ++ #[rawInt (35 : Nat), rawInt (4 : Nat), .ref a])) :: (a, oa) :: (44, tabObj (#[] ++ #[rawInt (50 : Nat), rawInt (4 : Nat), .ref b])) :: (b, ob) :: others 44 (others 37 tl), ?_, ?_, ?_, ?_, ?_, ?_⟩
  · intro p hp
    simp only [List.mem_cons, List.mem_append] at hp
    rcases hp with rfl | rfl | rfl | hp | rfl | rfl | rfl | rfl | rfl | hp
    · exact hk _ (.head _) (Ne.symm o37.1) (Ne.symm o44.1)
    · exact hk _ (.tail _ (.head _)) (Ne.symm o37.2.1) (Ne.symm o44.2.1)
    · exact hk _ (.tail _ (.tail _ (.head _))) (Ne.symm o37.2.2) (Ne.symm o44.2.2)
    · exact hk _ (hinc _ hp) (hcs _ hp).1 (hcs _ hp).2
    · exact hm
    · exact a1
    · exact a2
    · exact b1
    · exact b2
    · exact hk _ (hin _ (others_sub (others_sub hp))) (others_ne _ (others_sub hp)) (others_ne _ hp)
  · refine Off3.of fun p hp => ?_
    simp only [List.mem_cons, List.mem_append] at hp
    rcases hp with hp | rfl | rfl | rfl | rfl | rfl | hp
    · exact offm _ (List.mem_append_left _ hp)
    · exact hle _ hlt
    · exact o37
    · exact oa'.1
    · exact o44
    · exact ob'.1
    · exact offm _ (List.mem_append_right _ (others_sub (others_sub hp)))
  · intro p hp
    simp only [List.mem_cons] at hp
    rcases hp with rfl | rfl | rfl | rfl | rfl | hp
    · exact hleX _ hlt
    · exact fun e => hne _ p37 e
    · exact oa'.2
    · exact fun e => hne _ p44 e
    · exact ob'.2
    · exact hne _ (others_sub (others_sub hp))
  · exact .inr ⟨a, oa, va, ta, .tail _ (.head _), .tail _ (.tail _ (.head _)), a3, a4⟩
  · exact .inr ⟨b, ob, vb, tb, .tail _ (.tail _ (.tail _ (.head _))), .tail _ (.tail _ (.tail _ (.tail _ (.head _)))), b3, b4⟩
  · refine ⟨by rw [List.length_append, J.1]; rfl, fun j hj => ?_⟩
    by_cases e : j = i
    · subst e
      refine ⟨qd, t, t', ?_, .head _⟩
      rw [List.getElem?_append_right (by rw [J.1]; exact Nat.le_refl _), J.1, Nat.sub_self]; rfl
    · obtain ⟨q, u, u', h1, h2⟩ := J.2 j (by omega)
      have n37 : q ≠ 37 := by
        rintro rfl
        have := same_obj N (hin _ h2) (hin _ p37)
        cases this
      have n44 : q ≠ 44 := by
        rintro rfl
        have := same_obj N (hin _ h2) (hin _ p44)
        cases this
      refine ⟨q, u, u', ?_, .tail _ (.tail _ (.tail _ (.tail _ (.tail _ (others_mem (others_mem h2 n37) n44)))))⟩
      rw [List.getElem?_append_left (by rw [J.1]; omega)]; exact h1
end Mine
end PartM10
section PartM11
open PySem PySem.W PyProof.Rows PySem.Calls PySem.Spec PyProof.Rows.LCg PyProof.Rows.LCt
namespace Mine
section
variable {prog : Program} {w : World} {A : Around} {E : Value → Shared → Prop} {s : Shared} {h₀ : Heap} {L a b la lb lc ld : Addr} {led : Led} {xs zs : List Value} {ns : List Int} {c1 c2 c3 c4 : Nat} {Q : Value → Shared → Prop}
theorem reads_two (N : News h₀ L s.heap led) (m1 : (a, tupO [.ref la, .ref lb]) ∈ led) (m2 : (la, listOf xs.toArray c1) ∈ led) (m3 : (lb, listOf #[] c2) ∈ led) (hi : IntsAre xs ns) :
    ∃ as, Reads s.heap (.ref a) (.tuple [.list (ns.map PyData.int), .list []]) as :=
  ⟨_, reads_tuple_at (N _ m1).1 rfl rfl (.cons (reads_newData ⟨_, (N _ m2).1, rfl, _, rfl⟩ (ke_carried hi)) (.cons (reads_list_at (N _ m3).1 rfl rfl .nil) .nil))⟩
/-- two pairs of a list of ints and an empty list -/
theorem eq_two (N : News h₀ L s.heap led) (m1 : (a, tupO [.ref la, .ref lb]) ∈ led) (m2 : (la, listOf xs.toArray c1) ∈ led) (m3 : (lb, listOf #[] c2) ∈ led)
    (m4 : (b, tupO [.ref lc, .ref ld]) ∈ led) (m5 : (lc, listOf zs.toArray c3) ∈ led) (m6 : (ld, listOf #[] c4) ∈ led) (hi : IntsAre xs ns) (hj : IntsAre zs ns) (hu : A.units + 64 < cLine) (h : Q (.bool true) s) :
    wpAny (model prog w) A (compareOp .Eq (.ref a) (.ref b)) Q E s := by
  have hs : SeqAt.shaped (.tuple [.list (ns.map PyData.int), .list []]) = true := by
    simp [SeqAt.shaped, PyData.canLay0, PyData.canLayAll0, PyData.depth, PyData.depthAll, ke_canLayAll0, ke_depthAll]
  obtain ⟨as, ra⟩ := reads_two N m1 m2 m3 hi
  obtain ⟨bs, rb⟩ := reads_two N m4 m5 m6 hj
  refine eq_dataH ra rb hs hs hu ?_
  have e : PyData.eqv (.tuple [.list (ns.map PyData.int), .list []]) (.tuple [.list (ns.map PyData.int), .list []]) = true := by
    simp [PyData.eqv, PyData.eqvAll, ked_eqvAll]
  rw [e]; exact h
end
end Mine
end PartM11
section PartQ4
open PySem PySem.W PyProof.Rows PySem.Calls PySem.Spec PyProof.Rows.LCg PyProof.Rows.LCt
namespace Mine
theorem sign_txt {wd : List Int} (hwi : ∀ y ∈ wd, 0 ≤ y ∧ y < 64) {i : Nat} :
    (txt ((wd.map b64c).drop (1 + (i : Int)).toNat) = txt ((wd.map b64c).take ((wd.length : Int) - (1 + (i : Int))).toNat)) ↔ isPer wd ((i : Int) + 1) = true := by
  have e : ((i : Int) + 1) = ((i + 1 : Nat) : Int) := by omega
  rw [show (1 + (i : Int)).toNat = i + 1 by omega, show ((wd.length : Int) - (1 + (i : Int))).toNat = wd.length - (i + 1) by omega, e, ← sign_iff hwi]
  have h0 : ∀ x ∈ wd.map b64c, 0 ≤ x := by
    intro x hx
    obtain ⟨y, hy, rfl⟩ := List.mem_map.mp hx
    exact (b64c_in (hwi y hy).1 (hwi y hy).2).1
  exact ⟨txt_inj (fun x hx => h0 x (List.mem_of_mem_drop hx)) (fun x hx => h0 x (List.mem_of_mem_take hx)), fun h => by rw [h]⟩
theorem upto_yes {f : Int → Bool} {i : Nat} (h : f ((i : Int) + 1) = true) : upto f (i + 1) = upto f i ++ [1 + (i : Int)] := by
  rw [upto, if_pos h, Int.add_comm]
theorem upto_no {f : Int → Bool} {i : Nat} (h : ¬ f ((i : Int) + 1) = true) : upto f (i + 1) = upto f i := by
  rw [upto, if_neg h, List.append_nil]
section
variable {prog : Program} {w : World} {A : Around} {E : Value → Shared → Prop} {s : Shared} {h₀ : Heap} {L l : Addr} {led : List (Addr × Obj)} {us : List Value} {n : Nat} {v : Value} {Q : Value → Shared → Prop} {value slice : Expr} {k : Int} {u : Tok}
theorem sub_list (N : News h₀ L s.heap led) (hm : (l, lst us) ∈ led) (hk : k ≤ 1000) (h0 : 0 ≤ k) (hv : us[k.toNat]? = some v)
    (h : Q v s) (hs : subscripted slice false (.ref l) (.int k u) = operate [.ref l, .int k u] (getItem (.ref l) (.int k u)) := by with_unfolding_all rfl) :
    wpAny (model prog w) A (subscriptTail value slice (.ref l) (.int k u)) Q E s := by
  have hL : s.heap.IsList l us.toArray := ⟨_, (N _ hm).1, rfl, _, rfl⟩
  exact tail_any hL.typeIs slot_list_getitem.lookup (wpAny_getItem_list hL h0 (by omega) (by simpa using hv) h) hs
theorem sub_pair0 {a b : Value} (N : News h₀ L s.heap led) (hm : (l, tupO [a, b]) ∈ led) (h : Q a s)
    (hs : subscripted slice false (.ref l) (.int 0 u) = operate [.ref l, .int 0 u] (getItem (.ref l) (.int 0 u)) := by with_unfolding_all rfl) :
    wpAny (model prog w) A (subscriptTail value slice (.ref l) (.int 0 u)) Q E s := by
  have hL : IsTup s.heap l #[a, b] := ⟨_, (N _ hm).1, rfl, _, rfl⟩
  exact tail_any hL.typeIs slot_tuple_getitem.lookup (getItem_tuple hL (by decide) (by decide) (j := 0) rfl rfl h) hs
theorem sub_pair1 {a b : Value} (N : News h₀ L s.heap led) (hm : (l, tupO [a, b]) ∈ led) (h : Q b s)
    (hs : subscripted slice false (.ref l) (.int 1 u) = operate [.ref l, .int 1 u] (getItem (.ref l) (.int 1 u)) := by with_unfolding_all rfl) :
    wpAny (model prog w) A (subscriptTail value slice (.ref l) (.int 1 u)) Q E s := by
  have hL : IsTup s.heap l #[a, b] := ⟨_, (N _ hm).1, rfl, _, rfl⟩
  exact tail_any hL.typeIs slot_tuple_getitem.lookup (getItem_tuple hL (by decide) (by decide) (j := 1) rfl rfl h) hs
end
end Mine
end PartQ4
section PartLaw
open PySem PySem.W PyProof.Rows PySem.Calls PySem.Spec PyProof.Rows.LCg PyProof.Rows.LCt
namespace Mine
theorem strs_snoc {vs : List Value} {ys : List Str} (h : StrsAre vs ys) (y : Str) (t : Tok) : StrsAre (vs ++ [.str y t]) (ys ++ [y]) := by
  induction h with
  | nil => exact .cons _ _ .nil
  | cons z u _ ih => exact .cons _ _ ih
/-- the numbers that law works on -/
def WordAt (h₀ : Heap) (L : Addr) (m : Str → Option Value) (rest : Led) (s : Shared) (v : Value) (s₂ : Shared) : Prop :=
  ∃ (l : Addr) (us : List Value) (ns : List Int) (n0 : Nat) (h : Heap) (tk : Nat), v = .ref l ∧ s₂ = { s with heap := h, toks := tk } ∧ Fr h₀ L h m ∧ News h₀ L h ((l, listOf us.toArray n0) :: rest) ∧ (∀ p ∈ rest, p.1 < l) ∧ IntsAre us ns ∧ 1 ≤ ns.length ∧ ns.length ≤ 16
theorem WordAt.of {h₀ h : Heap} {L l : Addr} {m : Str → Option Value} {rest : Led} {s : Shared} {us : List Value} {ns : List Int} {n0 tk : Nat} {x : Addr × Obj} (F : Fr h₀ L h m) (N : News h₀ L h ((l, listOf us.toArray n0) :: x :: rest)) (lt : ∀ p ∈ rest, p.1 < l) (hi : IntsAre us ns) (h1 : 1 ≤ ns.length) (h2 : ns.length ≤ 16) :
    WordAt h₀ L m rest s (.ref l) { s with heap := h, toks := tk } :=
  ⟨l, us, ns, n0, h, tk, rfl, rfl, F, fun p hp => N p ((List.mem_cons.mp hp).elim (fun e => e ▸ .head _) (fun hp => .tail _ (.tail _ hp))), lt, hi, h1, h2⟩
theorem word_cut {M : Model} {A : Around} {E : Value → Shared → Prop} {Q : Value → Shared → Prop} {s : Shared} {h₀ : Heap} {L : Addr} {m : Str → Option Value} {rest : Led} {t : Sem Value} (F : Fr h₀ L s.heap m) (N : News h₀ L s.heap rest)
    (h1 : wpAny M A t (WordAt h₀ L m rest s) E s)
    (h2 : ∀ (l : Addr) (us : List Value) (ns : List Int) (n0 : Nat) (h : Heap) (tk : Nat), Fr h₀ L h m → News h₀ L h ((l, listOf us.toArray n0) :: rest) → (∀ p ∈ rest, p.1 < l) → IntsAre us ns → 1 ≤ ns.length → ns.length ≤ 16 → Q (.ref l) { s with heap := h, toks := tk }) : wpAny M A t Q E s :=
  wpAny_mono h1 (fun v s₂ hw => by obtain ⟨l, us, ns, n0, h, tk, rfl, rfl, f, n, a, b, c, d⟩ := hw; exact h2 l us ns n0 h tk f n a b c d) fun _ _ e => e
local macro_rules | `(tactic| walk_at "call ref") => `(tactic| refine Stop.mk ?_)
local macro_rules | `(tactic| walk_at "eval ListComp") => `(tactic| refine Stop.mk ?_)
local macro_rules | `(tactic| walk_at "eval IfExp") => `(tactic| refine Stop.mk ?_)
local macro_rules | `(tactic| walk_at "subscriptTail Call Slice str ref") => `(tactic| refine Stop.mk ?_)
local macro_rules | `(tactic| walk_at "subscriptTail Name Slice str ref") => `(tactic| refine Stop.mk ?_)
local macro_rules | `(tactic| walk_at "CompSrc") => `(tactic| refine Stop.mk ?_)
local macro_rules | `(tactic| walk_at "CompSrcT") => `(tactic| refine Stop.mk ?_)
local macro_rules | `(tactic| walk_at "binaryOp Pow int int") => `(tactic| refine Stop.mk ?_)
local macro_rules | `(tactic| walk_at "subscriptTail Name Name ref int") => `(tactic| refine Stop.mk ?_)
local macro_rules | `(tactic| walk_at "subscriptTail Name BinOp ref int") => `(tactic| refine Stop.mk ?_)
local macro_rules | `(tactic| walk_at "subscriptTail Subscript") => `(tactic| refine Stop.mk ?_)
local macro_rules | `(tactic| walk_at "call type:list") => `(tactic| refine Stop.mk ?_)
local macro_rules | `(tactic| walk_at "compareOp Eq ref ref") => `(tactic| refine Stop.mk ?_)
set_option maxRecDepth 100000 in
set_option maxHeartbeats 8000000 in
theorem law_walk : PySem.Challenge.rw_oc0103_01.Holds := Mine.hd (by
  w_top off
  k_fill
  w_strict (k_go0; (all_goals try k_fold); (all_goals k_steps))
  refine Stop.out ?_
  rename_i w8 w7 w6 vs w4 hLs ra wl r0 hI hrr hc1 hc2 hD h1 tk1 w3 w2 w1 w0 d3 d2 d1 d0 X0 X' T' K' F1 chA N1 l0
  rename Shared => s1
  replace d3 : w3.data = .cell none := d3
  replace d2 : w2.data = .cell none := d2
  replace d1 : w1.data = .cell none := d1
  replace d0 : w0.data = .cell none := d0
  refine word_cut F1 N1 ?_ ?_
  · refine IfExp_ ?_
    w_strict k_steps
    · rename Fr _ _ _ _ => F2
      rename News _ _ _ _ => N2
      rename _ ∧ _ => l1
      refine WordAt.of (ns := [125, 127, 2, 0, 4, 2, 2, 2]) F2 N2 (of_allLt ⟨l1.2.1, l1.2.2.1, l1.2.2.2.1, l1.2.2.2.2.1, l1.2.2.2.2.2.1, l1.2.2.2.2.2.2, trivial⟩) (.cons _ _ (.cons _ _ (.cons _ _ (.cons _ _ (.cons _ _ (.cons _ _ (.cons _ _ (.cons _ _ .nil)))))))) (by decide) (by decide)
    · rename Fr _ _ _ _ => F2
      rename News _ _ _ _ => N2
      rename _ ∧ _ => l1
      rename IntsAre _ (List.take 16 _) => hi2
      rename decide _ = false => hne2
      rename List Int => scr
      have hpos2 : 0 < scr.length := List.length_pos_iff.mpr (by simpa using hne2)
      refine WordAt.of F2 N2 (of_allLt ⟨l1.2.1, l1.2.2.1, l1.2.2.2.1, l1.2.2.2.2.1, l1.2.2.2.2.2.1, l1.2.2.2.2.2.2, trivial⟩) hi2 (by rw [List.length_take]; omega) (by rw [List.length_take]; omega)
  · clear F1 N1
    intro l us ns n0 h2 tk2 F1 N1 l1 hus hn1 hn16
    dsimp only
    w_strict k_steps
    refine Stop.out ?_
    refine Spec.use (word_spec _ l us ns hus hn16 n0) K' F1 X' N1 T' rfl (by decide) (by decide) (.head _) ?_
    rintro r news' h3 tk3 F2 N2 ⟨q, wv, n2, rfl, rfl, lq, hwv⟩
    clear F1 N1
    k_lt lq
    have hwl := word_len ns
    have hwi := word_in ns
    generalize ns.foldl wstep [] = wd at *
    rw [← hwl] at hn1 hn16
    clear hus hwl
    replace N2 := drops (led := (q, W.listOf wv.toArray n2) :: _) N2 (fun p hp => (List.mem_cons.mp hp).elim (fun e => e ▸ .head _) (fun hp => .tail _ (.tail _ hp)))
    dsimp only
    w_strict k_steps
    refine Stop.out ?_
    rename_i h4 o0 F3 N3 e0
    refine ListComp_S F3 rfl (by decide) rfl (by decide) rfl ?_
    w_strict k_steps
    refine Stop.out ?_
    refine Spec.use (octets_spec _ q wv wd n2 hwv hn1 hn16 hwi) K' F3 X' N3 T' rfl (by decide) (by decide) (.head _) ?_
    rintro r news' h5 tk5 F4 N4 ⟨rfl, t5, rfl⟩
    clear F3 N3
    dsimp only
    w_strict k_steps
    refine Stop.out ?_
    have hol : (octs wd).length ≤ 12 := by rw [octs, List.length_map, List.length_range]; omega
    have hoi : ∀ x ∈ octs wd, 0 ≤ x ∧ x < 256 := by
      intro x hx
      obtain ⟨j, _, rfl⟩ := List.mem_map.mp hx
      exact ⟨Int.emod_nonneg _ (by decide), Int.emod_lt_of_pos _ (by decide)⟩
    refine Spec.use (b64_spec _ (octs wd) t5 hol hoi) K' F4 X' N4 T' rfl (by decide) (by decide) trivial ?_
    rintro r news' h6 tk6 F5 N5 ⟨rfl, tail, t6, rfl, htl, htn⟩
    clear F4 N4
    dsimp only
    w_strict k_steps
    generalize hbs : (sx (num8 (octs wd)) (8 * (octs wd).length) (8 * (octs wd).length / 6)).map b64c ++ tail = bs at *
    have hbi : ∀ x ∈ bs, 0 ≤ x ∧ x < 256 := by rw [← hbs]; exact b64_all htl
    have hbt : bs.take wd.length = wd.map b64c := by rw [← hbs]; exact bs_take wd tail hwi
    have hbn : wd.length ≤ bs.length := by
      have := congrArg List.length hbt
      rw [List.length_take, List.length_map] at this; omega
    have hbl : bs.length ≤ 30 := by rw [← hbs, List.length_append, List.length_map, sx_length]; omega
    refine src_bytes hbi rfl (by omega) F5 N5 ?_
    intro h9
    refine comp_rest (fun i ys nw => nw = _ ∧ StrsAre ys ((bs.take i).map fun c => ⟨#[c.toNat]⟩)) ?_ ?_ bs.length 0 [] _ rfl ⟨rfl, StrsAre.nil⟩
    · rintro i ys nw v2 I oI C oC D m2 h10 tk10 E' hilt ⟨rfl, hys⟩ ⟨c, t8, hc, rfl⟩ hoC hm2 F6 N6 off hne
      have hcb := hbi c (List.mem_of_getElem? hc)
      w_strict k_steps
      refine LCg.CompEnd.intro (by assumption) N6 _ (fun p hp => hp) off trivial ⟨rfl, ?_⟩
      rw [List.take_add_one, hc, List.map_append]
      exact strs_snoc hys _ _
    · rintro ys nw ⟨rfl, hys⟩
      intro D h11 tk11 F6 N6 off
      clear F5 N5
      w_strict k_steps
      rw [Nat.add_zero, List.take_length] at hys
      refine join_list (items := ys.toArray) (ys := bs.map fun c => ⟨#[c.toNat]⟩) ⟨_, (N6 _ (.head _)).1, rfl, _, rfl⟩ (by simpa using hys) (join_ok bs (by omega)) ?_
      intro t9 k9
      rw [join_txt]
      clear hys
      dsimp only
      w_strict k_steps
      refine Stop.out ?_
      refine cut_to F6 N6 (by omega) (by omega) (by omega) ?_ (by with_unfolding_all rfl) (by intro _; with_unfolding_all rfl)
      intro h12 t12 tk12 F7 N7
      rw [Int.toNat_natCast, hbt]
      clear F6 N6
      replace N7 := drop1 N7
      w_strict k_steps
      refine Stop.out ?_
      rename Obj => ot
      rename Obj.data _ = Data.cell (some (Value.str _ _)) => dt
      rename Fr _ _ _ _ => F8
      rename News _ _ _ _ => N8
      refine Spec.use (row_spec _ 16 q wv wd n2 hwv hn1 hn16 hn16) K' F8 X' N8 T' rfl (by decide) (by decide) (.head _) ?_
      rintro r news' h13 tk13 F9 N9 ⟨qr, ur, nr, row, rfl, rfl, lqr, hrow, hRow, hrl⟩
      k_lt lqr
      obtain ⟨-, -, h01, hper⟩ := row_good hRow
      clear F8 N8 hRow
      dsimp only
      w_strict k_steps
      refine Stop.out ?_
      refine Spec.use (digits_spec _ qr ur row 1 _ hrow (by omega) (by decide) (by omega) (fun x hx => by rcases h01 x hx with e | e <;> rw [e] <;> decide) nr) K' F9 X' N9 T' rfl (by decide) (by decide) ⟨.head _, .inl (by k_mem), by assumption⟩ ?_
      rintro r news' h14 tk14 F10 N10 ⟨⟨hk10, c44, oc44, vs44, t44, m1, m2, e1, e2, hc44⟩, tn, rfl⟩
      replace hc44 := hc44.resolve_left (fun h => by
        have e := congrArg (fun o : Obj => o.data) (same_obj N9 h.1 (by k_mem : (44, tabObj #[]) ∈ _))
        simp at e)
      k_lt hc44
      replace N10 := drops (led := (c44, oc44) :: (_, w3) :: (_, w2) :: (_, _) :: (_, o0) :: (37, tabObj #[]) :: (44, tabObj (#[] ++ #[rawInt (50 : Nat), rawInt (4 : Nat), .ref c44])) :: []) N10 (fun p hp => by
        simp only [List.mem_cons, List.not_mem_nil, or_false] at hp
        rcases hp with e | e | e | e | e | e | e <;> subst e
        · exact m2
        · exact hk10 _ (.tail _ (.tail _ (.head _))) (neN (by omega))
        · exact hk10 _ (.tail _ (.tail _ (.tail _ (.head _)))) (neN (by omega))
        · exact hk10 _ (.tail _ (.tail _ (.tail _ (.tail _ (.head _))))) (neN (by omega))
        · exact hk10 _ (.tail _ (.tail _ (.tail _ (.tail _ (.tail _ (.head _)))))) (neN (by omega))
        · exact hk10 _ (.tail _ (.tail _ (.tail _ (.tail _ (.tail _ (.tail _ (.head _))))))) (neN (by decide))
        · exact m1)
      clear hk10 m1 m2 N9 F9 hrow
      dsimp only
      w_strict k_steps
      refine Stop.out ?_
      rename Fr _ _ _ _ => F11
      rename News _ _ _ _ => N11
      rename Obj => on
      rename Obj.data _ = Data.cell (some (Value.int (val 1 row) _)) => dn
      refine ListComp_U F11 rfl (by decide) rfl (by decide) rfl ?_
      w_strict k_steps
      refine Stop.out ?_
      rename Fr _ _ _ _ => F12
      rename News _ _ _ _ => N12
      rename IsRange _ _ _ _ _ _ _ _ => hr12
      generalize hV : val 1 row = V at *
      have hV0 : 0 ≤ V := by rw [← hV]; exact val_nonneg 1 _ fun x hx => by rcases h01 x hx with e | e <;> rw [e] <;> decide
      have hV1 : V < 2 ^ 16 := by
        rw [← hV]
        refine Int.lt_of_lt_of_le (val_lt 1 row fun x hx => by rcases h01 x hx with e | e <;> rw [e] <;> decide) (pow2_le (by omega))
      replace N12 : News _ _ _ ([(s1.heap.objs.size + 1 + 1 + 1 + 1, w3), (s1.heap.objs.size + 1 + 1 + 1, on), (s1.heap.objs.size + 1 + 1, ot), (s1.heap.objs.size + 1, o0)] ++ [(c44, oc44), (37, tabObj #[]), (44, tabObj (#[] ++ #[rawInt (50 : Nat), rawInt (4 : Nat), .ref c44]))]) := drops N12 (fun p hp => by
        simp only [List.mem_cons, List.mem_append, List.not_mem_nil, or_false] at hp ⊢
        rcases hp with (h | h | h | h) | h | h | h <;> simp [h])
      refine CompSrc.range (n := wd.length + 1) rfl F12 N12 hr12 (range_small (by decide) (by decide) (by omega) (by omega)) (by rw [rangeSize_nat]; omega) (by rw [sizeLine_eq]; omega) ?_
      intro h15
      refine comp_rest (fun i ys nw => ∃ tl, nw = [(s1.heap.objs.size + 1 + 1 + 1 + 1, w3), (s1.heap.objs.size + 1 + 1 + 1, on), (s1.heap.objs.size + 1 + 1, ot), (s1.heap.objs.size + 1, o0)] ++ tl ∧ (∀ p ∈ tl, p.1 ≠ s1.heap.objs.size + 1 + 1 + 1 + 1) ∧ TabSt 37 35 4 q37 tl ∧ TabSt 44 50 4 q44 tl ∧ Cuts V i ys tl) ?_ ?_ (wd.length + 1) 0 [] _ rfl ⟨[(c44, oc44), (37, tabObj #[]), (44, tabObj (#[] ++ #[rawInt (50 : Nat), rawInt (4 : Nat), .ref c44]))], rfl, ?_, .inl (.tail _ (.head _)), .inr ⟨c44, oc44, vs44, t44, .tail _ (.tail _ (.head _)), .head _, e1, e2⟩, rfl, fun j hj => by omega⟩
      · rintro i ys nw v2 I oI C oC D m2 h16 tk16 E' hilt ⟨tl, rfl, hX, T37, T44, hJ⟩ ⟨t16, rfl⟩ hoC hm2 F13 N13 off hne
        clear F12 N12 hr12
        rw [Int.zero_add] at hm2
        have F13k := F13
        have N13k := N13
        simp only [List.cons_append, List.nil_append] at N13
        w_strict k_steps
        refine Stop.out ?_
        refine pow_int (by decide) (by decide) (by omega) (by omega) ?_
        intro t17 tk17
        rw [Int.toNat_natCast]
        w_strict k_steps
        refine Stop.out ?_
        refine Spec.use (divmod_spec _ V i _ _ hV0 hV1 (by omega)) K' F13k X' N13k T' rfl (by decide) (by decide) ⟨T37.mono (fun x hx => .tail _ (.tail _ (.tail _ (List.mem_append_right _ hx)))), T44.mono (fun x hx => .tail _ (.tail _ (.tail _ (List.mem_append_right _ hx)))), chA, by assumption⟩ ?_
        rintro r news' h17 tk18 F14 N14 ⟨hk14, U37, U44, qd, t18, t19, rfl, hqd, hlt14⟩
        dsimp only
        w_strict k_steps
        obtain ⟨tl', c1, c2, c3, c4, c5, c6⟩ := cuts_next (oX := w3) N13k off (.head _) (fun p hp => by
          simp only [List.mem_cons, List.not_mem_nil, or_false] at hp
          rcases hp with rfl | rfl | rfl | rfl <;> exact ⟨neN (by omega), neN (by omega)⟩) hX T37 T44 hJ hk14 U37 U44 hqd hlt14
        exact LCg.CompEnd.intro (by assumption) N14 _ c1 c2 trivial ⟨tl', rfl, c3, c4, c5, c6⟩
      · rintro ys nw ⟨tl, rfl, hX, T37, T44, hlen, hcuts⟩
        intro D h17 tk17 F13 N13 off
        clear F12 N12 hr12
        obtain ⟨tl2, htl2⟩ : ∃ tl2, tl2 = (D, lst ys) :: tl := ⟨_, rfl⟩
        have hsub2 : ∀ p ∈ tl, p ∈ tl2 := fun p hp => htl2 ▸ .tail _ hp
        have hD2 : (D, lst ys) ∈ tl2 := htl2 ▸ .head _
        have hX2 : ∀ p ∈ tl2, p.1 ≠ s1.heap.objs.size + 1 + 1 + 1 + 1 := by
          rw [htl2]
          intro p hp
          rcases List.mem_cons.mp hp with rfl | hp
          · exact Ne.symm off.1
          · exact hX p hp
        obtain ⟨g37, hg37, -⟩ := T37.entry
        obtain ⟨g44, hg44, -⟩ := T44.entry
        replace hg37 := hsub2 _ hg37
        replace hg44 := hsub2 _ hg44
        replace hcuts : ∀ j, j < wd.length + 1 → ∃ (q : Addr) (t t' : Tok), ys[j]? = some (.ref q) ∧ (q, tupO [.int (V / 2 ^ j) t, .int (V % 2 ^ j) t']) ∈ tl2 := fun j hj =>
          let ⟨q, t, t', a, b⟩ := hcuts j (by omega); ⟨q, t, t', a, hsub2 _ b⟩
        replace N13 : News _ _ _ ((s1.heap.objs.size + 1 + 1 + 1 + 1, w3) :: (s1.heap.objs.size + 1 + 1 + 1, on) :: (s1.heap.objs.size + 1 + 1, ot) :: (s1.heap.objs.size + 1, o0) :: tl2) := drops N13 (fun p hp => by
          rw [htl2] at hp
          simp only [List.mem_cons, List.mem_append, List.not_mem_nil, or_false] at hp ⊢
          rcases hp with h | h | h | h | h | h <;> simp [h])
        clear htl2 hsub2 hX T37 T44 off
        w_strict k_steps
        refine Stop.out ?_
        rename Obj => ou
        rename Obj.data ou = _ => du
        rename Fr _ _ _ _ => F15
        rename News _ _ _ _ => N15
        rename IsRange _ _ _ _ _ _ _ _ => hr15
        refine CompSrcT.range (n := wd.length) rfl F15 N15 hr15 (range_small (by decide) (by decide) (by omega) (by omega)) (by rw [rangeSize_nat]; omega) (by rw [sizeLine_eq]; omega) ?_
        intro h18
        refine comp_restT (fun i ys nw => nw = _ ∧ IntsAre ys (upto (isPer wd) i)) ?_ ?_ wd.length 0 [] _ rfl ⟨rfl, IntsAre.nil⟩
        · rintro i us nw v2 I oI C oC D2 m2 h16 tk16 E' hilt ⟨rfl, hus⟩ ⟨t16, rfl⟩ hoC hm2 F16 N16 off hne
          clear F15 N15 hr15
          w_strict k_steps
          refine Stop.out ?_
          have hml : (wd.map b64c).length = wd.length := List.length_map _
          refine cut_from F16 N16 (by omega) (by omega) (by omega) ?_ (by with_unfolding_all rfl) (by intro _; with_unfolding_all rfl)
          intro h19 t19 tk19 F17 N17
          clear F16 N16
          dsimp only
          w_strict k_steps
          refine Stop.out ?_
          refine cut_to F17 N17 (by omega) (by omega) (by omega) ?_ (by with_unfolding_all rfl) (by intro _; with_unfolding_all rfl)
          intro h20 t20 tk20 F18 N18
          clear F17 N17
          dsimp only
          w_strict k_steps
          refine Stop.out ?_
          refine Spec.use (cmp_spec _ _ _ _ _) K' F18 X' N18 T' rfl (by decide) (by decide) trivial ?_
          rintro r news' h21 tk21 F19 N19 ⟨rfl, v, t21, rfl, hv⟩
          clear F18 N18
          dsimp only
          w_strict k_steps
          · refine LCg.CompEnd.intro (by assumption) N19 _ (fun p hp => hp) off trivial ⟨rfl, ?_⟩
            rw [upto_yes ((sign_txt hwi).mp (hv.mp (by assumption)))]
            exact ints_snoc hus _ _
          · refine LCg.CompEnd.intro (by assumption) N19 _ (fun p hp => hp) off trivial ⟨rfl, ?_⟩
            rw [upto_no (fun e => absurd (hv.mpr ((sign_txt hwi).mpr e)) (by assumption))]
            exact hus
        · rintro us nw ⟨rfl, hus⟩
          intro D2 h22 tk22 F20 N20 off
          clear F15 N15 hr15
          dsimp only
          w_strict k_steps
          refine Stop.out ?_
          rename Fr _ _ _ _ => F21
          rename News _ _ _ _ => N21
          rename IsRange _ _ _ _ _ _ _ _ => hr21
          refine CompSrcT.range (n := wd.length) rfl F21 N21 hr21 (range_small (by decide) (by decide) (by omega) (by omega)) (by rw [rangeSize_nat]; omega) (by rw [sizeLine_eq]; omega) ?_
          intro h23
          refine comp_restT (fun i ys nw => nw = _ ∧ IntsAre ys (upto (fun x => !isPer wd x) i)) ?_ ?_ wd.length 0 [] _ rfl ⟨rfl, IntsAre.nil⟩
          · rintro i vs nw v2 I oI C oC D3 m2 h16 tk16 E' hilt ⟨rfl, hvs⟩ ⟨t16, rfl⟩ hoC hm2 F22 N22 off2 hne
            clear F21 N21 hr21
            w_strict k_steps
            refine Stop.out ?_
            obtain ⟨qa, ta, ta', hqa, hma⟩ := hcuts (i + 1) (by omega)
            obtain ⟨qb, tb, tb', hqb, hmb⟩ := hcuts (wd.length - (i + 1)) (by omega)
            have hin2 : ∀ p ∈ tl2, p ∈ (I, oI) :: (C, oC) :: (D3, lst vs) :: (D2, lst us) :: (s1.heap.objs.size + 1 + 1 + 1 + 1, ou) :: (s1.heap.objs.size + 1 + 1 + 1, on) :: (s1.heap.objs.size + 1 + 1, ot) :: (s1.heap.objs.size + 1, o0) :: tl2 := fun p hp => .tail _ (.tail _ (.tail _ (.tail _ (.tail _ (.tail _ (.tail _ (.tail _ hp)))))))
            refine sub_list N22 (hin2 _ hD2) (by omega) (by omega) (show ys[_]? = some (.ref qa) by rw [show (1 + (i : Int)).toNat = i + 1 by omega]; exact hqa) ?_
            w_strict k_steps
            refine Stop.out ?_
            refine sub_pair0 N22 (hin2 _ hma) ?_
            w_strict k_steps
            refine Stop.out ?_
            refine sub_list N22 (hin2 _ hD2) (by omega) (by omega) (show ys[_]? = some (.ref qb) by rw [show ((wd.length : Int) - (1 + (i : Int))).toNat = wd.length - (i + 1) by omega]; exact hqb) ?_
            w_strict k_steps
            refine Stop.out ?_
            refine sub_pair1 N22 (hin2 _ hmb) ?_
            w_strict k_steps
            · refine LCg.CompEnd.intro (by assumption) N22 _ (fun p hp => hp) off2 trivial ⟨rfl, ?_⟩
              rw [upto_yes ?_]
              · exact ints_snoc hvs _ _
              · rename ¬ _ = _ => hne3
                have e3 := due_iff hrl h01 hper (p := i + 1) (by omega) (by omega)
                rw [hV] at e3
                rw [show (((i + 1 : Nat) : Int)) = (i : Int) + 1 by omega] at e3
                cases hp3 : isPer wd ((i : Int) + 1) with
                | true => exact absurd (e3.mpr hp3) hne3
                | false => rfl
            · refine LCg.CompEnd.intro (by assumption) N22 _ (fun p hp => hp) off2 trivial ⟨rfl, ?_⟩
              rw [upto_no ?_]
              · exact hvs
              · rename V / _ = _ => heq3
                have e3 := due_iff hrl h01 hper (p := i + 1) (by omega) (by omega)
                rw [hV] at e3
                rw [show (((i + 1 : Nat) : Int)) = (i : Int) + 1 by omega] at e3
                rw [e3.mp heq3]
                decide
          · rintro vs nw ⟨rfl, hvs⟩
            intro D3 h24 tk24 F22 N22 off2
            clear F21 N21 hr21
            dsimp only
            w_strict k_steps
            refine Stop.out ?_
            rename Fr _ _ _ _ => F23
            rename News _ _ _ _ => N23
            rename IsRange _ _ _ _ _ _ _ _ => hr23
            refine kll_range (n := wd.length) rfl F23 N23 hr23 (range_small (by decide) (by decide) (by omega) (by omega)) (by rw [rangeSize_nat]; omega) (by omega) ?_
            intro le ve ce h25 tk25 F24 N24 lle hve
            clear F23 N23 hr23
            dsimp only
            w_strict k_steps
            refine Stop.out ?_
            have hsl := upto_len (f := isPer wd) wd.length
            have hlast := upto_last (f := isPer wd) hn1 (isPer_self wd)
            refine diff_spec _ le D2 wd.length (rangeKs 1 wd.length) (upto (isPer wd) wd.length) ve us ce us.length hve hus (rangeKs_length _ _) hn16 (by omega) hlast.1 (fun k hk => by rw [kll_at hk]; omega) (upto_mono _) (fun j hj => (upto_mem.mp (getD_mem hj)).1) hlast.2 _ _ _ _ _ _ _ _ _ _ _ _ _ _ _ _ _ _ _ _ _ _ K' F24 X' N24 T' rfl (by decide) (by decide) ⟨.head _, by k_mem⟩ ?_
            rintro r news' h26 tk26 F25 N25 ⟨qq, lm, lu, mv, c1, c2, rfl, rfl, hmv, lqq⟩
            rw [lacks_due] at hmv
            clear F24 N24
            dsimp only
            w_strict k_steps
            refine Stop.out ?_
            rename Fr _ _ _ _ => F26
            rename News _ _ _ _ => N26
            refine eq_two N26 (.tail _ (.tail _ (.head _))) (.tail _ (.tail _ (.tail _ (.tail _ (.head _))))) (.tail _ (.tail _ (.tail _ (.head _)))) (.head _) (.tail _ (.tail _ (.tail _ (.tail _ (.tail _ (.tail _ (.head _))))))) (.tail _ (.head _)) hmv hvs (by ke_room) ?_
            replace N26 := drops (led := tl2) N26 (fun p hp => .tail _ (.tail _ (.tail _ (.tail _ (.tail _ (.tail _ (.tail _ (.tail _ (.tail _ (.tail _ (.tail _ (.tail _ hp))))))))))))
            refine ⟨?_, GrownAt.of N26 hg37, GrownAt.of N26 hg44, trivial⟩
            dsimp only
            w_strict k_steps
      · intro p hp
        simp only [List.mem_cons, List.not_mem_nil, or_false] at hp
        rcases hp with rfl | rfl | rfl <;> exact neN (by omega))
end Mine
end PartLaw
end PartAll
theorem PySem.Challenge.cw_oc0103_01_holds : PySem.Challenge.rw_oc0103_01.Holds :=
  Mine.law_walk
